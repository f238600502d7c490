import JvmDerived
import JvmDerived.Pilot.@@N@@Statement
import JvmDerived.Pilot.@@N@@Code
set_option linter.unusedVariables false
set_option linter.unusedSimpArgs false
namespace Jvm.RoadKit
open Sem ClassFile Op Lib Jvm.Stand Jvm.Free Jvm.LawKit
section New
variable {p : Program} {l : Launch} {e : Env} {R : Room} {s : State} {m : MethodId} {args : Array Value} {below : List Frame} {meth : Method} {c : Code} {T : State} {locs : List Loc} {cells slots : Nat}
theorem retI (X : Stand p l e R s m args below meth c T locs cells slots) (hx : p.tables.exec = Jvm.exec) {pc : Nat} {Ls : Array Slot} {z : Int32} {rest : List Value} (hret : meth.sig.returnType = some .int) (hd : decode c.code pc = .ok (.ireturn, 1)) {fs : List Frame}
    (hl : ∀ (f : JFrame) (acts : List Action), f.method = m → f.locked = none → f.entered = [] → (doReturn e (T.setTop f) acts (some (.int z))).1 = T.setFrames fs) : Steps p.tables e below (T.setTop (mkF m pc Ls (.int z :: rest))) (T.setFrames fs) := by
  have hm' : T.vm.method? m = some meth := X.method'
  have hn : narrow .int (.int z) = .int z := rfl
  show Steps p.tables e below (T.setTop { method := m, pc := pc, locals := Ls, stack := _ :: rest, locked := none }) _
  jvm_step X.here [X.here.top, hx, hd, hm', hret, hn]
  first | (intro acts; rw [hl _ acts rfl rfl rfl]) | rw [hl _ _ rfl rfl rfl]
  exact Steps.refl _
end New
end Jvm.RoadKit
namespace Jvm.Pilot.@@N@@
open Jvm Jvm.ClassFile Sem Op Lib Jvm.Free Jvm.Stand Jvm.LawKit Jvm.RoadKit Bundle Jvm.Pilot.@@N@@.Jvm.D
theorem own_refc {v : Value} (h : v.isRef = true) : v = .null ∨ ∃ a, v = .ref a := by cases v <;> simp_all [Value.isRef]
theorem own_narR {t : FieldType} {v : Value} (h : v.isRef = true) : narrow t v = v := by rcases own_refc h with rfl | ⟨_, rfl⟩ <;> cases t <;> rfl
theorem own_le {Z : State} {n0 : Nat} {h : Heap} (O : Old Z n0 h) : n0 ≤ h.size := O.1 ▸ O.2.1
theorem own_fitR {t : FieldType} {v : Value} (ht : refKind t = true) (h : v.isRef = true) : fits t v = true := by rcases own_refc h with rfl | ⟨_, rfl⟩ <;> cases t <;> simp_all [refKind, fits]
theorem own_root {Z : State} {a0 : Array Value} {O K : String} {n : Nat} (w : (Jvm.Cond.noSuperclass O).before a0 Z = true) (wk : (Jvm.Cond.instantiable K n).before a0 Z = true) (hn : O ≠ K) : NS Z O K := by
  obtain ⟨c, k, h1, h2, h3, -, -⟩ := Cond.noSuperclass_spec w
  obtain ⟨t, k2, g1, -⟩ := Cond.instantiable_spec wk
  have ne := ids_ne h1 g1 hn
  refine ⟨c, t, h1, g1, fun fuel => ?_⟩
  cases fuel with
  | zero => rfl
  | succ f => simp [Vm.isSubclassAux, ne, h2, h3]
theorem own_no {Z : State} {a0 : Array Value} {C S K : String} {n : Nat} (w : (Jvm.Cond.superclass C S).before a0 Z = true) (wk : (Jvm.Cond.instantiable K n).before a0 Z = true) (ns : NS Z C K) (hn : C ≠ K) : ∃ c t, Z.vm.findClass C = some c ∧ Z.vm.findClass K = some t ∧ Z.vm.assignable c t = false := by
  obtain ⟨c, t, h0, g0, n3⟩ := ns
  obtain ⟨p, k, kp, h1, h2, h3, h4, h5, -, h7⟩ := Cond.superclass_spec h0 w
  obtain ⟨q, k', g1, g2, g3, g4, -⟩ := Cond.instantiable_spec wk
  cases g0.symm.trans g1
  have ne := ids_ne h0 g0 hn
  have g5 : k'.isInterface = false := by cases hi : k'.isInterface <;> simp_all
  refine ⟨c, t, h0, g0, ?_⟩
  show Z.vm.assignableAux (255 + 1) c t = false
  simp [Vm.assignableAux, ne, h2, g2, h5, g3, g5, Vm.isSubclass, n3]
theorem own_b8 (x : Int32) : x.toInt8.toInt32.toInt8.toInt32 = x.toInt8.toInt32 := by simp
theorem own_ti {k q : Int32} {n : Int} (e : q.toInt = n) (h : n = k.toInt) : k = q := Int32.toInt_inj.mp (h.symm.trans e.symm)
theorem ne_arv {Z : State} {h : Heap} {a b : Addr} {C : String} {a0 : Array Value} {k : Nat} {kc : ClassId} {ty : FieldType} {z : Int32} {vs : List Value} {dv : Value} (F : Exa Z h a C) (wi : (Jvm.Cond.instantiable C k).before a0 Z = true) (G : Arv Z h b kc ty z vs dv) : a ≠ b := by obtain ⟨c, A, -⟩ := G; exact ne_arr F wi A
theorem own_eqi {t : Term} {n : Int32} {args : Array Value} {s : State} (h : (Jvm.Cond.eq t (.int n)).value args s none s [] = some true) : t.eval args s none [] s = some (.int n) := by
  simp only [Jvm.Cond.value] at h
  have hn : (Term.int n).eval args s none [] s = some (.int n) := rfl
  rw [hn] at h
  cases hv : t.eval args s none [] s with
  | none => simp [hv] at h
  | some x => cases x <;> simp [hv] at h ⊢; exact h
theorem d1_0 : decode method_2_code 0 = .ok (.iload_n 0, 1) := by decide +kernel
theorem d1_1 : decode method_2_code 1 = .ok (.ifCond .ne 7, 3) := by decide +kernel
theorem d1_4 : decode method_2_code 4 = .ok (.getstatic 7, 3) := by decide +kernel
theorem d1_7 : decode method_2_code 7 = .ok (.areturn, 1) := by decide +kernel
theorem d1_8 : decode method_2_code 8 = .ok (.iload_n 0, 1) := by decide +kernel
theorem d1_9 : decode method_2_code 9 = .ok (.iconst 1, 1) := by decide +kernel
theorem d1_10 : decode method_2_code 10 = .ok (.if_icmp .ne 7, 3) := by decide +kernel
theorem d1_13 : decode method_2_code 13 = .ok (.getstatic 13, 3) := by decide +kernel
theorem d1_16 : decode method_2_code 16 = .ok (.areturn, 1) := by decide +kernel
theorem d1_17 : decode method_2_code 17 = .ok (.iload_n 0, 1) := by decide +kernel
theorem d1_18 : decode method_2_code 18 = .ok (.iconst 2, 1) := by decide +kernel
theorem d1_19 : decode method_2_code 19 = .ok (.if_icmp .ne 7, 3) := by decide +kernel
theorem d1_22 : decode method_2_code 22 = .ok (.getstatic 16, 3) := by decide +kernel
theorem d1_25 : decode method_2_code 25 = .ok (.areturn, 1) := by decide +kernel
theorem d1_26 : decode method_2_code 26 = .ok (.iload_n 0, 1) := by decide +kernel
theorem d1_27 : decode method_2_code 27 = .ok (.iconst 3, 1) := by decide +kernel
theorem d1_28 : decode method_2_code 28 = .ok (.if_icmp .ne 7, 3) := by decide +kernel
theorem d1_31 : decode method_2_code 31 = .ok (.getstatic 19, 3) := by decide +kernel
theorem d1_34 : decode method_2_code 34 = .ok (.areturn, 1) := by decide +kernel
theorem d1_35 : decode method_2_code 35 = .ok (.iload_n 0, 1) := by decide +kernel
theorem d1_36 : decode method_2_code 36 = .ok (.iconst 4, 1) := by decide +kernel
theorem d1_37 : decode method_2_code 37 = .ok (.if_icmp .ne 7, 3) := by decide +kernel
theorem d1_40 : decode method_2_code 40 = .ok (.getstatic 22, 3) := by decide +kernel
theorem d1_43 : decode method_2_code 43 = .ok (.areturn, 1) := by decide +kernel
theorem d1_44 : decode method_2_code 44 = .ok (.iload_n 0, 1) := by decide +kernel
theorem d1_45 : decode method_2_code 45 = .ok (.iconst 5, 1) := by decide +kernel
theorem d1_46 : decode method_2_code 46 = .ok (.if_icmp .ne 7, 3) := by decide +kernel
theorem d1_49 : decode method_2_code 49 = .ok (.getstatic 25, 3) := by decide +kernel
theorem d1_52 : decode method_2_code 52 = .ok (.areturn, 1) := by decide +kernel
theorem d1_53 : decode method_2_code 53 = .ok (.iload_n 0, 1) := by decide +kernel
theorem d1_54 : decode method_2_code 54 = .ok (.bipush 6, 2) := by decide +kernel
theorem d1_56 : decode method_2_code 56 = .ok (.if_icmp .ne 7, 3) := by decide +kernel
theorem d1_59 : decode method_2_code 59 = .ok (.getstatic 28, 3) := by decide +kernel
theorem d1_62 : decode method_2_code 62 = .ok (.areturn, 1) := by decide +kernel
theorem d1_63 : decode method_2_code 63 = .ok (.iload_n 0, 1) := by decide +kernel
theorem d1_64 : decode method_2_code 64 = .ok (.bipush 7, 2) := by decide +kernel
theorem d1_66 : decode method_2_code 66 = .ok (.if_icmp .ne 7, 3) := by decide +kernel
theorem d1_69 : decode method_2_code 69 = .ok (.getstatic 31, 3) := by decide +kernel
theorem d1_72 : decode method_2_code 72 = .ok (.areturn, 1) := by decide +kernel
theorem d1_73 : decode method_2_code 73 = .ok (.iload_n 0, 1) := by decide +kernel
theorem d1_74 : decode method_2_code 74 = .ok (.bipush 8, 2) := by decide +kernel
theorem d1_76 : decode method_2_code 76 = .ok (.if_icmp .ne 7, 3) := by decide +kernel
theorem d1_79 : decode method_2_code 79 = .ok (.getstatic 34, 3) := by decide +kernel
theorem d1_82 : decode method_2_code 82 = .ok (.areturn, 1) := by decide +kernel
theorem d1_83 : decode method_2_code 83 = .ok (.iload_n 0, 1) := by decide +kernel
theorem d1_84 : decode method_2_code 84 = .ok (.bipush 9, 2) := by decide +kernel
theorem d1_86 : decode method_2_code 86 = .ok (.if_icmp .ne 7, 3) := by decide +kernel
theorem d1_89 : decode method_2_code 89 = .ok (.getstatic 37, 3) := by decide +kernel
theorem d1_92 : decode method_2_code 92 = .ok (.areturn, 1) := by decide +kernel
theorem d1_93 : decode method_2_code 93 = .ok (.iload_n 0, 1) := by decide +kernel
theorem d1_94 : decode method_2_code 94 = .ok (.bipush 10, 2) := by decide +kernel
theorem d1_96 : decode method_2_code 96 = .ok (.if_icmp .ne 7, 3) := by decide +kernel
theorem d1_99 : decode method_2_code 99 = .ok (.getstatic 40, 3) := by decide +kernel
theorem d1_102 : decode method_2_code 102 = .ok (.areturn, 1) := by decide +kernel
theorem d1_103 : decode method_2_code 103 = .ok (.iload_n 0, 1) := by decide +kernel
theorem d1_104 : decode method_2_code 104 = .ok (.bipush 11, 2) := by decide +kernel
theorem d1_106 : decode method_2_code 106 = .ok (.if_icmp .ne 7, 3) := by decide +kernel
theorem d1_109 : decode method_2_code 109 = .ok (.getstatic 43, 3) := by decide +kernel
theorem d1_112 : decode method_2_code 112 = .ok (.areturn, 1) := by decide +kernel
theorem d1_113 : decode method_2_code 113 = .ok (.iload_n 0, 1) := by decide +kernel
theorem d1_114 : decode method_2_code 114 = .ok (.bipush 12, 2) := by decide +kernel
theorem d1_116 : decode method_2_code 116 = .ok (.if_icmp .ne 7, 3) := by decide +kernel
theorem d1_119 : decode method_2_code 119 = .ok (.getstatic 46, 3) := by decide +kernel
theorem d1_122 : decode method_2_code 122 = .ok (.areturn, 1) := by decide +kernel
theorem d1_123 : decode method_2_code 123 = .ok (.iload_n 0, 1) := by decide +kernel
theorem d1_124 : decode method_2_code 124 = .ok (.bipush 13, 2) := by decide +kernel
theorem d1_126 : decode method_2_code 126 = .ok (.if_icmp .ne 7, 3) := by decide +kernel
theorem d1_129 : decode method_2_code 129 = .ok (.getstatic 49, 3) := by decide +kernel
theorem d1_132 : decode method_2_code 132 = .ok (.areturn, 1) := by decide +kernel
theorem d1_133 : decode method_2_code 133 = .ok (.iload_n 0, 1) := by decide +kernel
theorem d1_134 : decode method_2_code 134 = .ok (.bipush 14, 2) := by decide +kernel
theorem d1_136 : decode method_2_code 136 = .ok (.if_icmp .ne 7, 3) := by decide +kernel
theorem d1_139 : decode method_2_code 139 = .ok (.getstatic 52, 3) := by decide +kernel
theorem d1_142 : decode method_2_code 142 = .ok (.areturn, 1) := by decide +kernel
theorem d1_143 : decode method_2_code 143 = .ok (.iload_n 0, 1) := by decide +kernel
theorem d1_144 : decode method_2_code 144 = .ok (.bipush 15, 2) := by decide +kernel
theorem d1_146 : decode method_2_code 146 = .ok (.if_icmp .ne 7, 3) := by decide +kernel
theorem d1_149 : decode method_2_code 149 = .ok (.getstatic 55, 3) := by decide +kernel
theorem d1_152 : decode method_2_code 152 = .ok (.areturn, 1) := by decide +kernel
theorem d1_153 : decode method_2_code 153 = .ok (.getstatic 58, 3) := by decide +kernel
theorem d1_156 : decode method_2_code 156 = .ok (.areturn, 1) := by decide +kernel
theorem pn_com_example_callee_callee_model_CanonicalCodeOfHttpStatusPinLaw : plainName "com/example/callee/callee/model/CanonicalCodeOfHttpStatusPinLaw" = true := by first | (simp [plainName, overriddenIn]; done) | decide +kernel
theorem ef_rm1 (m : MethodId) (i0 : Int32) : entryFrame m #[(.int i0)] 1 = mkF m 0 #[.val (.int i0)] [] := by first | (simp [entryFrame, mkF, argsToLocals, Value.category]; done) | rfl
def Q_rm1 (Z : State) (i0 : Int32) (w0 : Addr) (w1 : Addr) (w2 : Addr) (w3 : Addr) (w4 : Addr) (w5 : Addr) (w6 : Addr) (w7 : Addr) (w8 : Addr) (w9 : Addr) (w10 : Addr) (w11 : Addr) (w12 : Addr) (w13 : Addr) (w14 : Addr) (w15 : Addr) (w16 : Addr) (r : Addr) (h0 : Heap) (n0 : Nat) (v : Option Value) (h : Heap) (L : List Loc) : Prop := v = some (.ref r) ∧ Fr n0 L ∧ h = h0
set_option maxRecDepth 65536 in
set_option maxHeartbeats 40000000 in
theorem rm1 (l : Launch) (Z : State) (av0 : Array Value) (hw : ∀ d ∈ tables_1, d.before av0 Z = true) (ws : List Jvm.Cond) (i0 : Int32) (w0 : Addr) (w1 : Addr) (w2 : Addr) (w3 : Addr) (w4 : Addr) (w5 : Addr) (w6 : Addr) (w7 : Addr) (w8 : Addr) (w9 : Addr) (w10 : Addr) (w11 : Addr) (w12 : Addr) (w13 : Addr) (w14 : Addr) (w15 : Addr) (w16 : Addr) (r : Addr) (h0 : Heap) (n0 : Nat) (Z0 : n0 ≤ h0.size) (p0_O : Old Z n0 h0) (p1_S : Sta Z Z.heap "com/example/callee/callee/model/CanonicalCode" "OK" "Lcom/example/callee/callee/model/CanonicalCode;" (.ref w0)) (p2_S : Sta Z Z.heap "com/example/callee/callee/model/CanonicalCode" "CANCELLED" "Lcom/example/callee/callee/model/CanonicalCode;" (.ref w1)) (p3_S : Sta Z Z.heap "com/example/callee/callee/model/CanonicalCode" "UNKNOWN" "Lcom/example/callee/callee/model/CanonicalCode;" (.ref w2)) (p4_S : Sta Z Z.heap "com/example/callee/callee/model/CanonicalCode" "INVALID_ARGUMENT" "Lcom/example/callee/callee/model/CanonicalCode;" (.ref w3)) (p5_S : Sta Z Z.heap "com/example/callee/callee/model/CanonicalCode" "DEADLINE_EXCEEDED" "Lcom/example/callee/callee/model/CanonicalCode;" (.ref w4)) (p6_S : Sta Z Z.heap "com/example/callee/callee/model/CanonicalCode" "NOT_FOUND" "Lcom/example/callee/callee/model/CanonicalCode;" (.ref w5)) (p7_S : Sta Z Z.heap "com/example/callee/callee/model/CanonicalCode" "ALREADY_EXISTS" "Lcom/example/callee/callee/model/CanonicalCode;" (.ref w6)) (p8_S : Sta Z Z.heap "com/example/callee/callee/model/CanonicalCode" "PERMISSION_DENIED" "Lcom/example/callee/callee/model/CanonicalCode;" (.ref w7)) (p9_S : Sta Z Z.heap "com/example/callee/callee/model/CanonicalCode" "RESOURCE_EXHAUSTED" "Lcom/example/callee/callee/model/CanonicalCode;" (.ref w8)) (p10_S : Sta Z Z.heap "com/example/callee/callee/model/CanonicalCode" "FAILED_PRECONDITION" "Lcom/example/callee/callee/model/CanonicalCode;" (.ref w9)) (p11_S : Sta Z Z.heap "com/example/callee/callee/model/CanonicalCode" "ABORTED" "Lcom/example/callee/callee/model/CanonicalCode;" (.ref w10)) (p12_S : Sta Z Z.heap "com/example/callee/callee/model/CanonicalCode" "OUT_OF_RANGE" "Lcom/example/callee/callee/model/CanonicalCode;" (.ref w11)) (p13_S : Sta Z Z.heap "com/example/callee/callee/model/CanonicalCode" "UNIMPLEMENTED" "Lcom/example/callee/callee/model/CanonicalCode;" (.ref w12)) (p14_S : Sta Z Z.heap "com/example/callee/callee/model/CanonicalCode" "INTERNAL" "Lcom/example/callee/callee/model/CanonicalCode;" (.ref w13)) (p15_S : Sta Z Z.heap "com/example/callee/callee/model/CanonicalCode" "UNAVAILABLE" "Lcom/example/callee/callee/model/CanonicalCode;" (.ref w14)) (p16_S : Sta Z Z.heap "com/example/callee/callee/model/CanonicalCode" "DATA_LOSS" "Lcom/example/callee/callee/model/CanonicalCode;" (.ref w15)) (p17_S : Sta Z Z.heap "com/example/callee/callee/model/CanonicalCode" "UNAUTHENTICATED" "Lcom/example/callee/callee/model/CanonicalCode;" (.ref w16)) (hr : (i0 = (0 : Int32) → r = w0) ∧ (i0 = (1 : Int32) → r = w1) ∧ (i0 = (2 : Int32) → r = w2) ∧ (i0 = (3 : Int32) → r = w3) ∧ (i0 = (4 : Int32) → r = w4) ∧ (i0 = (5 : Int32) → r = w5) ∧ (i0 = (6 : Int32) → r = w6) ∧ (i0 = (7 : Int32) → r = w7) ∧ (i0 = (8 : Int32) → r = w8) ∧ (i0 = (9 : Int32) → r = w9) ∧ (i0 = (10 : Int32) → r = w10) ∧ (i0 = (11 : Int32) → r = w11) ∧ (i0 = (12 : Int32) → r = w12) ∧ (i0 = (13 : Int32) → r = w13) ∧ (i0 = (14 : Int32) → r = w14) ∧ (i0 = (15 : Int32) → r = w15) ∧ (¬ (i0 = (0 : Int32)) → ¬ (i0 = (1 : Int32)) → ¬ (i0 = (2 : Int32)) → ¬ (i0 = (3 : Int32)) → ¬ (i0 = (4 : Int32)) → ¬ (i0 = (5 : Int32)) → ¬ (i0 = (6 : Int32)) → ¬ (i0 = (7 : Int32)) → ¬ (i0 = (8 : Int32)) → ¬ (i0 = (9 : Int32)) → ¬ (i0 = (10 : Int32)) → ¬ (i0 = (11 : Int32)) → ¬ (i0 = (12 : Int32)) → ¬ (i0 = (13 : Int32)) → ¬ (i0 = (14 : Int32)) → ¬ (i0 = (15 : Int32)) → r = w16)) :
    MetFree l (⟨"com/example/callee/callee/model/CanonicalCodeOfHttpStatusPinLaw", "codeAt", "(I)Lcom/example/callee/callee/model/CanonicalCode;"⟩ : MethodName) (head1 (Jvm.Cond.code (⟨"com/example/callee/callee/model/CanonicalCodeOfHttpStatusPinLaw", "codeAt", "(I)Lcom/example/callee/callee/model/CanonicalCode;"⟩ : MethodName) method_2_code 1 (some (.object "com/example/callee/callee/model/CanonicalCode")) :: ws) ({ frames := 0, cells := 0, slots := 0, locals := 0 } : Room)) (fun a U => a = #[(.int i0)] ∧ Z.Warmed39 U.vm ∧ U.heap = h0) (fun _ _ _ _ _ => True) (fun _ U o U' => ∃ v L, o = .returned v ∧ Q_rm1 Z i0 w0 w1 w2 w3 w4 w5 w6 w7 w8 w9 w10 w11 w12 w13 w14 w15 w16 r h0 n0 v U'.heap L ∧ FrameEnd U o U' L ({ frames := 0, cells := 0, slots := 0, locals := 0 } : Room).cells ({ frames := 0, cells := 0, slots := 0, locals := 0 } : Room).slots) := by
  refine MetFree.of_bodySF (plainFor_of_name pn_com_example_callee_callee_model_CanonicalCodeOfHttpStatusPinLaw) hisR ?_
  intro p e s m args below meth c s₁ Bd hml0 hP hK
  obtain ⟨rfl, hZ, hh⟩ := hP
  have hx := Bd.exec
  have hby := Bd.bytes
  have hml : c.maxLocals = 1 := hml0
  have hown : s.vm.findClass "com/example/callee/callee/model/CanonicalCodeOfHttpStatusPinLaw" = some m.cls := findClass_of_methodNamed Bd.named
  have hnm := (name_of_methodNamed Bd.named Bd.method).1
  have X0 : Stand p l e ({ frames := 0, cells := 0, slots := 0, locals := 0 } : Room) s m #[(.int i0)] below meth c s₁ [] 0 0 := Stand.of_body Bd
  have e0 : s₁.heap = h0 := by rw [← hh, Bd.state]; rfl
  have N0 := Fr.nil n0
  have pre0 : ∀ tz_, Steps p.tables e below (s₁.setTop (mkF m 0 #[.val (.int i0)] [])) tz_ → Steps p.tables e below (s₁.setTop (entryFrame m #[(.int i0)] 1)) tz_ := fun tz_ kz_ => castTop (ef_rm1 m i0) kz_
  have pre31 : ∀ tz_, Steps p.tables e below (s₁.setTop (mkF m 1 #[.val (.int i0)] [(.int i0)])) tz_ → Steps p.tables e below (s₁.setTop (entryFrame m #[(.int i0)] 1)) tz_ := fun tz_ kk => pre0 tz_ (by
    show Steps p.tables e below (s₁.setTop (mkF m 0 #[.val (.int i0)] [])) _
    refine XS.iloadN X0.here hx rfl (hb hby d1_0) rfl ?_
    exact kk)
  by_cases hc32 : i0 = (0 : Int32)
  · skip
    obtain ⟨T33, X33, e33, st33⟩ := getS2 X0 hx hZ hown (host := "") (Or.inl (hw _ (List.mem_of_getElem? (i := 20) rfl))) Via.refl e0 (p1_S.ext p0_O.2) (g := (mkF m 4 #[.val (.int i0)] [])) rfl (hb hby d1_4)
    obtain ⟨fs, hrL, hrun, hended, hW, hsame⟩ := X33.leave (v := some (.ref w0)) (fun h => by rw [Bd.returns] at h; cases h)
    refine ⟨_, _, pre31 _ ?_, hrun, hended, _, _, rfl, ?_, ⟨_, rfl⟩, hW, hsame.mono (by decide) (by decide)⟩
    · show Steps p.tables e below (s₁.setTop (mkF m 1 #[.val (.int i0)] [(.int i0)])) _
      refine XS.ifNo X0.here hx rfl (hb hby d1_1) rfl ((if0 _ _).trans (teq hc32).2) ?_
      show Steps p.tables e below (s₁.setTop (mkF m 4 #[.val (.int i0)] [])) _
      refine st33 _ ?_
      show Steps p.tables e below (T33.setTop (mkF m 7 #[.val (.int i0)] [(.ref w0)])) _
      exact retOut X33 hx Bd.returns rfl (Or.inr (Or.inr (Or.inr (Or.inr ⟨rfl, rfl, rfl⟩)))) (hb hby d1_7) hrL
    · show Q_rm1 _ _ _ _ _ _ _ _ _ _ _ _ _ _ _ _ _ _ _ _ _ _ _  T33.heap _
      rw [e33]
      exact ⟨congrArg (fun z => some (Value.ref z)) (hr.1 hc32).symm, N0, rfl⟩
  · skip
    have pre34 : ∀ tz_, Steps p.tables e below (s₁.setTop (mkF m 10 #[.val (.int i0)] [(.int 1), (.int i0)])) tz_ → Steps p.tables e below (s₁.setTop (entryFrame m #[(.int i0)] 1)) tz_ := fun tz_ kk => pre31 tz_ (by
      show Steps p.tables e below (s₁.setTop (mkF m 1 #[.val (.int i0)] [(.int i0)])) _
      refine XS.ifYes X0.here hx rfl (pc0 := 1) (pc' := 8) rfl (hb hby d1_1) rfl ((if0 _ _).trans (feq hc32).2) (by decide) (by decide) ?_
      refine XS.iloadN X0.here hx rfl (hb hby d1_8) rfl ?_
      refine XS.iconst X0.here hx rfl (hb hby d1_9) ?_
      exact kk)
    by_cases hc35 : i0 = (1 : Int32)
    · skip
      obtain ⟨T36, X36, e36, st36⟩ := getS2 X0 hx hZ hown (host := "") (Or.inl (hw _ (List.mem_of_getElem? (i := 41) rfl))) Via.refl e0 (p2_S.ext p0_O.2) (g := (mkF m 13 #[.val (.int i0)] [])) rfl (hb hby d1_13)
      obtain ⟨fs, hrL, hrun, hended, hW, hsame⟩ := X36.leave (v := some (.ref w1)) (fun h => by rw [Bd.returns] at h; cases h)
      refine ⟨_, _, pre34 _ ?_, hrun, hended, _, _, rfl, ?_, ⟨_, rfl⟩, hW, hsame.mono (by decide) (by decide)⟩
      · show Steps p.tables e below (s₁.setTop (mkF m 10 #[.val (.int i0)] [(.int 1), (.int i0)])) _
        refine XS.icmpNo X0.here hx rfl (hb hby d1_10) rfl (teq hc35).2 ?_
        show Steps p.tables e below (s₁.setTop (mkF m 13 #[.val (.int i0)] [])) _
        refine st36 _ ?_
        show Steps p.tables e below (T36.setTop (mkF m 16 #[.val (.int i0)] [(.ref w1)])) _
        exact retOut X36 hx Bd.returns rfl (Or.inr (Or.inr (Or.inr (Or.inr ⟨rfl, rfl, rfl⟩)))) (hb hby d1_16) hrL
      · show Q_rm1 _ _ _ _ _ _ _ _ _ _ _ _ _ _ _ _ _ _ _ _ _ _ _  T36.heap _
        rw [e36]
        exact ⟨congrArg (fun z => some (Value.ref z)) (hr.2.1 hc35).symm, N0, rfl⟩
    · skip
      have pre37 : ∀ tz_, Steps p.tables e below (s₁.setTop (mkF m 19 #[.val (.int i0)] [(.int 2), (.int i0)])) tz_ → Steps p.tables e below (s₁.setTop (entryFrame m #[(.int i0)] 1)) tz_ := fun tz_ kk => pre34 tz_ (by
        show Steps p.tables e below (s₁.setTop (mkF m 10 #[.val (.int i0)] [(.int 1), (.int i0)])) _
        refine XS.icmpYes X0.here hx rfl (pc0 := 10) (pc' := 17) rfl (hb hby d1_10) rfl (feq hc35).2 (by decide) (by decide) ?_
        refine XS.iloadN X0.here hx rfl (hb hby d1_17) rfl ?_
        refine XS.iconst X0.here hx rfl (hb hby d1_18) ?_
        exact kk)
      by_cases hc38 : i0 = (2 : Int32)
      · skip
        obtain ⟨T39, X39, e39, st39⟩ := getS2 X0 hx hZ hown (host := "") (Or.inl (hw _ (List.mem_of_getElem? (i := 22) rfl))) Via.refl e0 (p3_S.ext p0_O.2) (g := (mkF m 22 #[.val (.int i0)] [])) rfl (hb hby d1_22)
        obtain ⟨fs, hrL, hrun, hended, hW, hsame⟩ := X39.leave (v := some (.ref w2)) (fun h => by rw [Bd.returns] at h; cases h)
        refine ⟨_, _, pre37 _ ?_, hrun, hended, _, _, rfl, ?_, ⟨_, rfl⟩, hW, hsame.mono (by decide) (by decide)⟩
        · show Steps p.tables e below (s₁.setTop (mkF m 19 #[.val (.int i0)] [(.int 2), (.int i0)])) _
          refine XS.icmpNo X0.here hx rfl (hb hby d1_19) rfl (teq hc38).2 ?_
          show Steps p.tables e below (s₁.setTop (mkF m 22 #[.val (.int i0)] [])) _
          refine st39 _ ?_
          show Steps p.tables e below (T39.setTop (mkF m 25 #[.val (.int i0)] [(.ref w2)])) _
          exact retOut X39 hx Bd.returns rfl (Or.inr (Or.inr (Or.inr (Or.inr ⟨rfl, rfl, rfl⟩)))) (hb hby d1_25) hrL
        · show Q_rm1 _ _ _ _ _ _ _ _ _ _ _ _ _ _ _ _ _ _ _ _ _ _ _  T39.heap _
          rw [e39]
          exact ⟨congrArg (fun z => some (Value.ref z)) (hr.2.2.1 hc38).symm, N0, rfl⟩
      · skip
        have pre40 : ∀ tz_, Steps p.tables e below (s₁.setTop (mkF m 28 #[.val (.int i0)] [(.int 3), (.int i0)])) tz_ → Steps p.tables e below (s₁.setTop (entryFrame m #[(.int i0)] 1)) tz_ := fun tz_ kk => pre37 tz_ (by
          show Steps p.tables e below (s₁.setTop (mkF m 19 #[.val (.int i0)] [(.int 2), (.int i0)])) _
          refine XS.icmpYes X0.here hx rfl (pc0 := 19) (pc' := 26) rfl (hb hby d1_19) rfl (feq hc38).2 (by decide) (by decide) ?_
          refine XS.iloadN X0.here hx rfl (hb hby d1_26) rfl ?_
          show Steps p.tables e below (s₁.setTop (mkF m 27 #[.val (.int i0)] [(.int i0)])) _
          refine XS.iconst X0.here hx rfl (hb hby d1_27) ?_
          exact kk)
        by_cases hc41 : i0 = (3 : Int32)
        · skip
          obtain ⟨T42, X42, e42, st42⟩ := getS2 X0 hx hZ hown (host := "") (Or.inl (hw _ (List.mem_of_getElem? (i := 5) rfl))) Via.refl e0 (p4_S.ext p0_O.2) (g := (mkF m 31 #[.val (.int i0)] [])) rfl (hb hby d1_31)
          obtain ⟨fs, hrL, hrun, hended, hW, hsame⟩ := X42.leave (v := some (.ref w3)) (fun h => by rw [Bd.returns] at h; cases h)
          refine ⟨_, _, pre40 _ ?_, hrun, hended, _, _, rfl, ?_, ⟨_, rfl⟩, hW, hsame.mono (by decide) (by decide)⟩
          · show Steps p.tables e below (s₁.setTop (mkF m 28 #[.val (.int i0)] [(.int 3), (.int i0)])) _
            refine XS.icmpNo X0.here hx rfl (hb hby d1_28) rfl (teq hc41).2 ?_
            show Steps p.tables e below (s₁.setTop (mkF m 31 #[.val (.int i0)] [])) _
            refine st42 _ ?_
            show Steps p.tables e below (T42.setTop (mkF m 34 #[.val (.int i0)] [(.ref w3)])) _
            exact retOut X42 hx Bd.returns rfl (Or.inr (Or.inr (Or.inr (Or.inr ⟨rfl, rfl, rfl⟩)))) (hb hby d1_34) hrL
          · show Q_rm1 _ _ _ _ _ _ _ _ _ _ _ _ _ _ _ _ _ _ _ _ _ _ _  T42.heap _
            rw [e42]
            exact ⟨congrArg (fun z => some (Value.ref z)) (hr.2.2.2.1 hc41).symm, N0, rfl⟩
        · skip
          have pre43 : ∀ tz_, Steps p.tables e below (s₁.setTop (mkF m 37 #[.val (.int i0)] [(.int 4), (.int i0)])) tz_ → Steps p.tables e below (s₁.setTop (entryFrame m #[(.int i0)] 1)) tz_ := fun tz_ kk => pre40 tz_ (by
            show Steps p.tables e below (s₁.setTop (mkF m 28 #[.val (.int i0)] [(.int 3), (.int i0)])) _
            refine XS.icmpYes X0.here hx rfl (pc0 := 28) (pc' := 35) rfl (hb hby d1_28) rfl (feq hc41).2 (by decide) (by decide) ?_
            show Steps p.tables e below (s₁.setTop (mkF m 35 #[.val (.int i0)] [])) _
            refine XS.iloadN X0.here hx rfl (hb hby d1_35) rfl ?_
            refine XS.iconst X0.here hx rfl (hb hby d1_36) ?_
            exact kk)
          by_cases hc44 : i0 = (4 : Int32)
          · skip
            obtain ⟨T45, X45, e45, st45⟩ := getS2 X0 hx hZ hown (host := "") (Or.inl (hw _ (List.mem_of_getElem? (i := 57) rfl))) Via.refl e0 (p5_S.ext p0_O.2) (g := (mkF m 40 #[.val (.int i0)] [])) rfl (hb hby d1_40)
            obtain ⟨fs, hrL, hrun, hended, hW, hsame⟩ := X45.leave (v := some (.ref w4)) (fun h => by rw [Bd.returns] at h; cases h)
            refine ⟨_, _, pre43 _ ?_, hrun, hended, _, _, rfl, ?_, ⟨_, rfl⟩, hW, hsame.mono (by decide) (by decide)⟩
            · show Steps p.tables e below (s₁.setTop (mkF m 37 #[.val (.int i0)] [(.int 4), (.int i0)])) _
              refine XS.icmpNo X0.here hx rfl (hb hby d1_37) rfl (teq hc44).2 ?_
              show Steps p.tables e below (s₁.setTop (mkF m 40 #[.val (.int i0)] [])) _
              refine st45 _ ?_
              show Steps p.tables e below (T45.setTop (mkF m 43 #[.val (.int i0)] [(.ref w4)])) _
              exact retOut X45 hx Bd.returns rfl (Or.inr (Or.inr (Or.inr (Or.inr ⟨rfl, rfl, rfl⟩)))) (hb hby d1_43) hrL
            · show Q_rm1 _ _ _ _ _ _ _ _ _ _ _ _ _ _ _ _ _ _ _ _ _ _ _  T45.heap _
              rw [e45]
              exact ⟨congrArg (fun z => some (Value.ref z)) (hr.2.2.2.2.1 hc44).symm, N0, rfl⟩
          · skip
            have pre46 : ∀ tz_, Steps p.tables e below (s₁.setTop (mkF m 46 #[.val (.int i0)] [(.int 5), (.int i0)])) tz_ → Steps p.tables e below (s₁.setTop (entryFrame m #[(.int i0)] 1)) tz_ := fun tz_ kk => pre43 tz_ (by
              show Steps p.tables e below (s₁.setTop (mkF m 37 #[.val (.int i0)] [(.int 4), (.int i0)])) _
              refine XS.icmpYes X0.here hx rfl (pc0 := 37) (pc' := 44) rfl (hb hby d1_37) rfl (feq hc44).2 (by decide) (by decide) ?_
              refine XS.iloadN X0.here hx rfl (hb hby d1_44) rfl ?_
              refine XS.iconst X0.here hx rfl (hb hby d1_45) ?_
              exact kk)
            by_cases hc47 : i0 = (5 : Int32)
            · skip
              obtain ⟨T48, X48, e48, st48⟩ := getS2 X0 hx hZ hown (host := "") (Or.inl (hw _ (List.mem_of_getElem? (i := 37) rfl))) Via.refl e0 (p6_S.ext p0_O.2) (g := (mkF m 49 #[.val (.int i0)] [])) rfl (hb hby d1_49)
              obtain ⟨fs, hrL, hrun, hended, hW, hsame⟩ := X48.leave (v := some (.ref w5)) (fun h => by rw [Bd.returns] at h; cases h)
              refine ⟨_, _, pre46 _ ?_, hrun, hended, _, _, rfl, ?_, ⟨_, rfl⟩, hW, hsame.mono (by decide) (by decide)⟩
              · show Steps p.tables e below (s₁.setTop (mkF m 46 #[.val (.int i0)] [(.int 5), (.int i0)])) _
                refine XS.icmpNo X0.here hx rfl (hb hby d1_46) rfl (teq hc47).2 ?_
                show Steps p.tables e below (s₁.setTop (mkF m 49 #[.val (.int i0)] [])) _
                refine st48 _ ?_
                show Steps p.tables e below (T48.setTop (mkF m 52 #[.val (.int i0)] [(.ref w5)])) _
                exact retOut X48 hx Bd.returns rfl (Or.inr (Or.inr (Or.inr (Or.inr ⟨rfl, rfl, rfl⟩)))) (hb hby d1_52) hrL
              · show Q_rm1 _ _ _ _ _ _ _ _ _ _ _ _ _ _ _ _ _ _ _ _ _ _ _  T48.heap _
                rw [e48]
                exact ⟨congrArg (fun z => some (Value.ref z)) (hr.2.2.2.2.2.1 hc47).symm, N0, rfl⟩
            · skip
              have pre49 : ∀ tz_, Steps p.tables e below (s₁.setTop (mkF m 56 #[.val (.int i0)] [(.int 6), (.int i0)])) tz_ → Steps p.tables e below (s₁.setTop (entryFrame m #[(.int i0)] 1)) tz_ := fun tz_ kk => pre46 tz_ (by
                show Steps p.tables e below (s₁.setTop (mkF m 46 #[.val (.int i0)] [(.int 5), (.int i0)])) _
                refine XS.icmpYes X0.here hx rfl (pc0 := 46) (pc' := 53) rfl (hb hby d1_46) rfl (feq hc47).2 (by decide) (by decide) ?_
                refine XS.iloadN X0.here hx rfl (hb hby d1_53) rfl ?_
                refine XS.bipush X0.here hx rfl (hb hby d1_54) ?_
                exact kk)
              by_cases hc50 : i0 = (6 : Int32)
              · skip
                obtain ⟨T51, X51, e51, st51⟩ := getS2 X0 hx hZ hown (host := "") (Or.inl (hw _ (List.mem_of_getElem? (i := 27) rfl))) Via.refl e0 (p7_S.ext p0_O.2) (g := (mkF m 59 #[.val (.int i0)] [])) rfl (hb hby d1_59)
                obtain ⟨fs, hrL, hrun, hended, hW, hsame⟩ := X51.leave (v := some (.ref w6)) (fun h => by rw [Bd.returns] at h; cases h)
                refine ⟨_, _, pre49 _ ?_, hrun, hended, _, _, rfl, ?_, ⟨_, rfl⟩, hW, hsame.mono (by decide) (by decide)⟩
                · show Steps p.tables e below (s₁.setTop (mkF m 56 #[.val (.int i0)] [(.int 6), (.int i0)])) _
                  refine XS.icmpNo X0.here hx rfl (hb hby d1_56) rfl (teq hc50).2 ?_
                  show Steps p.tables e below (s₁.setTop (mkF m 59 #[.val (.int i0)] [])) _
                  refine st51 _ ?_
                  show Steps p.tables e below (T51.setTop (mkF m 62 #[.val (.int i0)] [(.ref w6)])) _
                  exact retOut X51 hx Bd.returns rfl (Or.inr (Or.inr (Or.inr (Or.inr ⟨rfl, rfl, rfl⟩)))) (hb hby d1_62) hrL
                · show Q_rm1 _ _ _ _ _ _ _ _ _ _ _ _ _ _ _ _ _ _ _ _ _ _ _  T51.heap _
                  rw [e51]
                  exact ⟨congrArg (fun z => some (Value.ref z)) (hr.2.2.2.2.2.2.1 hc50).symm, N0, rfl⟩
              · skip
                have pre52 : ∀ tz_, Steps p.tables e below (s₁.setTop (mkF m 66 #[.val (.int i0)] [(.int 7), (.int i0)])) tz_ → Steps p.tables e below (s₁.setTop (entryFrame m #[(.int i0)] 1)) tz_ := fun tz_ kk => pre49 tz_ (by
                  show Steps p.tables e below (s₁.setTop (mkF m 56 #[.val (.int i0)] [(.int 6), (.int i0)])) _
                  refine XS.icmpYes X0.here hx rfl (pc0 := 56) (pc' := 63) rfl (hb hby d1_56) rfl (feq hc50).2 (by decide) (by decide) ?_
                  refine XS.iloadN X0.here hx rfl (hb hby d1_63) rfl ?_
                  show Steps p.tables e below (s₁.setTop (mkF m 64 #[.val (.int i0)] [(.int i0)])) _
                  refine XS.bipush X0.here hx rfl (hb hby d1_64) ?_
                  exact kk)
                by_cases hc53 : i0 = (7 : Int32)
                · skip
                  obtain ⟨T54, X54, e54, st54⟩ := getS2 X0 hx hZ hown (host := "") (Or.inl (hw _ (List.mem_of_getElem? (i := 47) rfl))) Via.refl e0 (p8_S.ext p0_O.2) (g := (mkF m 69 #[.val (.int i0)] [])) rfl (hb hby d1_69)
                  obtain ⟨fs, hrL, hrun, hended, hW, hsame⟩ := X54.leave (v := some (.ref w7)) (fun h => by rw [Bd.returns] at h; cases h)
                  refine ⟨_, _, pre52 _ ?_, hrun, hended, _, _, rfl, ?_, ⟨_, rfl⟩, hW, hsame.mono (by decide) (by decide)⟩
                  · show Steps p.tables e below (s₁.setTop (mkF m 66 #[.val (.int i0)] [(.int 7), (.int i0)])) _
                    refine XS.icmpNo X0.here hx rfl (hb hby d1_66) rfl (teq hc53).2 ?_
                    show Steps p.tables e below (s₁.setTop (mkF m 69 #[.val (.int i0)] [])) _
                    refine st54 _ ?_
                    show Steps p.tables e below (T54.setTop (mkF m 72 #[.val (.int i0)] [(.ref w7)])) _
                    exact retOut X54 hx Bd.returns rfl (Or.inr (Or.inr (Or.inr (Or.inr ⟨rfl, rfl, rfl⟩)))) (hb hby d1_72) hrL
                  · show Q_rm1 _ _ _ _ _ _ _ _ _ _ _ _ _ _ _ _ _ _ _ _ _ _ _  T54.heap _
                    rw [e54]
                    exact ⟨congrArg (fun z => some (Value.ref z)) (hr.2.2.2.2.2.2.2.1 hc53).symm, N0, rfl⟩
                · skip
                  have pre55 : ∀ tz_, Steps p.tables e below (s₁.setTop (mkF m 76 #[.val (.int i0)] [(.int 8), (.int i0)])) tz_ → Steps p.tables e below (s₁.setTop (entryFrame m #[(.int i0)] 1)) tz_ := fun tz_ kk => pre52 tz_ (by
                    show Steps p.tables e below (s₁.setTop (mkF m 66 #[.val (.int i0)] [(.int 7), (.int i0)])) _
                    refine XS.icmpYes X0.here hx rfl (pc0 := 66) (pc' := 73) rfl (hb hby d1_66) rfl (feq hc53).2 (by decide) (by decide) ?_
                    show Steps p.tables e below (s₁.setTop (mkF m 73 #[.val (.int i0)] [])) _
                    refine XS.iloadN X0.here hx rfl (hb hby d1_73) rfl ?_
                    refine XS.bipush X0.here hx rfl (hb hby d1_74) ?_
                    exact kk)
                  by_cases hc56 : i0 = (8 : Int32)
                  · skip
                    obtain ⟨T57, X57, e57, st57⟩ := getS2 X0 hx hZ hown (host := "") (Or.inl (hw _ (List.mem_of_getElem? (i := 44) rfl))) Via.refl e0 (p9_S.ext p0_O.2) (g := (mkF m 79 #[.val (.int i0)] [])) rfl (hb hby d1_79)
                    obtain ⟨fs, hrL, hrun, hended, hW, hsame⟩ := X57.leave (v := some (.ref w8)) (fun h => by rw [Bd.returns] at h; cases h)
                    refine ⟨_, _, pre55 _ ?_, hrun, hended, _, _, rfl, ?_, ⟨_, rfl⟩, hW, hsame.mono (by decide) (by decide)⟩
                    · show Steps p.tables e below (s₁.setTop (mkF m 76 #[.val (.int i0)] [(.int 8), (.int i0)])) _
                      refine XS.icmpNo X0.here hx rfl (hb hby d1_76) rfl (teq hc56).2 ?_
                      show Steps p.tables e below (s₁.setTop (mkF m 79 #[.val (.int i0)] [])) _
                      refine st57 _ ?_
                      show Steps p.tables e below (T57.setTop (mkF m 82 #[.val (.int i0)] [(.ref w8)])) _
                      exact retOut X57 hx Bd.returns rfl (Or.inr (Or.inr (Or.inr (Or.inr ⟨rfl, rfl, rfl⟩)))) (hb hby d1_82) hrL
                    · show Q_rm1 _ _ _ _ _ _ _ _ _ _ _ _ _ _ _ _ _ _ _ _ _ _ _  T57.heap _
                      rw [e57]
                      exact ⟨congrArg (fun z => some (Value.ref z)) (hr.2.2.2.2.2.2.2.2.1 hc56).symm, N0, rfl⟩
                  · skip
                    have pre58 : ∀ tz_, Steps p.tables e below (s₁.setTop (mkF m 86 #[.val (.int i0)] [(.int 9), (.int i0)])) tz_ → Steps p.tables e below (s₁.setTop (entryFrame m #[(.int i0)] 1)) tz_ := fun tz_ kk => pre55 tz_ (by
                      show Steps p.tables e below (s₁.setTop (mkF m 76 #[.val (.int i0)] [(.int 8), (.int i0)])) _
                      refine XS.icmpYes X0.here hx rfl (pc0 := 76) (pc' := 83) rfl (hb hby d1_76) rfl (feq hc56).2 (by decide) (by decide) ?_
                      refine XS.iloadN X0.here hx rfl (hb hby d1_83) rfl ?_
                      refine XS.bipush X0.here hx rfl (hb hby d1_84) ?_
                      exact kk)
                    by_cases hc59 : i0 = (9 : Int32)
                    · skip
                      obtain ⟨T60, X60, e60, st60⟩ := getS2 X0 hx hZ hown (host := "") (Or.inl (hw _ (List.mem_of_getElem? (i := 31) rfl))) Via.refl e0 (p10_S.ext p0_O.2) (g := (mkF m 89 #[.val (.int i0)] [])) rfl (hb hby d1_89)
                      obtain ⟨fs, hrL, hrun, hended, hW, hsame⟩ := X60.leave (v := some (.ref w9)) (fun h => by rw [Bd.returns] at h; cases h)
                      refine ⟨_, _, pre58 _ ?_, hrun, hended, _, _, rfl, ?_, ⟨_, rfl⟩, hW, hsame.mono (by decide) (by decide)⟩
                      · show Steps p.tables e below (s₁.setTop (mkF m 86 #[.val (.int i0)] [(.int 9), (.int i0)])) _
                        refine XS.icmpNo X0.here hx rfl (hb hby d1_86) rfl (teq hc59).2 ?_
                        show Steps p.tables e below (s₁.setTop (mkF m 89 #[.val (.int i0)] [])) _
                        refine st60 _ ?_
                        show Steps p.tables e below (T60.setTop (mkF m 92 #[.val (.int i0)] [(.ref w9)])) _
                        exact retOut X60 hx Bd.returns rfl (Or.inr (Or.inr (Or.inr (Or.inr ⟨rfl, rfl, rfl⟩)))) (hb hby d1_92) hrL
                      · show Q_rm1 _ _ _ _ _ _ _ _ _ _ _ _ _ _ _ _ _ _ _ _ _ _ _  T60.heap _
                        rw [e60]
                        exact ⟨congrArg (fun z => some (Value.ref z)) (hr.2.2.2.2.2.2.2.2.2.1 hc59).symm, N0, rfl⟩
                    · skip
                      have pre61 : ∀ tz_, Steps p.tables e below (s₁.setTop (mkF m 96 #[.val (.int i0)] [(.int 10), (.int i0)])) tz_ → Steps p.tables e below (s₁.setTop (entryFrame m #[(.int i0)] 1)) tz_ := fun tz_ kk => pre58 tz_ (by
                        show Steps p.tables e below (s₁.setTop (mkF m 86 #[.val (.int i0)] [(.int 9), (.int i0)])) _
                        refine XS.icmpYes X0.here hx rfl (pc0 := 86) (pc' := 93) rfl (hb hby d1_86) rfl (feq hc59).2 (by decide) (by decide) ?_
                        refine XS.iloadN X0.here hx rfl (hb hby d1_93) rfl ?_
                        refine XS.bipush X0.here hx rfl (hb hby d1_94) ?_
                        exact kk)
                      by_cases hc62 : i0 = (10 : Int32)
                      · skip
                        obtain ⟨T63, X63, e63, st63⟩ := getS2 X0 hx hZ hown (host := "") (Or.inl (hw _ (List.mem_of_getElem? (i := 29) rfl))) Via.refl e0 (p11_S.ext p0_O.2) (g := (mkF m 99 #[.val (.int i0)] [])) rfl (hb hby d1_99)
                        obtain ⟨fs, hrL, hrun, hended, hW, hsame⟩ := X63.leave (v := some (.ref w10)) (fun h => by rw [Bd.returns] at h; cases h)
                        refine ⟨_, _, pre61 _ ?_, hrun, hended, _, _, rfl, ?_, ⟨_, rfl⟩, hW, hsame.mono (by decide) (by decide)⟩
                        · show Steps p.tables e below (s₁.setTop (mkF m 96 #[.val (.int i0)] [(.int 10), (.int i0)])) _
                          refine XS.icmpNo X0.here hx rfl (hb hby d1_96) rfl (teq hc62).2 ?_
                          show Steps p.tables e below (s₁.setTop (mkF m 99 #[.val (.int i0)] [])) _
                          refine st63 _ ?_
                          show Steps p.tables e below (T63.setTop (mkF m 102 #[.val (.int i0)] [(.ref w10)])) _
                          exact retOut X63 hx Bd.returns rfl (Or.inr (Or.inr (Or.inr (Or.inr ⟨rfl, rfl, rfl⟩)))) (hb hby d1_102) hrL
                        · show Q_rm1 _ _ _ _ _ _ _ _ _ _ _ _ _ _ _ _ _ _ _ _ _ _ _  T63.heap _
                          rw [e63]
                          exact ⟨congrArg (fun z => some (Value.ref z)) (hr.2.2.2.2.2.2.2.2.2.2.1 hc62).symm, N0, rfl⟩
                      · skip
                        have pre64 : ∀ tz_, Steps p.tables e below (s₁.setTop (mkF m 106 #[.val (.int i0)] [(.int 11), (.int i0)])) tz_ → Steps p.tables e below (s₁.setTop (entryFrame m #[(.int i0)] 1)) tz_ := fun tz_ kk => pre61 tz_ (by
                          show Steps p.tables e below (s₁.setTop (mkF m 96 #[.val (.int i0)] [(.int 10), (.int i0)])) _
                          refine XS.icmpYes X0.here hx rfl (pc0 := 96) (pc' := 103) rfl (hb hby d1_96) rfl (feq hc62).2 (by decide) (by decide) ?_
                          refine XS.iloadN X0.here hx rfl (hb hby d1_103) rfl ?_
                          show Steps p.tables e below (s₁.setTop (mkF m 104 #[.val (.int i0)] [(.int i0)])) _
                          refine XS.bipush X0.here hx rfl (hb hby d1_104) ?_
                          exact kk)
                        by_cases hc65 : i0 = (11 : Int32)
                        · skip
                          obtain ⟨T66, X66, e66, st66⟩ := getS2 X0 hx hZ hown (host := "") (Or.inl (hw _ (List.mem_of_getElem? (i := 33) rfl))) Via.refl e0 (p12_S.ext p0_O.2) (g := (mkF m 109 #[.val (.int i0)] [])) rfl (hb hby d1_109)
                          obtain ⟨fs, hrL, hrun, hended, hW, hsame⟩ := X66.leave (v := some (.ref w11)) (fun h => by rw [Bd.returns] at h; cases h)
                          refine ⟨_, _, pre64 _ ?_, hrun, hended, _, _, rfl, ?_, ⟨_, rfl⟩, hW, hsame.mono (by decide) (by decide)⟩
                          · show Steps p.tables e below (s₁.setTop (mkF m 106 #[.val (.int i0)] [(.int 11), (.int i0)])) _
                            refine XS.icmpNo X0.here hx rfl (hb hby d1_106) rfl (teq hc65).2 ?_
                            show Steps p.tables e below (s₁.setTop (mkF m 109 #[.val (.int i0)] [])) _
                            refine st66 _ ?_
                            show Steps p.tables e below (T66.setTop (mkF m 112 #[.val (.int i0)] [(.ref w11)])) _
                            exact retOut X66 hx Bd.returns rfl (Or.inr (Or.inr (Or.inr (Or.inr ⟨rfl, rfl, rfl⟩)))) (hb hby d1_112) hrL
                          · show Q_rm1 _ _ _ _ _ _ _ _ _ _ _ _ _ _ _ _ _ _ _ _ _ _ _  T66.heap _
                            rw [e66]
                            exact ⟨congrArg (fun z => some (Value.ref z)) (hr.2.2.2.2.2.2.2.2.2.2.2.1 hc65).symm, N0, rfl⟩
                        · skip
                          have pre67 : ∀ tz_, Steps p.tables e below (s₁.setTop (mkF m 116 #[.val (.int i0)] [(.int 12), (.int i0)])) tz_ → Steps p.tables e below (s₁.setTop (entryFrame m #[(.int i0)] 1)) tz_ := fun tz_ kk => pre64 tz_ (by
                            show Steps p.tables e below (s₁.setTop (mkF m 106 #[.val (.int i0)] [(.int 11), (.int i0)])) _
                            refine XS.icmpYes X0.here hx rfl (pc0 := 106) (pc' := 113) rfl (hb hby d1_106) rfl (feq hc65).2 (by decide) (by decide) ?_
                            show Steps p.tables e below (s₁.setTop (mkF m 113 #[.val (.int i0)] [])) _
                            refine XS.iloadN X0.here hx rfl (hb hby d1_113) rfl ?_
                            refine XS.bipush X0.here hx rfl (hb hby d1_114) ?_
                            exact kk)
                          by_cases hc68 : i0 = (12 : Int32)
                          · skip
                            obtain ⟨T69, X69, e69, st69⟩ := getS2 X0 hx hZ hown (host := "") (Or.inl (hw _ (List.mem_of_getElem? (i := 24) rfl))) Via.refl e0 (p13_S.ext p0_O.2) (g := (mkF m 119 #[.val (.int i0)] [])) rfl (hb hby d1_119)
                            obtain ⟨fs, hrL, hrun, hended, hW, hsame⟩ := X69.leave (v := some (.ref w12)) (fun h => by rw [Bd.returns] at h; cases h)
                            refine ⟨_, _, pre67 _ ?_, hrun, hended, _, _, rfl, ?_, ⟨_, rfl⟩, hW, hsame.mono (by decide) (by decide)⟩
                            · show Steps p.tables e below (s₁.setTop (mkF m 116 #[.val (.int i0)] [(.int 12), (.int i0)])) _
                              refine XS.icmpNo X0.here hx rfl (hb hby d1_116) rfl (teq hc68).2 ?_
                              show Steps p.tables e below (s₁.setTop (mkF m 119 #[.val (.int i0)] [])) _
                              refine st69 _ ?_
                              show Steps p.tables e below (T69.setTop (mkF m 122 #[.val (.int i0)] [(.ref w12)])) _
                              exact retOut X69 hx Bd.returns rfl (Or.inr (Or.inr (Or.inr (Or.inr ⟨rfl, rfl, rfl⟩)))) (hb hby d1_122) hrL
                            · show Q_rm1 _ _ _ _ _ _ _ _ _ _ _ _ _ _ _ _ _ _ _ _ _ _ _  T69.heap _
                              rw [e69]
                              exact ⟨congrArg (fun z => some (Value.ref z)) (hr.2.2.2.2.2.2.2.2.2.2.2.2.1 hc68).symm, N0, rfl⟩
                          · skip
                            have pre70 : ∀ tz_, Steps p.tables e below (s₁.setTop (mkF m 126 #[.val (.int i0)] [(.int 13), (.int i0)])) tz_ → Steps p.tables e below (s₁.setTop (entryFrame m #[(.int i0)] 1)) tz_ := fun tz_ kk => pre67 tz_ (by
                              show Steps p.tables e below (s₁.setTop (mkF m 116 #[.val (.int i0)] [(.int 12), (.int i0)])) _
                              refine XS.icmpYes X0.here hx rfl (pc0 := 116) (pc' := 123) rfl (hb hby d1_116) rfl (feq hc68).2 (by decide) (by decide) ?_
                              refine XS.iloadN X0.here hx rfl (hb hby d1_123) rfl ?_
                              refine XS.bipush X0.here hx rfl (hb hby d1_124) ?_
                              exact kk)
                            by_cases hc71 : i0 = (13 : Int32)
                            · skip
                              obtain ⟨T72, X72, e72, st72⟩ := getS2 X0 hx hZ hown (host := "") (Or.inl (hw _ (List.mem_of_getElem? (i := 39) rfl))) Via.refl e0 (p14_S.ext p0_O.2) (g := (mkF m 129 #[.val (.int i0)] [])) rfl (hb hby d1_129)
                              obtain ⟨fs, hrL, hrun, hended, hW, hsame⟩ := X72.leave (v := some (.ref w13)) (fun h => by rw [Bd.returns] at h; cases h)
                              refine ⟨_, _, pre70 _ ?_, hrun, hended, _, _, rfl, ?_, ⟨_, rfl⟩, hW, hsame.mono (by decide) (by decide)⟩
                              · show Steps p.tables e below (s₁.setTop (mkF m 126 #[.val (.int i0)] [(.int 13), (.int i0)])) _
                                refine XS.icmpNo X0.here hx rfl (hb hby d1_126) rfl (teq hc71).2 ?_
                                show Steps p.tables e below (s₁.setTop (mkF m 129 #[.val (.int i0)] [])) _
                                refine st72 _ ?_
                                show Steps p.tables e below (T72.setTop (mkF m 132 #[.val (.int i0)] [(.ref w13)])) _
                                exact retOut X72 hx Bd.returns rfl (Or.inr (Or.inr (Or.inr (Or.inr ⟨rfl, rfl, rfl⟩)))) (hb hby d1_132) hrL
                              · show Q_rm1 _ _ _ _ _ _ _ _ _ _ _ _ _ _ _ _ _ _ _ _ _ _ _  T72.heap _
                                rw [e72]
                                exact ⟨congrArg (fun z => some (Value.ref z)) (hr.2.2.2.2.2.2.2.2.2.2.2.2.2.1 hc71).symm, N0, rfl⟩
                            · skip
                              have pre73 : ∀ tz_, Steps p.tables e below (s₁.setTop (mkF m 136 #[.val (.int i0)] [(.int 14), (.int i0)])) tz_ → Steps p.tables e below (s₁.setTop (entryFrame m #[(.int i0)] 1)) tz_ := fun tz_ kk => pre70 tz_ (by
                                show Steps p.tables e below (s₁.setTop (mkF m 126 #[.val (.int i0)] [(.int 13), (.int i0)])) _
                                refine XS.icmpYes X0.here hx rfl (pc0 := 126) (pc' := 133) rfl (hb hby d1_126) rfl (feq hc71).2 (by decide) (by decide) ?_
                                refine XS.iloadN X0.here hx rfl (hb hby d1_133) rfl ?_
                                refine XS.bipush X0.here hx rfl (hb hby d1_134) ?_
                                exact kk)
                              by_cases hc74 : i0 = (14 : Int32)
                              · skip
                                obtain ⟨T75, X75, e75, st75⟩ := getS2 X0 hx hZ hown (host := "") (Or.inl (hw _ (List.mem_of_getElem? (i := 35) rfl))) Via.refl e0 (p15_S.ext p0_O.2) (g := (mkF m 139 #[.val (.int i0)] [])) rfl (hb hby d1_139)
                                obtain ⟨fs, hrL, hrun, hended, hW, hsame⟩ := X75.leave (v := some (.ref w14)) (fun h => by rw [Bd.returns] at h; cases h)
                                refine ⟨_, _, pre73 _ ?_, hrun, hended, _, _, rfl, ?_, ⟨_, rfl⟩, hW, hsame.mono (by decide) (by decide)⟩
                                · show Steps p.tables e below (s₁.setTop (mkF m 136 #[.val (.int i0)] [(.int 14), (.int i0)])) _
                                  refine XS.icmpNo X0.here hx rfl (hb hby d1_136) rfl (teq hc74).2 ?_
                                  show Steps p.tables e below (s₁.setTop (mkF m 139 #[.val (.int i0)] [])) _
                                  refine st75 _ ?_
                                  show Steps p.tables e below (T75.setTop (mkF m 142 #[.val (.int i0)] [(.ref w14)])) _
                                  exact retOut X75 hx Bd.returns rfl (Or.inr (Or.inr (Or.inr (Or.inr ⟨rfl, rfl, rfl⟩)))) (hb hby d1_142) hrL
                                · show Q_rm1 _ _ _ _ _ _ _ _ _ _ _ _ _ _ _ _ _ _ _ _ _ _ _  T75.heap _
                                  rw [e75]
                                  exact ⟨congrArg (fun z => some (Value.ref z)) (hr.2.2.2.2.2.2.2.2.2.2.2.2.2.2.1 hc74).symm, N0, rfl⟩
                              · skip
                                have pre76 : ∀ tz_, Steps p.tables e below (s₁.setTop (mkF m 146 #[.val (.int i0)] [(.int 15), (.int i0)])) tz_ → Steps p.tables e below (s₁.setTop (entryFrame m #[(.int i0)] 1)) tz_ := fun tz_ kk => pre73 tz_ (by
                                  show Steps p.tables e below (s₁.setTop (mkF m 136 #[.val (.int i0)] [(.int 14), (.int i0)])) _
                                  refine XS.icmpYes X0.here hx rfl (pc0 := 136) (pc' := 143) rfl (hb hby d1_136) rfl (feq hc74).2 (by decide) (by decide) ?_
                                  refine XS.iloadN X0.here hx rfl (hb hby d1_143) rfl ?_
                                  show Steps p.tables e below (s₁.setTop (mkF m 144 #[.val (.int i0)] [(.int i0)])) _
                                  refine XS.bipush X0.here hx rfl (hb hby d1_144) ?_
                                  exact kk)
                                by_cases hc77 : i0 = (15 : Int32)
                                · skip
                                  obtain ⟨T78, X78, e78, st78⟩ := getS2 X0 hx hZ hown (host := "") (Or.inl (hw _ (List.mem_of_getElem? (i := 60) rfl))) Via.refl e0 (p16_S.ext p0_O.2) (g := (mkF m 149 #[.val (.int i0)] [])) rfl (hb hby d1_149)
                                  obtain ⟨fs, hrL, hrun, hended, hW, hsame⟩ := X78.leave (v := some (.ref w15)) (fun h => by rw [Bd.returns] at h; cases h)
                                  refine ⟨_, _, pre76 _ ?_, hrun, hended, _, _, rfl, ?_, ⟨_, rfl⟩, hW, hsame.mono (by decide) (by decide)⟩
                                  · show Steps p.tables e below (s₁.setTop (mkF m 146 #[.val (.int i0)] [(.int 15), (.int i0)])) _
                                    refine XS.icmpNo X0.here hx rfl (hb hby d1_146) rfl (teq hc77).2 ?_
                                    show Steps p.tables e below (s₁.setTop (mkF m 149 #[.val (.int i0)] [])) _
                                    refine st78 _ ?_
                                    show Steps p.tables e below (T78.setTop (mkF m 152 #[.val (.int i0)] [(.ref w15)])) _
                                    exact retOut X78 hx Bd.returns rfl (Or.inr (Or.inr (Or.inr (Or.inr ⟨rfl, rfl, rfl⟩)))) (hb hby d1_152) hrL
                                  · show Q_rm1 _ _ _ _ _ _ _ _ _ _ _ _ _ _ _ _ _ _ _ _ _ _ _  T78.heap _
                                    rw [e78]
                                    exact ⟨congrArg (fun z => some (Value.ref z)) (hr.2.2.2.2.2.2.2.2.2.2.2.2.2.2.2.1 hc77).symm, N0, rfl⟩
                                · skip
                                  obtain ⟨T79, X79, e79, st79⟩ := getS2 X0 hx hZ hown (host := "") (Or.inl (hw _ (List.mem_of_getElem? (i := 55) rfl))) Via.refl e0 (p17_S.ext p0_O.2) (g := (mkF m 153 #[.val (.int i0)] [])) rfl (hb hby d1_153)
                                  obtain ⟨fs, hrL, hrun, hended, hW, hsame⟩ := X79.leave (v := some (.ref w16)) (fun h => by rw [Bd.returns] at h; cases h)
                                  refine ⟨_, _, pre76 _ ?_, hrun, hended, _, _, rfl, ?_, ⟨_, rfl⟩, hW, hsame.mono (by decide) (by decide)⟩
                                  · show Steps p.tables e below (s₁.setTop (mkF m 146 #[.val (.int i0)] [(.int 15), (.int i0)])) _
                                    refine XS.icmpYes X0.here hx rfl (pc0 := 146) (pc' := 153) rfl (hb hby d1_146) rfl (feq hc77).2 (by decide) (by decide) ?_
                                    show Steps p.tables e below (s₁.setTop (mkF m 153 #[.val (.int i0)] [])) _
                                    refine st79 _ ?_
                                    show Steps p.tables e below (T79.setTop (mkF m 156 #[.val (.int i0)] [(.ref w16)])) _
                                    exact retOut X79 hx Bd.returns rfl (Or.inr (Or.inr (Or.inr (Or.inr ⟨rfl, rfl, rfl⟩)))) (hb hby d1_156) hrL
                                  · show Q_rm1 _ _ _ _ _ _ _ _ _ _ _ _ _ _ _ _ _ _ _ _ _ _ _  T79.heap _
                                    rw [e79]
                                    exact ⟨congrArg (fun z => some (Value.ref z)) (hr.2.2.2.2.2.2.2.2.2.2.2.2.2.2.2.2 hc32 hc35 hc38 hc41 hc44 hc47 hc50 hc53 hc56 hc59 hc62 hc65 hc68 hc71 hc74 hc77).symm, N0, rfl⟩
theorem d2_0 : decode prog_20_method_4_code 0 = .ok (.aload_n 0, 1) := by decide +kernel
theorem d2_1 : decode prog_20_method_4_code 1 = .ok (.getfield 74, 3) := by decide +kernel
theorem d2_4 : decode prog_20_method_4_code 4 = .ok (.ireturn, 1) := by decide +kernel
theorem pn_com_example_callee_callee_model_CanonicalCode : plainName "com/example/callee/callee/model/CanonicalCode" = true := by first | (simp [plainName, overriddenIn]; done) | decide +kernel
theorem ef_rm2 (m : MethodId) (a1 : Addr) : entryFrame m #[(.ref a1)] 1 = mkF m 0 #[.val (.ref a1)] [] := by first | (simp [entryFrame, mkF, argsToLocals, Value.category]; done) | rfl
def Q_rm2 (Z : State) (a1 : Addr) (v1 : Int32) (h0 : Heap) (n0 : Nat) (v : Option Value) (h : Heap) (L : List Loc) : Prop := v = some (.int v1) ∧ Fr n0 L ∧ h = h0
set_option maxRecDepth 65536 in
set_option maxHeartbeats 40000000 in
theorem rm2 (l : Launch) (Z : State) (av0 : Array Value) (hw : ∀ d ∈ tables_1, d.before av0 Z = true) (ws : List Jvm.Cond) (a1 : Addr) (v1 : Int32) (h0 : Heap) (n0 : Nat) (Z0 : n0 ≤ h0.size) (p0_F : Fld Z h0 a1 "com/example/callee/callee/model/CanonicalCode" "httpStatus" "I" (.int v1)) :
    MetFree l (⟨"com/example/callee/callee/model/CanonicalCode", "httpStatus", "()I"⟩ : MethodName) (head1 (Jvm.Cond.code (⟨"com/example/callee/callee/model/CanonicalCode", "httpStatus", "()I"⟩ : MethodName) prog_20_method_4_code 1 (some .int) :: ws) ({ frames := 0, cells := 0, slots := 0, locals := 0 } : Room)) (fun a U => a = #[(.ref a1)] ∧ Z.Warmed39 U.vm ∧ U.heap = h0) (fun _ _ _ _ _ => True) (fun _ U o U' => ∃ v L, o = .returned v ∧ Q_rm2 Z a1 v1 h0 n0 v U'.heap L ∧ FrameEnd U o U' L ({ frames := 0, cells := 0, slots := 0, locals := 0 } : Room).cells ({ frames := 0, cells := 0, slots := 0, locals := 0 } : Room).slots) := by
  refine MetFree.of_bodySF (plainFor_of_name pn_com_example_callee_callee_model_CanonicalCode) hisR ?_
  intro p e s m args below meth c s₁ Bd hml0 hP hK
  obtain ⟨rfl, hZ, hh⟩ := hP
  have hx := Bd.exec
  have hby := Bd.bytes
  have hml : c.maxLocals = 1 := hml0
  have hown : s.vm.findClass "com/example/callee/callee/model/CanonicalCode" = some m.cls := findClass_of_methodNamed Bd.named
  have hnm := (name_of_methodNamed Bd.named Bd.method).1
  have X0 : Stand p l e ({ frames := 0, cells := 0, slots := 0, locals := 0 } : Room) s m #[(.ref a1)] below meth c s₁ [] 0 0 := Stand.of_body Bd
  have e0 : s₁.heap = h0 := by rw [← hh, Bd.state]; rfl
  have N0 := Fr.nil n0
  have pre0 : ∀ tz_, Steps p.tables e below (s₁.setTop (mkF m 0 #[.val (.ref a1)] [])) tz_ → Steps p.tables e below (s₁.setTop (entryFrame m #[(.ref a1)] 1)) tz_ := fun tz_ kz_ => castTop (ef_rm2 m a1) kz_
  obtain ⟨T31, X31, e31, st31⟩ := getF X0 hx hZ hown (host := "") (Or.inl (hw _ (List.mem_of_getElem? (i := 13) rfl))) Via.refl e0 p0_F (g := (mkF m 1 #[.val (.ref a1)] [(.ref a1)])) rfl rfl (hb hby d2_1)
  obtain ⟨fs, hrL, hrun, hended, hW, hsame⟩ := X31.leave (v := some (.int v1)) (fun h => by rw [Bd.returns] at h; cases h)
  refine ⟨_, _, pre0 _ ?_, hrun, hended, _, _, rfl, ?_, ⟨_, rfl⟩, hW, hsame.mono (by decide) (by decide)⟩
  · show Steps p.tables e below (s₁.setTop (mkF m 0 #[.val (.ref a1)] [])) _
    refine XS.aloadN X0.here hx rfl (hb hby d2_0) rfl rfl ?_
    show Steps p.tables e below (s₁.setTop (mkF m 1 #[.val (.ref a1)] [(.ref a1)])) _
    refine st31 _ ?_
    show Steps p.tables e below (T31.setTop (mkF m 4 #[.val (.ref a1)] [(.int v1)])) _
    exact retI X31 hx Bd.returns (hb hby d2_4) hrL
  · show Q_rm2 _ _ _ _ _ _  T31.heap _
    rw [e31]
    exact ⟨rfl, N0, rfl⟩
theorem d3_0 : decode prog_20_method_5_code 0 = .ok (.iload_n 0, 1) := by decide +kernel
theorem d3_1 : decode prog_20_method_5_code 1 = .ok (.lookupswitch 165 #[(400, 99), (401, 105), (403, 111), (404, 117), (409, 123), (429, 129), (499, 135), (500, 141), (501, 147), (503, 153), (504, 159)], 99) := by decide +kernel
theorem d3_100 : decode prog_20_method_5_code 100 = .ok (.getstatic 13, 3) := by decide +kernel
theorem d3_103 : decode prog_20_method_5_code 103 = .ok (.goto 66, 3) := by decide +kernel
theorem d3_169 : decode prog_20_method_5_code 169 = .ok (.areturn, 1) := by decide +kernel
theorem d3_106 : decode prog_20_method_5_code 106 = .ok (.getstatic 52, 3) := by decide +kernel
theorem d3_109 : decode prog_20_method_5_code 109 = .ok (.goto 60, 3) := by decide +kernel
theorem d3_112 : decode prog_20_method_5_code 112 = .ok (.getstatic 25, 3) := by decide +kernel
theorem d3_115 : decode prog_20_method_5_code 115 = .ok (.goto 54, 3) := by decide +kernel
theorem d3_118 : decode prog_20_method_5_code 118 = .ok (.getstatic 19, 3) := by decide +kernel
theorem d3_121 : decode prog_20_method_5_code 121 = .ok (.goto 48, 3) := by decide +kernel
theorem d3_124 : decode prog_20_method_5_code 124 = .ok (.getstatic 34, 3) := by decide +kernel
theorem d3_127 : decode prog_20_method_5_code 127 = .ok (.goto 42, 3) := by decide +kernel
theorem d3_130 : decode prog_20_method_5_code 130 = .ok (.getstatic 28, 3) := by decide +kernel
theorem d3_133 : decode prog_20_method_5_code 133 = .ok (.goto 36, 3) := by decide +kernel
theorem d3_136 : decode prog_20_method_5_code 136 = .ok (.getstatic 7, 3) := by decide +kernel
theorem d3_139 : decode prog_20_method_5_code 139 = .ok (.goto 30, 3) := by decide +kernel
theorem d3_142 : decode prog_20_method_5_code 142 = .ok (.getstatic 43, 3) := by decide +kernel
theorem d3_145 : decode prog_20_method_5_code 145 = .ok (.goto 24, 3) := by decide +kernel
theorem d3_148 : decode prog_20_method_5_code 148 = .ok (.getstatic 40, 3) := by decide +kernel
theorem d3_151 : decode prog_20_method_5_code 151 = .ok (.goto 18, 3) := by decide +kernel
theorem d3_154 : decode prog_20_method_5_code 154 = .ok (.getstatic 46, 3) := by decide +kernel
theorem d3_157 : decode prog_20_method_5_code 157 = .ok (.goto 12, 3) := by decide +kernel
theorem d3_160 : decode prog_20_method_5_code 160 = .ok (.getstatic 16, 3) := by decide +kernel
theorem d3_163 : decode prog_20_method_5_code 163 = .ok (.goto 6, 3) := by decide +kernel
theorem d3_166 : decode prog_20_method_5_code 166 = .ok (.getstatic 10, 3) := by decide +kernel
theorem ef_rm3 (m : MethodId) (i0 : Int32) : entryFrame m #[(.int i0)] 1 = mkF m 0 #[.val (.int i0)] [] := by first | (simp [entryFrame, mkF, argsToLocals, Value.category]; done) | rfl
def Q_rm3 (Z : State) (i0 : Int32) (w0 : Addr) (w1 : Addr) (w2 : Addr) (w3 : Addr) (w4 : Addr) (w5 : Addr) (w6 : Addr) (w7 : Addr) (w8 : Addr) (w9 : Addr) (w10 : Addr) (w11 : Addr) (w12 : Addr) (w13 : Addr) (w14 : Addr) (w15 : Addr) (w16 : Addr) (r : Addr) (h0 : Heap) (n0 : Nat) (v : Option Value) (h : Heap) (L : List Loc) : Prop := v = some (.ref r) ∧ Fr n0 L ∧ h = h0
set_option maxRecDepth 65536 in
set_option maxHeartbeats 40000000 in
theorem rm3 (l : Launch) (Z : State) (av0 : Array Value) (hw : ∀ d ∈ tables_1, d.before av0 Z = true) (ws : List Jvm.Cond) (i0 : Int32) (w0 : Addr) (w1 : Addr) (w2 : Addr) (w3 : Addr) (w4 : Addr) (w5 : Addr) (w6 : Addr) (w7 : Addr) (w8 : Addr) (w9 : Addr) (w10 : Addr) (w11 : Addr) (w12 : Addr) (w13 : Addr) (w14 : Addr) (w15 : Addr) (w16 : Addr) (r : Addr) (h0 : Heap) (n0 : Nat) (Z0 : n0 ≤ h0.size) (p0_O : Old Z n0 h0) (p1_S : Sta Z Z.heap "com/example/callee/callee/model/CanonicalCode" "OK" "Lcom/example/callee/callee/model/CanonicalCode;" (.ref w0)) (p2_S : Sta Z Z.heap "com/example/callee/callee/model/CanonicalCode" "CANCELLED" "Lcom/example/callee/callee/model/CanonicalCode;" (.ref w1)) (p3_S : Sta Z Z.heap "com/example/callee/callee/model/CanonicalCode" "UNKNOWN" "Lcom/example/callee/callee/model/CanonicalCode;" (.ref w2)) (p4_S : Sta Z Z.heap "com/example/callee/callee/model/CanonicalCode" "INVALID_ARGUMENT" "Lcom/example/callee/callee/model/CanonicalCode;" (.ref w3)) (p5_S : Sta Z Z.heap "com/example/callee/callee/model/CanonicalCode" "DEADLINE_EXCEEDED" "Lcom/example/callee/callee/model/CanonicalCode;" (.ref w4)) (p6_S : Sta Z Z.heap "com/example/callee/callee/model/CanonicalCode" "NOT_FOUND" "Lcom/example/callee/callee/model/CanonicalCode;" (.ref w5)) (p7_S : Sta Z Z.heap "com/example/callee/callee/model/CanonicalCode" "ALREADY_EXISTS" "Lcom/example/callee/callee/model/CanonicalCode;" (.ref w6)) (p8_S : Sta Z Z.heap "com/example/callee/callee/model/CanonicalCode" "PERMISSION_DENIED" "Lcom/example/callee/callee/model/CanonicalCode;" (.ref w7)) (p9_S : Sta Z Z.heap "com/example/callee/callee/model/CanonicalCode" "RESOURCE_EXHAUSTED" "Lcom/example/callee/callee/model/CanonicalCode;" (.ref w8)) (p10_S : Sta Z Z.heap "com/example/callee/callee/model/CanonicalCode" "FAILED_PRECONDITION" "Lcom/example/callee/callee/model/CanonicalCode;" (.ref w9)) (p11_S : Sta Z Z.heap "com/example/callee/callee/model/CanonicalCode" "ABORTED" "Lcom/example/callee/callee/model/CanonicalCode;" (.ref w10)) (p12_S : Sta Z Z.heap "com/example/callee/callee/model/CanonicalCode" "OUT_OF_RANGE" "Lcom/example/callee/callee/model/CanonicalCode;" (.ref w11)) (p13_S : Sta Z Z.heap "com/example/callee/callee/model/CanonicalCode" "UNIMPLEMENTED" "Lcom/example/callee/callee/model/CanonicalCode;" (.ref w12)) (p14_S : Sta Z Z.heap "com/example/callee/callee/model/CanonicalCode" "INTERNAL" "Lcom/example/callee/callee/model/CanonicalCode;" (.ref w13)) (p15_S : Sta Z Z.heap "com/example/callee/callee/model/CanonicalCode" "UNAVAILABLE" "Lcom/example/callee/callee/model/CanonicalCode;" (.ref w14)) (p16_S : Sta Z Z.heap "com/example/callee/callee/model/CanonicalCode" "DATA_LOSS" "Lcom/example/callee/callee/model/CanonicalCode;" (.ref w15)) (p17_S : Sta Z Z.heap "com/example/callee/callee/model/CanonicalCode" "UNAUTHENTICATED" "Lcom/example/callee/callee/model/CanonicalCode;" (.ref w16)) (hr : (i0 = (400 : Int32) → r = w3) ∧ (i0 = (401 : Int32) → r = w16) ∧ (i0 = (403 : Int32) → r = w7) ∧ (i0 = (404 : Int32) → r = w5) ∧ (i0 = (409 : Int32) → r = w10) ∧ (i0 = (429 : Int32) → r = w8) ∧ (i0 = (499 : Int32) → r = w1) ∧ (i0 = (500 : Int32) → r = w13) ∧ (i0 = (501 : Int32) → r = w12) ∧ (i0 = (503 : Int32) → r = w14) ∧ (i0 = (504 : Int32) → r = w4) ∧ (¬ (i0 = (400 : Int32)) → ¬ (i0 = (401 : Int32)) → ¬ (i0 = (403 : Int32)) → ¬ (i0 = (404 : Int32)) → ¬ (i0 = (409 : Int32)) → ¬ (i0 = (429 : Int32)) → ¬ (i0 = (499 : Int32)) → ¬ (i0 = (500 : Int32)) → ¬ (i0 = (501 : Int32)) → ¬ (i0 = (503 : Int32)) → ¬ (i0 = (504 : Int32)) → r = w2)) :
    MetFree l (⟨"com/example/callee/callee/model/CanonicalCode", "ofHttpStatus", "(I)Lcom/example/callee/callee/model/CanonicalCode;"⟩ : MethodName) (head1 (Jvm.Cond.code (⟨"com/example/callee/callee/model/CanonicalCode", "ofHttpStatus", "(I)Lcom/example/callee/callee/model/CanonicalCode;"⟩ : MethodName) prog_20_method_5_code 1 (some (.object "com/example/callee/callee/model/CanonicalCode")) :: ws) ({ frames := 0, cells := 0, slots := 0, locals := 0 } : Room)) (fun a U => a = #[(.int i0)] ∧ Z.Warmed39 U.vm ∧ U.heap = h0) (fun _ _ _ _ _ => True) (fun _ U o U' => ∃ v L, o = .returned v ∧ Q_rm3 Z i0 w0 w1 w2 w3 w4 w5 w6 w7 w8 w9 w10 w11 w12 w13 w14 w15 w16 r h0 n0 v U'.heap L ∧ FrameEnd U o U' L ({ frames := 0, cells := 0, slots := 0, locals := 0 } : Room).cells ({ frames := 0, cells := 0, slots := 0, locals := 0 } : Room).slots) := by
  refine MetFree.of_bodySF (plainFor_of_name pn_com_example_callee_callee_model_CanonicalCode) hisR ?_
  intro p e s m args below meth c s₁ Bd hml0 hP hK
  obtain ⟨rfl, hZ, hh⟩ := hP
  have hx := Bd.exec
  have hby := Bd.bytes
  have hml : c.maxLocals = 1 := hml0
  have hown : s.vm.findClass "com/example/callee/callee/model/CanonicalCode" = some m.cls := findClass_of_methodNamed Bd.named
  have hnm := (name_of_methodNamed Bd.named Bd.method).1
  have X0 : Stand p l e ({ frames := 0, cells := 0, slots := 0, locals := 0 } : Room) s m #[(.int i0)] below meth c s₁ [] 0 0 := Stand.of_body Bd
  have e0 : s₁.heap = h0 := by rw [← hh, Bd.state]; rfl
  have N0 := Fr.nil n0
  have pre0 : ∀ tz_, Steps p.tables e below (s₁.setTop (mkF m 0 #[.val (.int i0)] [])) tz_ → Steps p.tables e below (s₁.setTop (entryFrame m #[(.int i0)] 1)) tz_ := fun tz_ kz_ => castTop (ef_rm3 m i0) kz_
  have pre31 : ∀ tz_, Steps p.tables e below (s₁.setTop (mkF m 1 #[.val (.int i0)] [(.int i0)])) tz_ → Steps p.tables e below (s₁.setTop (entryFrame m #[(.int i0)] 1)) tz_ := fun tz_ kk => pre0 tz_ (by
    show Steps p.tables e below (s₁.setTop (mkF m 0 #[.val (.int i0)] [])) _
    refine XS.iloadN X0.here hx rfl (hb hby d3_0) rfl ?_
    exact kk)
  by_cases hc32 : i0 = (400 : Int32)
  · skip
    obtain ⟨T33, X33, e33, st33⟩ := getS2 X0 hx hZ hown (host := "") (Or.inl (hw _ (List.mem_of_getElem? (i := 54) rfl))) Via.refl e0 (p4_S.ext p0_O.2) (g := (mkF m 100 #[.val (.int i0)] [])) rfl (hb hby d3_100)
    obtain ⟨fs, hrL, hrun, hended, hW, hsame⟩ := X33.leave (v := some (.ref w3)) (fun h => by rw [Bd.returns] at h; cases h)
    refine ⟨_, _, pre31 _ ?_, hrun, hended, _, _, rfl, ?_, ⟨_, rfl⟩, hW, hsame.mono (by decide) (by decide)⟩
    · show Steps p.tables e below (s₁.setTop (mkF m 1 #[.val (.int i0)] [(.int i0)])) _
      refine X0.lookupswitchHit hx (g := (mkF m 1 #[.val (.int i0)] [(.int i0)])) rfl (k := i0) (rest := []) rfl (hb hby d3_1) (by decide) (a := 400) (off := 99) (by rw [hc32]; decide) (show (0 : Int) ≤ ((1 : Nat) : Int) + (99) by decide) _ ?_
      show Steps p.tables e below (s₁.setTop (mkF m 100 #[.val (.int i0)] [])) _
      refine st33 _ ?_
      show Steps p.tables e below (T33.setTop (mkF m 103 #[.val (.int i0)] [(.ref w3)])) _
      refine XS.goto X33.here hx rfl (pc0 := 103) (pc' := 169) rfl (hb hby d3_103) (by decide) (by decide) ?_
      show Steps p.tables e below (T33.setTop (mkF m 169 #[.val (.int i0)] [(.ref w3)])) _
      exact retOut X33 hx Bd.returns rfl (Or.inr (Or.inr (Or.inr (Or.inr ⟨rfl, rfl, rfl⟩)))) (hb hby d3_169) hrL
    · show Q_rm3 _ _ _ _ _ _ _ _ _ _ _ _ _ _ _ _ _ _ _ _ _ _ _  T33.heap _
      rw [e33]
      exact ⟨congrArg (fun z => some (Value.ref z)) (hr.1 hc32).symm, N0, rfl⟩
  · skip
    by_cases hc34 : i0 = (401 : Int32)
    · skip
      obtain ⟨T35, X35, e35, st35⟩ := getS2 X0 hx hZ hown (host := "") (Or.inl (hw _ (List.mem_of_getElem? (i := 18) rfl))) Via.refl e0 (p17_S.ext p0_O.2) (g := (mkF m 106 #[.val (.int i0)] [])) rfl (hb hby d3_106)
      obtain ⟨fs, hrL, hrun, hended, hW, hsame⟩ := X35.leave (v := some (.ref w16)) (fun h => by rw [Bd.returns] at h; cases h)
      refine ⟨_, _, pre31 _ ?_, hrun, hended, _, _, rfl, ?_, ⟨_, rfl⟩, hW, hsame.mono (by decide) (by decide)⟩
      · show Steps p.tables e below (s₁.setTop (mkF m 1 #[.val (.int i0)] [(.int i0)])) _
        refine X0.lookupswitchHit hx (g := (mkF m 1 #[.val (.int i0)] [(.int i0)])) rfl (k := i0) (rest := []) rfl (hb hby d3_1) (by decide) (a := 401) (off := 105) (by rw [hc34]; decide) (show (0 : Int) ≤ ((1 : Nat) : Int) + (105) by decide) _ ?_
        show Steps p.tables e below (s₁.setTop (mkF m 106 #[.val (.int i0)] [])) _
        refine st35 _ ?_
        refine XS.goto X35.here hx rfl (pc0 := 109) (pc' := 169) rfl (hb hby d3_109) (by decide) (by decide) ?_
        show Steps p.tables e below (T35.setTop (mkF m 169 #[.val (.int i0)] [(.ref w16)])) _
        exact retOut X35 hx Bd.returns rfl (Or.inr (Or.inr (Or.inr (Or.inr ⟨rfl, rfl, rfl⟩)))) (hb hby d3_169) hrL
      · show Q_rm3 _ _ _ _ _ _ _ _ _ _ _ _ _ _ _ _ _ _ _ _ _ _ _  T35.heap _
        rw [e35]
        exact ⟨congrArg (fun z => some (Value.ref z)) (hr.2.1 hc34).symm, N0, rfl⟩
    · skip
      by_cases hc36 : i0 = (403 : Int32)
      · skip
        obtain ⟨T37, X37, e37, st37⟩ := getS2 X0 hx hZ hown (host := "") (Or.inl (hw _ (List.mem_of_getElem? (i := 51) rfl))) Via.refl e0 (p8_S.ext p0_O.2) (g := (mkF m 112 #[.val (.int i0)] [])) rfl (hb hby d3_112)
        obtain ⟨fs, hrL, hrun, hended, hW, hsame⟩ := X37.leave (v := some (.ref w7)) (fun h => by rw [Bd.returns] at h; cases h)
        refine ⟨_, _, pre31 _ ?_, hrun, hended, _, _, rfl, ?_, ⟨_, rfl⟩, hW, hsame.mono (by decide) (by decide)⟩
        · show Steps p.tables e below (s₁.setTop (mkF m 1 #[.val (.int i0)] [(.int i0)])) _
          refine X0.lookupswitchHit hx (g := (mkF m 1 #[.val (.int i0)] [(.int i0)])) rfl (k := i0) (rest := []) rfl (hb hby d3_1) (by decide) (a := 403) (off := 111) (by rw [hc36]; decide) (show (0 : Int) ≤ ((1 : Nat) : Int) + (111) by decide) _ ?_
          show Steps p.tables e below (s₁.setTop (mkF m 112 #[.val (.int i0)] [])) _
          refine st37 _ ?_
          refine XS.goto X37.here hx rfl (pc0 := 115) (pc' := 169) rfl (hb hby d3_115) (by decide) (by decide) ?_
          show Steps p.tables e below (T37.setTop (mkF m 169 #[.val (.int i0)] [(.ref w7)])) _
          exact retOut X37 hx Bd.returns rfl (Or.inr (Or.inr (Or.inr (Or.inr ⟨rfl, rfl, rfl⟩)))) (hb hby d3_169) hrL
        · show Q_rm3 _ _ _ _ _ _ _ _ _ _ _ _ _ _ _ _ _ _ _ _ _ _ _  T37.heap _
          rw [e37]
          exact ⟨congrArg (fun z => some (Value.ref z)) (hr.2.2.1 hc36).symm, N0, rfl⟩
      · skip
        by_cases hc38 : i0 = (404 : Int32)
        · skip
          obtain ⟨T39, X39, e39, st39⟩ := getS2 X0 hx hZ hown (host := "") (Or.inl (hw _ (List.mem_of_getElem? (i := 50) rfl))) Via.refl e0 (p6_S.ext p0_O.2) (g := (mkF m 118 #[.val (.int i0)] [])) rfl (hb hby d3_118)
          obtain ⟨fs, hrL, hrun, hended, hW, hsame⟩ := X39.leave (v := some (.ref w5)) (fun h => by rw [Bd.returns] at h; cases h)
          refine ⟨_, _, pre31 _ ?_, hrun, hended, _, _, rfl, ?_, ⟨_, rfl⟩, hW, hsame.mono (by decide) (by decide)⟩
          · show Steps p.tables e below (s₁.setTop (mkF m 1 #[.val (.int i0)] [(.int i0)])) _
            refine X0.lookupswitchHit hx (g := (mkF m 1 #[.val (.int i0)] [(.int i0)])) rfl (k := i0) (rest := []) rfl (hb hby d3_1) (by decide) (a := 404) (off := 117) (by rw [hc38]; decide) (show (0 : Int) ≤ ((1 : Nat) : Int) + (117) by decide) _ ?_
            show Steps p.tables e below (s₁.setTop (mkF m 118 #[.val (.int i0)] [])) _
            refine st39 _ ?_
            refine XS.goto X39.here hx rfl (pc0 := 121) (pc' := 169) rfl (hb hby d3_121) (by decide) (by decide) ?_
            show Steps p.tables e below (T39.setTop (mkF m 169 #[.val (.int i0)] [(.ref w5)])) _
            exact retOut X39 hx Bd.returns rfl (Or.inr (Or.inr (Or.inr (Or.inr ⟨rfl, rfl, rfl⟩)))) (hb hby d3_169) hrL
          · show Q_rm3 _ _ _ _ _ _ _ _ _ _ _ _ _ _ _ _ _ _ _ _ _ _ _  T39.heap _
            rw [e39]
            exact ⟨congrArg (fun z => some (Value.ref z)) (hr.2.2.2.1 hc38).symm, N0, rfl⟩
        · skip
          by_cases hc40 : i0 = (409 : Int32)
          · skip
            obtain ⟨T41, X41, e41, st41⟩ := getS2 X0 hx hZ hown (host := "") (Or.inl (hw _ (List.mem_of_getElem? (i := 53) rfl))) Via.refl e0 (p11_S.ext p0_O.2) (g := (mkF m 124 #[.val (.int i0)] [])) rfl (hb hby d3_124)
            obtain ⟨fs, hrL, hrun, hended, hW, hsame⟩ := X41.leave (v := some (.ref w10)) (fun h => by rw [Bd.returns] at h; cases h)
            refine ⟨_, _, pre31 _ ?_, hrun, hended, _, _, rfl, ?_, ⟨_, rfl⟩, hW, hsame.mono (by decide) (by decide)⟩
            · show Steps p.tables e below (s₁.setTop (mkF m 1 #[.val (.int i0)] [(.int i0)])) _
              refine X0.lookupswitchHit hx (g := (mkF m 1 #[.val (.int i0)] [(.int i0)])) rfl (k := i0) (rest := []) rfl (hb hby d3_1) (by decide) (a := 409) (off := 123) (by rw [hc40]; decide) (show (0 : Int) ≤ ((1 : Nat) : Int) + (123) by decide) _ ?_
              show Steps p.tables e below (s₁.setTop (mkF m 124 #[.val (.int i0)] [])) _
              refine st41 _ ?_
              show Steps p.tables e below (T41.setTop (mkF m 127 #[.val (.int i0)] [(.ref w10)])) _
              refine XS.goto X41.here hx rfl (pc0 := 127) (pc' := 169) rfl (hb hby d3_127) (by decide) (by decide) ?_
              show Steps p.tables e below (T41.setTop (mkF m 169 #[.val (.int i0)] [(.ref w10)])) _
              exact retOut X41 hx Bd.returns rfl (Or.inr (Or.inr (Or.inr (Or.inr ⟨rfl, rfl, rfl⟩)))) (hb hby d3_169) hrL
            · show Q_rm3 _ _ _ _ _ _ _ _ _ _ _ _ _ _ _ _ _ _ _ _ _ _ _  T41.heap _
              rw [e41]
              exact ⟨congrArg (fun z => some (Value.ref z)) (hr.2.2.2.2.1 hc40).symm, N0, rfl⟩
          · skip
            by_cases hc42 : i0 = (429 : Int32)
            · skip
              obtain ⟨T43, X43, e43, st43⟩ := getS2 X0 hx hZ hown (host := "") (Or.inl (hw _ (List.mem_of_getElem? (i := 46) rfl))) Via.refl e0 (p9_S.ext p0_O.2) (g := (mkF m 130 #[.val (.int i0)] [])) rfl (hb hby d3_130)
              obtain ⟨fs, hrL, hrun, hended, hW, hsame⟩ := X43.leave (v := some (.ref w8)) (fun h => by rw [Bd.returns] at h; cases h)
              refine ⟨_, _, pre31 _ ?_, hrun, hended, _, _, rfl, ?_, ⟨_, rfl⟩, hW, hsame.mono (by decide) (by decide)⟩
              · show Steps p.tables e below (s₁.setTop (mkF m 1 #[.val (.int i0)] [(.int i0)])) _
                refine X0.lookupswitchHit hx (g := (mkF m 1 #[.val (.int i0)] [(.int i0)])) rfl (k := i0) (rest := []) rfl (hb hby d3_1) (by decide) (a := 429) (off := 129) (by rw [hc42]; decide) (show (0 : Int) ≤ ((1 : Nat) : Int) + (129) by decide) _ ?_
                show Steps p.tables e below (s₁.setTop (mkF m 130 #[.val (.int i0)] [])) _
                refine st43 _ ?_
                refine XS.goto X43.here hx rfl (pc0 := 133) (pc' := 169) rfl (hb hby d3_133) (by decide) (by decide) ?_
                show Steps p.tables e below (T43.setTop (mkF m 169 #[.val (.int i0)] [(.ref w8)])) _
                exact retOut X43 hx Bd.returns rfl (Or.inr (Or.inr (Or.inr (Or.inr ⟨rfl, rfl, rfl⟩)))) (hb hby d3_169) hrL
              · show Q_rm3 _ _ _ _ _ _ _ _ _ _ _ _ _ _ _ _ _ _ _ _ _ _ _  T43.heap _
                rw [e43]
                exact ⟨congrArg (fun z => some (Value.ref z)) (hr.2.2.2.2.2.1 hc42).symm, N0, rfl⟩
            · skip
              by_cases hc44 : i0 = (499 : Int32)
              · skip
                obtain ⟨T45, X45, e45, st45⟩ := getS2 X0 hx hZ hown (host := "") (Or.inl (hw _ (List.mem_of_getElem? (i := 49) rfl))) Via.refl e0 (p2_S.ext p0_O.2) (g := (mkF m 136 #[.val (.int i0)] [])) rfl (hb hby d3_136)
                obtain ⟨fs, hrL, hrun, hended, hW, hsame⟩ := X45.leave (v := some (.ref w1)) (fun h => by rw [Bd.returns] at h; cases h)
                refine ⟨_, _, pre31 _ ?_, hrun, hended, _, _, rfl, ?_, ⟨_, rfl⟩, hW, hsame.mono (by decide) (by decide)⟩
                · show Steps p.tables e below (s₁.setTop (mkF m 1 #[.val (.int i0)] [(.int i0)])) _
                  refine X0.lookupswitchHit hx (g := (mkF m 1 #[.val (.int i0)] [(.int i0)])) rfl (k := i0) (rest := []) rfl (hb hby d3_1) (by decide) (a := 499) (off := 135) (by rw [hc44]; decide) (show (0 : Int) ≤ ((1 : Nat) : Int) + (135) by decide) _ ?_
                  show Steps p.tables e below (s₁.setTop (mkF m 136 #[.val (.int i0)] [])) _
                  refine st45 _ ?_
                  refine XS.goto X45.here hx rfl (pc0 := 139) (pc' := 169) rfl (hb hby d3_139) (by decide) (by decide) ?_
                  show Steps p.tables e below (T45.setTop (mkF m 169 #[.val (.int i0)] [(.ref w1)])) _
                  exact retOut X45 hx Bd.returns rfl (Or.inr (Or.inr (Or.inr (Or.inr ⟨rfl, rfl, rfl⟩)))) (hb hby d3_169) hrL
                · show Q_rm3 _ _ _ _ _ _ _ _ _ _ _ _ _ _ _ _ _ _ _ _ _ _ _  T45.heap _
                  rw [e45]
                  exact ⟨congrArg (fun z => some (Value.ref z)) (hr.2.2.2.2.2.2.1 hc44).symm, N0, rfl⟩
              · skip
                by_cases hc46 : i0 = (500 : Int32)
                · skip
                  obtain ⟨T47, X47, e47, st47⟩ := getS2 X0 hx hZ hown (host := "") (Or.inl (hw _ (List.mem_of_getElem? (i := 56) rfl))) Via.refl e0 (p14_S.ext p0_O.2) (g := (mkF m 142 #[.val (.int i0)] [])) rfl (hb hby d3_142)
                  obtain ⟨fs, hrL, hrun, hended, hW, hsame⟩ := X47.leave (v := some (.ref w13)) (fun h => by rw [Bd.returns] at h; cases h)
                  refine ⟨_, _, pre31 _ ?_, hrun, hended, _, _, rfl, ?_, ⟨_, rfl⟩, hW, hsame.mono (by decide) (by decide)⟩
                  · show Steps p.tables e below (s₁.setTop (mkF m 1 #[.val (.int i0)] [(.int i0)])) _
                    refine X0.lookupswitchHit hx (g := (mkF m 1 #[.val (.int i0)] [(.int i0)])) rfl (k := i0) (rest := []) rfl (hb hby d3_1) (by decide) (a := 500) (off := 141) (by rw [hc46]; decide) (show (0 : Int) ≤ ((1 : Nat) : Int) + (141) by decide) _ ?_
                    show Steps p.tables e below (s₁.setTop (mkF m 142 #[.val (.int i0)] [])) _
                    refine st47 _ ?_
                    refine XS.goto X47.here hx rfl (pc0 := 145) (pc' := 169) rfl (hb hby d3_145) (by decide) (by decide) ?_
                    show Steps p.tables e below (T47.setTop (mkF m 169 #[.val (.int i0)] [(.ref w13)])) _
                    exact retOut X47 hx Bd.returns rfl (Or.inr (Or.inr (Or.inr (Or.inr ⟨rfl, rfl, rfl⟩)))) (hb hby d3_169) hrL
                  · show Q_rm3 _ _ _ _ _ _ _ _ _ _ _ _ _ _ _ _ _ _ _ _ _ _ _  T47.heap _
                    rw [e47]
                    exact ⟨congrArg (fun z => some (Value.ref z)) (hr.2.2.2.2.2.2.2.1 hc46).symm, N0, rfl⟩
                · skip
                  by_cases hc48 : i0 = (501 : Int32)
                  · skip
                    obtain ⟨T49, X49, e49, st49⟩ := getS2 X0 hx hZ hown (host := "") (Or.inl (hw _ (List.mem_of_getElem? (i := 43) rfl))) Via.refl e0 (p13_S.ext p0_O.2) (g := (mkF m 148 #[.val (.int i0)] [])) rfl (hb hby d3_148)
                    obtain ⟨fs, hrL, hrun, hended, hW, hsame⟩ := X49.leave (v := some (.ref w12)) (fun h => by rw [Bd.returns] at h; cases h)
                    refine ⟨_, _, pre31 _ ?_, hrun, hended, _, _, rfl, ?_, ⟨_, rfl⟩, hW, hsame.mono (by decide) (by decide)⟩
                    · show Steps p.tables e below (s₁.setTop (mkF m 1 #[.val (.int i0)] [(.int i0)])) _
                      refine X0.lookupswitchHit hx (g := (mkF m 1 #[.val (.int i0)] [(.int i0)])) rfl (k := i0) (rest := []) rfl (hb hby d3_1) (by decide) (a := 501) (off := 147) (by rw [hc48]; decide) (show (0 : Int) ≤ ((1 : Nat) : Int) + (147) by decide) _ ?_
                      show Steps p.tables e below (s₁.setTop (mkF m 148 #[.val (.int i0)] [])) _
                      refine st49 _ ?_
                      show Steps p.tables e below (T49.setTop (mkF m 151 #[.val (.int i0)] [(.ref w12)])) _
                      refine XS.goto X49.here hx rfl (pc0 := 151) (pc' := 169) rfl (hb hby d3_151) (by decide) (by decide) ?_
                      show Steps p.tables e below (T49.setTop (mkF m 169 #[.val (.int i0)] [(.ref w12)])) _
                      exact retOut X49 hx Bd.returns rfl (Or.inr (Or.inr (Or.inr (Or.inr ⟨rfl, rfl, rfl⟩)))) (hb hby d3_169) hrL
                    · show Q_rm3 _ _ _ _ _ _ _ _ _ _ _ _ _ _ _ _ _ _ _ _ _ _ _  T49.heap _
                      rw [e49]
                      exact ⟨congrArg (fun z => some (Value.ref z)) (hr.2.2.2.2.2.2.2.2.1 hc48).symm, N0, rfl⟩
                  · skip
                    by_cases hc50 : i0 = (503 : Int32)
                    · skip
                      obtain ⟨T51, X51, e51, st51⟩ := getS2 X0 hx hZ hown (host := "") (Or.inl (hw _ (List.mem_of_getElem? (i := 52) rfl))) Via.refl e0 (p15_S.ext p0_O.2) (g := (mkF m 154 #[.val (.int i0)] [])) rfl (hb hby d3_154)
                      obtain ⟨fs, hrL, hrun, hended, hW, hsame⟩ := X51.leave (v := some (.ref w14)) (fun h => by rw [Bd.returns] at h; cases h)
                      refine ⟨_, _, pre31 _ ?_, hrun, hended, _, _, rfl, ?_, ⟨_, rfl⟩, hW, hsame.mono (by decide) (by decide)⟩
                      · show Steps p.tables e below (s₁.setTop (mkF m 1 #[.val (.int i0)] [(.int i0)])) _
                        refine X0.lookupswitchHit hx (g := (mkF m 1 #[.val (.int i0)] [(.int i0)])) rfl (k := i0) (rest := []) rfl (hb hby d3_1) (by decide) (a := 503) (off := 153) (by rw [hc50]; decide) (show (0 : Int) ≤ ((1 : Nat) : Int) + (153) by decide) _ ?_
                        show Steps p.tables e below (s₁.setTop (mkF m 154 #[.val (.int i0)] [])) _
                        refine st51 _ ?_
                        refine XS.goto X51.here hx rfl (pc0 := 157) (pc' := 169) rfl (hb hby d3_157) (by decide) (by decide) ?_
                        show Steps p.tables e below (T51.setTop (mkF m 169 #[.val (.int i0)] [(.ref w14)])) _
                        exact retOut X51 hx Bd.returns rfl (Or.inr (Or.inr (Or.inr (Or.inr ⟨rfl, rfl, rfl⟩)))) (hb hby d3_169) hrL
                      · show Q_rm3 _ _ _ _ _ _ _ _ _ _ _ _ _ _ _ _ _ _ _ _ _ _ _  T51.heap _
                        rw [e51]
                        exact ⟨congrArg (fun z => some (Value.ref z)) (hr.2.2.2.2.2.2.2.2.2.1 hc50).symm, N0, rfl⟩
                    · skip
                      by_cases hc52 : i0 = (504 : Int32)
                      · skip
                        obtain ⟨T53, X53, e53, st53⟩ := getS2 X0 hx hZ hown (host := "") (Or.inl (hw _ (List.mem_of_getElem? (i := 59) rfl))) Via.refl e0 (p5_S.ext p0_O.2) (g := (mkF m 160 #[.val (.int i0)] [])) rfl (hb hby d3_160)
                        obtain ⟨fs, hrL, hrun, hended, hW, hsame⟩ := X53.leave (v := some (.ref w4)) (fun h => by rw [Bd.returns] at h; cases h)
                        refine ⟨_, _, pre31 _ ?_, hrun, hended, _, _, rfl, ?_, ⟨_, rfl⟩, hW, hsame.mono (by decide) (by decide)⟩
                        · show Steps p.tables e below (s₁.setTop (mkF m 1 #[.val (.int i0)] [(.int i0)])) _
                          refine X0.lookupswitchHit hx (g := (mkF m 1 #[.val (.int i0)] [(.int i0)])) rfl (k := i0) (rest := []) rfl (hb hby d3_1) (by decide) (a := 504) (off := 159) (by rw [hc52]; decide) (show (0 : Int) ≤ ((1 : Nat) : Int) + (159) by decide) _ ?_
                          show Steps p.tables e below (s₁.setTop (mkF m 160 #[.val (.int i0)] [])) _
                          refine st53 _ ?_
                          refine XS.goto X53.here hx rfl (pc0 := 163) (pc' := 169) rfl (hb hby d3_163) (by decide) (by decide) ?_
                          show Steps p.tables e below (T53.setTop (mkF m 169 #[.val (.int i0)] [(.ref w4)])) _
                          exact retOut X53 hx Bd.returns rfl (Or.inr (Or.inr (Or.inr (Or.inr ⟨rfl, rfl, rfl⟩)))) (hb hby d3_169) hrL
                        · show Q_rm3 _ _ _ _ _ _ _ _ _ _ _ _ _ _ _ _ _ _ _ _ _ _ _  T53.heap _
                          rw [e53]
                          exact ⟨congrArg (fun z => some (Value.ref z)) (hr.2.2.2.2.2.2.2.2.2.2.1 hc52).symm, N0, rfl⟩
                      · skip
                        obtain ⟨T54, X54, e54, st54⟩ := getS2 X0 hx hZ hown (host := "") (Or.inl (hw _ (List.mem_of_getElem? (i := 26) rfl))) Via.refl e0 (p3_S.ext p0_O.2) (g := (mkF m 166 #[.val (.int i0)] [])) rfl (hb hby d3_166)
                        obtain ⟨fs, hrL, hrun, hended, hW, hsame⟩ := X54.leave (v := some (.ref w2)) (fun h => by rw [Bd.returns] at h; cases h)
                        refine ⟨_, _, pre31 _ ?_, hrun, hended, _, _, rfl, ?_, ⟨_, rfl⟩, hW, hsame.mono (by decide) (by decide)⟩
                        · show Steps p.tables e below (s₁.setTop (mkF m 1 #[.val (.int i0)] [(.int i0)])) _
                          refine X0.lookupswitchMiss hx (g := (mkF m 1 #[.val (.int i0)] [(.int i0)])) rfl (k := i0) (rest := []) rfl (hb hby d3_1) (by decide) (find_miss (List.forall_mem_cons.mpr ⟨fun q => hc32 (own_ti (by decide) q), (List.forall_mem_cons.mpr ⟨fun q => hc34 (own_ti (by decide) q), (List.forall_mem_cons.mpr ⟨fun q => hc36 (own_ti (by decide) q), (List.forall_mem_cons.mpr ⟨fun q => hc38 (own_ti (by decide) q), (List.forall_mem_cons.mpr ⟨fun q => hc40 (own_ti (by decide) q), (List.forall_mem_cons.mpr ⟨fun q => hc42 (own_ti (by decide) q), (List.forall_mem_cons.mpr ⟨fun q => hc44 (own_ti (by decide) q), (List.forall_mem_cons.mpr ⟨fun q => hc46 (own_ti (by decide) q), (List.forall_mem_cons.mpr ⟨fun q => hc48 (own_ti (by decide) q), (List.forall_mem_cons.mpr ⟨fun q => hc50 (own_ti (by decide) q), (List.forall_mem_cons.mpr ⟨fun q => hc52 (own_ti (by decide) q), (List.forall_mem_nil _)⟩)⟩)⟩)⟩)⟩)⟩)⟩)⟩)⟩)⟩)⟩)) (show (0 : Int) ≤ ((1 : Nat) : Int) + (165) by decide) _ ?_
                          show Steps p.tables e below (s₁.setTop (mkF m 166 #[.val (.int i0)] [])) _
                          refine st54 _ ?_
                          show Steps p.tables e below (T54.setTop (mkF m 169 #[.val (.int i0)] [(.ref w2)])) _
                          exact retOut X54 hx Bd.returns rfl (Or.inr (Or.inr (Or.inr (Or.inr ⟨rfl, rfl, rfl⟩)))) (hb hby d3_169) hrL
                        · show Q_rm3 _ _ _ _ _ _ _ _ _ _ _ _ _ _ _ _ _ _ _ _ _ _ _  T54.heap _
                          rw [e54]
                          exact ⟨congrArg (fun z => some (Value.ref z)) (hr.2.2.2.2.2.2.2.2.2.2.2 hc32 hc34 hc36 hc38 hc40 hc42 hc44 hc46 hc48 hc50 hc52).symm, N0, rfl⟩
theorem pd_0 : parseMethodDescriptor "(I)Lcom/example/callee/callee/model/CanonicalCode;" = some ⟨[.int], some (.object "com/example/callee/callee/model/CanonicalCode")⟩ := by decide +kernel
theorem pd_1 : parseMethodDescriptor "()I" = some ⟨[], some .int⟩ := by decide +kernel
theorem ef_rm0 (m : MethodId) (i0 : Int32) (i1 : Int32) (i2 : Int32) : entryFrame m #[(.int i0), (.int i1), (.int i2)] maxLocals = mkF m 0 #[.val (.int i0), .val (.int i1), .val (.int i2), .unset, .unset, .unset, .unset, .unset, .unset, .unset, .unset, .unset, .unset, .unset] [] := by first | (simp [entryFrame, mkF, argsToLocals, Value.category, maxLocals]; done) | rfl
def Q_rm0 (Z : State) (i0 : Int32) (i1 : Int32) (i2 : Int32) (w0 : Addr) (w1 : Addr) (w2 : Addr) (w3 : Addr) (w4 : Addr) (w5 : Addr) (w6 : Addr) (w7 : Addr) (w8 : Addr) (w9 : Addr) (w10 : Addr) (w11 : Addr) (w12 : Addr) (w13 : Addr) (w14 : Addr) (w15 : Addr) (w16 : Addr) (r1 : Addr) (v1 : Int32) (h0 : Heap) (n0 : Nat) (v : Option Value) (h : Heap) (L : List Loc) : Prop := v = some (.int 1) ∧ Fr n0 L ∧ h = h0
set_option maxRecDepth 65536 in
set_option maxHeartbeats 40000000 in
theorem rm0 (l : Launch) (Z : State) (av0 : Array Value) (hw : ∀ d ∈ tables_1, d.before av0 Z = true) (ws : List Jvm.Cond) (i0 : Int32) (i1 : Int32) (i2 : Int32) (w0 : Addr) (w1 : Addr) (w2 : Addr) (w3 : Addr) (w4 : Addr) (w5 : Addr) (w6 : Addr) (w7 : Addr) (w8 : Addr) (w9 : Addr) (w10 : Addr) (w11 : Addr) (w12 : Addr) (w13 : Addr) (w14 : Addr) (w15 : Addr) (w16 : Addr) (r1 : Addr) (v1 : Int32) (h0 : Heap) (n0 : Nat) (Z0 : n0 ≤ h0.size) (p0_O : Old Z n0 h0) (p1_S : Sta Z Z.heap "com/example/callee/callee/model/CanonicalCode" "OK" "Lcom/example/callee/callee/model/CanonicalCode;" (.ref w0)) (p2_S : Sta Z Z.heap "com/example/callee/callee/model/CanonicalCode" "CANCELLED" "Lcom/example/callee/callee/model/CanonicalCode;" (.ref w1)) (p3_S : Sta Z Z.heap "com/example/callee/callee/model/CanonicalCode" "UNKNOWN" "Lcom/example/callee/callee/model/CanonicalCode;" (.ref w2)) (p4_S : Sta Z Z.heap "com/example/callee/callee/model/CanonicalCode" "INVALID_ARGUMENT" "Lcom/example/callee/callee/model/CanonicalCode;" (.ref w3)) (p5_S : Sta Z Z.heap "com/example/callee/callee/model/CanonicalCode" "DEADLINE_EXCEEDED" "Lcom/example/callee/callee/model/CanonicalCode;" (.ref w4)) (p6_S : Sta Z Z.heap "com/example/callee/callee/model/CanonicalCode" "NOT_FOUND" "Lcom/example/callee/callee/model/CanonicalCode;" (.ref w5)) (p7_S : Sta Z Z.heap "com/example/callee/callee/model/CanonicalCode" "ALREADY_EXISTS" "Lcom/example/callee/callee/model/CanonicalCode;" (.ref w6)) (p8_S : Sta Z Z.heap "com/example/callee/callee/model/CanonicalCode" "PERMISSION_DENIED" "Lcom/example/callee/callee/model/CanonicalCode;" (.ref w7)) (p9_S : Sta Z Z.heap "com/example/callee/callee/model/CanonicalCode" "RESOURCE_EXHAUSTED" "Lcom/example/callee/callee/model/CanonicalCode;" (.ref w8)) (p10_S : Sta Z Z.heap "com/example/callee/callee/model/CanonicalCode" "FAILED_PRECONDITION" "Lcom/example/callee/callee/model/CanonicalCode;" (.ref w9)) (p11_S : Sta Z Z.heap "com/example/callee/callee/model/CanonicalCode" "ABORTED" "Lcom/example/callee/callee/model/CanonicalCode;" (.ref w10)) (p12_S : Sta Z Z.heap "com/example/callee/callee/model/CanonicalCode" "OUT_OF_RANGE" "Lcom/example/callee/callee/model/CanonicalCode;" (.ref w11)) (p13_S : Sta Z Z.heap "com/example/callee/callee/model/CanonicalCode" "UNIMPLEMENTED" "Lcom/example/callee/callee/model/CanonicalCode;" (.ref w12)) (p14_S : Sta Z Z.heap "com/example/callee/callee/model/CanonicalCode" "INTERNAL" "Lcom/example/callee/callee/model/CanonicalCode;" (.ref w13)) (p15_S : Sta Z Z.heap "com/example/callee/callee/model/CanonicalCode" "UNAVAILABLE" "Lcom/example/callee/callee/model/CanonicalCode;" (.ref w14)) (p16_S : Sta Z Z.heap "com/example/callee/callee/model/CanonicalCode" "DATA_LOSS" "Lcom/example/callee/callee/model/CanonicalCode;" (.ref w15)) (p17_S : Sta Z Z.heap "com/example/callee/callee/model/CanonicalCode" "UNAUTHENTICATED" "Lcom/example/callee/callee/model/CanonicalCode;" (.ref w16)) (p18_E : Exa Z h0 r1 "com/example/callee/callee/model/CanonicalCode") (p19_F : Fld Z h0 r1 "com/example/callee/callee/model/CanonicalCode" "httpStatus" "I" (.int v1)) (hr1 : (((i1 &&& (2147483647 : Int32)) % (17 : Int32)) = (0 : Int32) → r1 = w0) ∧ (((i1 &&& (2147483647 : Int32)) % (17 : Int32)) = (1 : Int32) → r1 = w1) ∧ (((i1 &&& (2147483647 : Int32)) % (17 : Int32)) = (2 : Int32) → r1 = w2) ∧ (((i1 &&& (2147483647 : Int32)) % (17 : Int32)) = (3 : Int32) → r1 = w3) ∧ (((i1 &&& (2147483647 : Int32)) % (17 : Int32)) = (4 : Int32) → r1 = w4) ∧ (((i1 &&& (2147483647 : Int32)) % (17 : Int32)) = (5 : Int32) → r1 = w5) ∧ (((i1 &&& (2147483647 : Int32)) % (17 : Int32)) = (6 : Int32) → r1 = w6) ∧ (((i1 &&& (2147483647 : Int32)) % (17 : Int32)) = (7 : Int32) → r1 = w7) ∧ (((i1 &&& (2147483647 : Int32)) % (17 : Int32)) = (8 : Int32) → r1 = w8) ∧ (((i1 &&& (2147483647 : Int32)) % (17 : Int32)) = (9 : Int32) → r1 = w9) ∧ (((i1 &&& (2147483647 : Int32)) % (17 : Int32)) = (10 : Int32) → r1 = w10) ∧ (((i1 &&& (2147483647 : Int32)) % (17 : Int32)) = (11 : Int32) → r1 = w11) ∧ (((i1 &&& (2147483647 : Int32)) % (17 : Int32)) = (12 : Int32) → r1 = w12) ∧ (((i1 &&& (2147483647 : Int32)) % (17 : Int32)) = (13 : Int32) → r1 = w13) ∧ (((i1 &&& (2147483647 : Int32)) % (17 : Int32)) = (14 : Int32) → r1 = w14) ∧ (((i1 &&& (2147483647 : Int32)) % (17 : Int32)) = (15 : Int32) → r1 = w15) ∧ (¬ (((i1 &&& (2147483647 : Int32)) % (17 : Int32)) = (0 : Int32)) → ¬ (((i1 &&& (2147483647 : Int32)) % (17 : Int32)) = (1 : Int32)) → ¬ (((i1 &&& (2147483647 : Int32)) % (17 : Int32)) = (2 : Int32)) → ¬ (((i1 &&& (2147483647 : Int32)) % (17 : Int32)) = (3 : Int32)) → ¬ (((i1 &&& (2147483647 : Int32)) % (17 : Int32)) = (4 : Int32)) → ¬ (((i1 &&& (2147483647 : Int32)) % (17 : Int32)) = (5 : Int32)) → ¬ (((i1 &&& (2147483647 : Int32)) % (17 : Int32)) = (6 : Int32)) → ¬ (((i1 &&& (2147483647 : Int32)) % (17 : Int32)) = (7 : Int32)) → ¬ (((i1 &&& (2147483647 : Int32)) % (17 : Int32)) = (8 : Int32)) → ¬ (((i1 &&& (2147483647 : Int32)) % (17 : Int32)) = (9 : Int32)) → ¬ (((i1 &&& (2147483647 : Int32)) % (17 : Int32)) = (10 : Int32)) → ¬ (((i1 &&& (2147483647 : Int32)) % (17 : Int32)) = (11 : Int32)) → ¬ (((i1 &&& (2147483647 : Int32)) % (17 : Int32)) = (12 : Int32)) → ¬ (((i1 &&& (2147483647 : Int32)) % (17 : Int32)) = (13 : Int32)) → ¬ (((i1 &&& (2147483647 : Int32)) % (17 : Int32)) = (14 : Int32)) → ¬ (((i1 &&& (2147483647 : Int32)) % (17 : Int32)) = (15 : Int32)) → r1 = w16)) (hst : r1 = w0 ∨ v1 = (400 : Int32) ∨ v1 = (401 : Int32) ∨ v1 = (403 : Int32) ∨ v1 = (404 : Int32) ∨ v1 = (409 : Int32) ∨ v1 = (429 : Int32) ∨ v1 = (499 : Int32) ∨ v1 = (500 : Int32) ∨ v1 = (501 : Int32) ∨ v1 = (503 : Int32) ∨ v1 = (504 : Int32)) (key : ∀ t : Int32, ∃ (r2 : Addr) (v2 : Int32), Exa Z h0 r2 "com/example/callee/callee/model/CanonicalCode" ∧ Fld Z h0 r2 "com/example/callee/callee/model/CanonicalCode" "httpStatus" "I" (.int v2) ∧ ((t = (400 : Int32) → r2 = w3) ∧ (t = (401 : Int32) → r2 = w16) ∧ (t = (403 : Int32) → r2 = w7) ∧ (t = (404 : Int32) → r2 = w5) ∧ (t = (409 : Int32) → r2 = w10) ∧ (t = (429 : Int32) → r2 = w8) ∧ (t = (499 : Int32) → r2 = w1) ∧ (t = (500 : Int32) → r2 = w13) ∧ (t = (501 : Int32) → r2 = w12) ∧ (t = (503 : Int32) → r2 = w14) ∧ (t = (504 : Int32) → r2 = w4) ∧ (¬ (t = (400 : Int32)) → ¬ (t = (401 : Int32)) → ¬ (t = (403 : Int32)) → ¬ (t = (404 : Int32)) → ¬ (t = (409 : Int32)) → ¬ (t = (429 : Int32)) → ¬ (t = (499 : Int32)) → ¬ (t = (500 : Int32)) → ¬ (t = (501 : Int32)) → ¬ (t = (503 : Int32)) → ¬ (t = (504 : Int32)) → r2 = w2)) ∧ ((¬ (r2 = w0)) ∧ (r2 = w2 ∨ v2 = t) ∧ ((t = (400 : Int32) ∨ t = (401 : Int32) ∨ t = (403 : Int32) ∨ t = (404 : Int32) ∨ t = (409 : Int32) ∨ t = (429 : Int32) ∨ t = (499 : Int32) ∨ t = (500 : Int32) ∨ t = (501 : Int32) ∨ t = (503 : Int32) ∨ t = (504 : Int32)) → ¬ (r2 = w2) ∧ v2 = t) ∧ (t = (400 : Int32) → r2 = w3) ∧ (t = (409 : Int32) → r2 = w10) ∧ (t = (500 : Int32) → r2 = w13))) :
    MetFree l x (head1 (Jvm.Cond.code x code maxLocals ret :: ws) room_1) (fun a U => a = #[(.int i0), (.int i1), (.int i2)] ∧ Z.Warmed39 U.vm ∧ U.heap = h0) (fun _ _ _ _ _ => True) (fun _ U o U' => ∃ v L, o = .returned v ∧ Q_rm0 Z i0 i1 i2 w0 w1 w2 w3 w4 w5 w6 w7 w8 w9 w10 w11 w12 w13 w14 w15 w16 r1 v1 h0 n0 v U'.heap L ∧ FrameEnd U o U' L room_1.cells room_1.slots) := by
  refine MetFree.of_bodySF (plainFor_of_name pn_com_example_callee_callee_model_CanonicalCodeOfHttpStatusPinLaw) hisR ?_
  intro p e s m args below meth c s₁ Bd hml0 hP hK
  obtain ⟨rfl, hZ, hh⟩ := hP
  have hx := Bd.exec
  have hby := Bd.bytes
  have hml : c.maxLocals = 14 := hml0
  have hown : s.vm.findClass "com/example/callee/callee/model/CanonicalCodeOfHttpStatusPinLaw" = some m.cls := findClass_of_methodNamed Bd.named
  have hnm := (name_of_methodNamed Bd.named Bd.method).1
  have X0 : Stand p l e room_1 s m #[(.int i0), (.int i1), (.int i2)] below meth c s₁ [] 0 0 := Stand.of_body Bd
  have e0 : s₁.heap = h0 := by rw [← hh, Bd.state]; rfl
  have N0 := Fr.nil n0
  have pre0 : ∀ tz_, Steps p.tables e below (s₁.setTop (mkF m 0 #[.val (.int i0), .val (.int i1), .val (.int i2), .unset, .unset, .unset, .unset, .unset, .unset, .unset, .unset, .unset, .unset, .unset] [])) tz_ → Steps p.tables e below (s₁.setTop (entryFrame m #[(.int i0), (.int i1), (.int i2)] maxLocals)) tz_ := fun tz_ kz_ => castTop (ef_rm0 m i0 i1 i2) kz_
  -- pc 7: CanonicalCodeOfHttpStatusPinLaw.codeAt
  obtain ⟨_, _, ⟨T31, L31, k31, n31⟩, -, X31, ⟨Lc31, hQ31, l31, y31, z31⟩, st31⟩ := Jvm.LawKit.callS X0 hx (y := (⟨"com/example/callee/callee/model/CanonicalCodeOfHttpStatusPinLaw", "codeAt", "(I)Lcom/example/callee/callee/model/CanonicalCode;"⟩ : MethodName)) hown (mvT hZ (hw _ (List.mem_of_getElem? (i := 1) rfl))) (mvT hZ (hw _ (List.mem_of_getElem? (i := 2) rfl))) (mvT hZ (hw _ (List.mem_of_getElem? (i := 3) rfl))) (mvT hZ (hw _ (List.mem_of_getElem? (i := 4) rfl))) (by decide) (backOf (W := 0) (rm1 l Z av0 hw [] ((i1 &&& (2147483647 : Int32)) % (17 : Int32)) w0 w1 w2 w3 w4 w5 w6 w7 w8 w9 w10 w11 w12 w13 w14 w15 w16 r1 h0 n0 (own_le p0_O) p0_O p1_S p2_S p3_S p4_S p5_S p6_S p7_S p8_S p9_S p10_S p11_S p12_S p13_S p14_S p15_S p16_S p17_S (hr1 : (((i1 &&& (2147483647 : Int32)) % (17 : Int32)) = (0 : Int32) → r1 = w0) ∧ (((i1 &&& (2147483647 : Int32)) % (17 : Int32)) = (1 : Int32) → r1 = w1) ∧ (((i1 &&& (2147483647 : Int32)) % (17 : Int32)) = (2 : Int32) → r1 = w2) ∧ (((i1 &&& (2147483647 : Int32)) % (17 : Int32)) = (3 : Int32) → r1 = w3) ∧ (((i1 &&& (2147483647 : Int32)) % (17 : Int32)) = (4 : Int32) → r1 = w4) ∧ (((i1 &&& (2147483647 : Int32)) % (17 : Int32)) = (5 : Int32) → r1 = w5) ∧ (((i1 &&& (2147483647 : Int32)) % (17 : Int32)) = (6 : Int32) → r1 = w6) ∧ (((i1 &&& (2147483647 : Int32)) % (17 : Int32)) = (7 : Int32) → r1 = w7) ∧ (((i1 &&& (2147483647 : Int32)) % (17 : Int32)) = (8 : Int32) → r1 = w8) ∧ (((i1 &&& (2147483647 : Int32)) % (17 : Int32)) = (9 : Int32) → r1 = w9) ∧ (((i1 &&& (2147483647 : Int32)) % (17 : Int32)) = (10 : Int32) → r1 = w10) ∧ (((i1 &&& (2147483647 : Int32)) % (17 : Int32)) = (11 : Int32) → r1 = w11) ∧ (((i1 &&& (2147483647 : Int32)) % (17 : Int32)) = (12 : Int32) → r1 = w12) ∧ (((i1 &&& (2147483647 : Int32)) % (17 : Int32)) = (13 : Int32) → r1 = w13) ∧ (((i1 &&& (2147483647 : Int32)) % (17 : Int32)) = (14 : Int32) → r1 = w14) ∧ (((i1 &&& (2147483647 : Int32)) % (17 : Int32)) = (15 : Int32) → r1 = w15) ∧ (¬ (((i1 &&& (2147483647 : Int32)) % (17 : Int32)) = (0 : Int32)) → ¬ (((i1 &&& (2147483647 : Int32)) % (17 : Int32)) = (1 : Int32)) → ¬ (((i1 &&& (2147483647 : Int32)) % (17 : Int32)) = (2 : Int32)) → ¬ (((i1 &&& (2147483647 : Int32)) % (17 : Int32)) = (3 : Int32)) → ¬ (((i1 &&& (2147483647 : Int32)) % (17 : Int32)) = (4 : Int32)) → ¬ (((i1 &&& (2147483647 : Int32)) % (17 : Int32)) = (5 : Int32)) → ¬ (((i1 &&& (2147483647 : Int32)) % (17 : Int32)) = (6 : Int32)) → ¬ (((i1 &&& (2147483647 : Int32)) % (17 : Int32)) = (7 : Int32)) → ¬ (((i1 &&& (2147483647 : Int32)) % (17 : Int32)) = (8 : Int32)) → ¬ (((i1 &&& (2147483647 : Int32)) % (17 : Int32)) = (9 : Int32)) → ¬ (((i1 &&& (2147483647 : Int32)) % (17 : Int32)) = (10 : Int32)) → ¬ (((i1 &&& (2147483647 : Int32)) % (17 : Int32)) = (11 : Int32)) → ¬ (((i1 &&& (2147483647 : Int32)) % (17 : Int32)) = (12 : Int32)) → ¬ (((i1 &&& (2147483647 : Int32)) % (17 : Int32)) = (13 : Int32)) → ¬ (((i1 &&& (2147483647 : Int32)) % (17 : Int32)) = (14 : Int32)) → ¬ (((i1 &&& (2147483647 : Int32)) % (17 : Int32)) = (15 : Int32)) → r1 = w16))) hZ (hw _ (List.mem_of_getElem? (i := 4) rfl)) (hw _ (List.mem_of_getElem? (i := 3) rfl)) (by decide) (by decide)) (g := (mkF m 7 #[.val (.int i0), .val (.int i1), .val (.int i2), .unset, .unset, .unset, .unset, .unset, .unset, .unset, .unset, .unset, .unset, .unset] [(.int ((i1 &&& (2147483647 : Int32)) % (17 : Int32)))])) rfl (by rw [hml]; rfl) (argsL := [(.int ((i1 &&& (2147483647 : Int32)) % (17 : Int32)))]) (rest := []) (lenOf pd_0 rfl) rfl (by show 2 * 0 + _ ≤ _; exact Nat.le_of_eq rfl) (hb hby at_7) (fun vmx hWx => ⟨rfl, e0, (by decide : 0 + 0 ≤ _), (by decide : 0 + 0 ≤ _)⟩)
  dsimp only [Pt.U, Pt.locs, Pt.cells, Pt.slots] at X31 l31 y31 z31 st31 hQ31
  subst l31 y31 z31
  obtain ⟨rv31, Nq31, Kq31⟩ := hQ31
  subst rv31
  have N31 := Fr.app N0 Nq31
  -- pc 12: CanonicalCode.httpStatus
  obtain ⟨cq32, kq32, q32a, q32b, q32c⟩ := isOf hZ Kq31 p18_E
  obtain ⟨_, _, ⟨T32, L32, k32, n32⟩, -, X32, ⟨Lc32, hQ32, l32, y32, z32⟩, st32⟩ := X31.virtualBack hx (y := (⟨"com/example/callee/callee/model/CanonicalCode", "httpStatus", "()I"⟩ : MethodName)) (z := (⟨"com/example/callee/callee/model/CanonicalCode", "httpStatus", "()I"⟩ : MethodName)) hown (mvT hZ (hw _ (List.mem_of_getElem? (i := 8) rfl))) (mvT hZ (hw _ (List.mem_of_getElem? (i := 9) rfl))) (notFace_of_selects (args := #[]) (mvT hZ (hw _ (List.mem_of_getElem? (i := 11) rfl)))) (mvT hZ (hw _ (List.mem_of_getElem? (i := 11) rfl))) (mvT hZ (hw _ (List.mem_of_getElem? (i := 10) rfl))) (by decide) (backOf (W := 0) (rm2 l Z av0 hw [] r1 v1 h0 n0 (own_le p0_O) p19_F) hZ (hw _ (List.mem_of_getElem? (i := 12) rfl)) (hw _ (List.mem_of_getElem? (i := 6) rfl)) (by decide) (by decide)) q32a q32c (g := (mkF m 12 #[.val (.int i0), .val (.int i1), .val (.int i2), .val (.ref r1), .unset, .unset, .unset, .unset, .unset, .unset, .unset, .unset, .unset, .unset] [(.ref r1)])) rfl (by rw [hml]; rfl) (Steps.refl _) (argsL := []) (rest := []) (lenOf pd_1 rfl) rfl (by show 2 * 0 + _ ≤ _; exact Nat.le_of_eq rfl) (hb hby at_12) (fun vmx hWx => ⟨rfl, Kq31, (by decide : 0 + 0 ≤ _), (by decide : 0 + 0 ≤ _)⟩)
  dsimp only [Pt.U, Pt.locs, Pt.cells, Pt.slots] at X32 l32 y32 z32 st32 hQ32
  subst l32 y32 z32
  obtain ⟨rv32, Nq32, Kq32⟩ := hQ32
  subst rv32
  have N32 := Fr.app N31 Nq32
  have pre33 : ∀ tz_, Steps p.tables e below (T32.setTop (mkF m 24 #[.val (.int i0), .val (.int i1), .val (.int i2), .val (.ref r1), .val (.int v1), .val (.int (((i2.toUInt32 >>> ((1 : Int32) &&& 31).toUInt32).toInt32) &&& (3 : Int32))), .unset, .unset, .unset, .unset, .unset, .unset, .unset, .unset] [])) tz_ → Steps p.tables e below (s₁.setTop (entryFrame m #[(.int i0), (.int i1), (.int i2)] maxLocals)) tz_ := fun tz_ kk => pre0 tz_ (by
    show Steps p.tables e below (s₁.setTop (mkF m 0 #[.val (.int i0), .val (.int i1), .val (.int i2), .unset, .unset, .unset, .unset, .unset, .unset, .unset, .unset, .unset, .unset, .unset] [])) _
    refine XS.iloadN X0.here hx rfl (hb hby at_0) rfl ?_
    show Steps p.tables e below (s₁.setTop (mkF m 1 #[.val (.int i0), .val (.int i1), .val (.int i2), .unset, .unset, .unset, .unset, .unset, .unset, .unset, .unset, .unset, .unset, .unset] [(.int i1)])) _
    refine X0.ldcInt hx hown (mvT hZ (hw _ (List.mem_of_getElem? (i := 0) rfl))) (g := (mkF m 1 #[.val (.int i0), .val (.int i1), .val (.int i2), .unset, .unset, .unset, .unset, .unset, .unset, .unset, .unset, .unset, .unset, .unset] [(.int i1)])) rfl (hb hby at_1) _ ?_
    show Steps p.tables e below (s₁.setTop (mkF m 3 #[.val (.int i0), .val (.int i1), .val (.int i2), .unset, .unset, .unset, .unset, .unset, .unset, .unset, .unset, .unset, .unset, .unset] [(.int 2147483647), (.int i1)])) _
    refine XS.iand X0.here hx rfl (hb hby at_3) rfl ?_
    show Steps p.tables e below (s₁.setTop (mkF m 4 #[.val (.int i0), .val (.int i1), .val (.int i2), .unset, .unset, .unset, .unset, .unset, .unset, .unset, .unset, .unset, .unset, .unset] [(.int (i1 &&& (2147483647 : Int32)))])) _
    refine XS.bipush X0.here hx rfl (hb hby at_4) ?_
    show Steps p.tables e below (s₁.setTop (mkF m 6 #[.val (.int i0), .val (.int i1), .val (.int i2), .unset, .unset, .unset, .unset, .unset, .unset, .unset, .unset, .unset, .unset, .unset] [(.int 17), (.int (i1 &&& (2147483647 : Int32)))])) _
    refine Jvm.RoadKit.iremM X0 hx rfl (hb hby at_6) rfl (by decide) ?_
    show Steps p.tables e below (s₁.setTop (mkF m 7 #[.val (.int i0), .val (.int i1), .val (.int i2), .unset, .unset, .unset, .unset, .unset, .unset, .unset, .unset, .unset, .unset, .unset] [(.int ((i1 &&& (2147483647 : Int32)) % (17 : Int32)))])) _
    refine st31 _ ?_
    refine XS.astoreN X31.here hx rfl (hb hby at_10) rfl rfl (l' := #[.val (.int i0), .val (.int i1), .val (.int i2), .val (.ref r1), .unset, .unset, .unset, .unset, .unset, .unset, .unset, .unset, .unset, .unset]) rfl ?_
    show Steps p.tables e below (T31.setTop (mkF m 11 #[.val (.int i0), .val (.int i1), .val (.int i2), .val (.ref r1), .unset, .unset, .unset, .unset, .unset, .unset, .unset, .unset, .unset, .unset] [])) _
    refine XS.aloadN X31.here hx rfl (hb hby at_11) rfl rfl ?_
    show Steps p.tables e below (T31.setTop (mkF m 12 #[.val (.int i0), .val (.int i1), .val (.int i2), .val (.ref r1), .unset, .unset, .unset, .unset, .unset, .unset, .unset, .unset, .unset, .unset] [(.ref r1)])) _
    refine st32.trans ?_
    refine XS.istore X32.here hx rfl (hb hby at_15) rfl (l' := #[.val (.int i0), .val (.int i1), .val (.int i2), .val (.ref r1), .val (.int v1), .unset, .unset, .unset, .unset, .unset, .unset, .unset, .unset, .unset]) rfl ?_
    refine XS.iloadN X32.here hx rfl (hb hby at_17) rfl ?_
    show Steps p.tables e below (T32.setTop (mkF m 18 #[.val (.int i0), .val (.int i1), .val (.int i2), .val (.ref r1), .val (.int v1), .unset, .unset, .unset, .unset, .unset, .unset, .unset, .unset, .unset] [(.int i2)])) _
    refine XS.iconst X32.here hx rfl (hb hby at_18) ?_
    show Steps p.tables e below (T32.setTop (mkF m 19 #[.val (.int i0), .val (.int i1), .val (.int i2), .val (.ref r1), .val (.int v1), .unset, .unset, .unset, .unset, .unset, .unset, .unset, .unset, .unset] [(.int 1), (.int i2)])) _
    refine XS.iushr X32.here hx rfl (hb hby at_19) rfl ?_
    refine XS.iconst X32.here hx rfl (hb hby at_20) ?_
    show Steps p.tables e below (T32.setTop (mkF m 21 #[.val (.int i0), .val (.int i1), .val (.int i2), .val (.ref r1), .val (.int v1), .unset, .unset, .unset, .unset, .unset, .unset, .unset, .unset, .unset] [(.int 3), (.int ((i2.toUInt32 >>> ((1 : Int32) &&& 31).toUInt32).toInt32))])) _
    refine XS.iand X32.here hx rfl (hb hby at_21) rfl ?_
    show Steps p.tables e below (T32.setTop (mkF m 22 #[.val (.int i0), .val (.int i1), .val (.int i2), .val (.ref r1), .val (.int v1), .unset, .unset, .unset, .unset, .unset, .unset, .unset, .unset, .unset] [(.int (((i2.toUInt32 >>> ((1 : Int32) &&& 31).toUInt32).toInt32) &&& (3 : Int32)))])) _
    refine XS.istore X32.here hx rfl (hb hby at_22) rfl (l' := #[.val (.int i0), .val (.int i1), .val (.int i2), .val (.ref r1), .val (.int v1), .val (.int (((i2.toUInt32 >>> ((1 : Int32) &&& 31).toUInt32).toInt32) &&& (3 : Int32))), .unset, .unset, .unset, .unset, .unset, .unset, .unset, .unset]) rfl ?_
    exact kk)
  refine cps (A := ∃ (t : Int32) (nr : Int32) (T : State) (Lq : List Loc), Stand p l e room_1 s m #[(.int i0), (.int i1), (.int i2)] below meth c T Lq 0 0 ∧ Fr n0 Lq ∧ T.heap = h0 ∧ (∀ tz_, Steps p.tables e below (T.setTop (mkF m 65 #[.val (.int i0), .val (.int i1), .val (.int i2), .val (.ref r1), .val (.int v1), .val (.int (((i2.toUInt32 >>> ((1 : Int32) &&& 31).toUInt32).toInt32) &&& (3 : Int32))), .val (.int nr), .unset, .unset, .unset, .unset, .unset, .unset, .unset] [(.int t)])) tz_ → Steps p.tables e below (s₁.setTop (entryFrame m #[(.int i0), (.int i1), (.int i2)] maxLocals)) tz_)) (fun tail34 => ?_) ?_
  · skip
    have pre35 : ∀ tz_, Steps p.tables e below (T32.setTop (mkF m 26 #[.val (.int i0), .val (.int i1), .val (.int i2), .val (.ref r1), .val (.int v1), .val (.int (((i2.toUInt32 >>> ((1 : Int32) &&& 31).toUInt32).toInt32) &&& (3 : Int32))), .unset, .unset, .unset, .unset, .unset, .unset, .unset, .unset] [(.int (((i2.toUInt32 >>> ((1 : Int32) &&& 31).toUInt32).toInt32) &&& (3 : Int32)))])) tz_ → Steps p.tables e below (s₁.setTop (entryFrame m #[(.int i0), (.int i1), (.int i2)] maxLocals)) tz_ := fun tz_ kk => pre33 tz_ (by
      show Steps p.tables e below (T32.setTop (mkF m 24 #[.val (.int i0), .val (.int i1), .val (.int i2), .val (.ref r1), .val (.int v1), .val (.int (((i2.toUInt32 >>> ((1 : Int32) &&& 31).toUInt32).toInt32) &&& (3 : Int32))), .unset, .unset, .unset, .unset, .unset, .unset, .unset, .unset] [])) _
      refine XS.iload X32.here hx rfl (hb hby at_24) rfl ?_
      exact kk)
    by_cases hc36 : (((i2.toUInt32 >>> ((1 : Int32) &&& 31).toUInt32).toInt32) &&& (3 : Int32)) = (0 : Int32)
    · skip
      have pre37 : ∀ tz_, Steps p.tables e below (T32.setTop (mkF m 56 #[.val (.int i0), .val (.int i1), .val (.int i2), .val (.ref r1), .val (.int v1), .val (.int (((i2.toUInt32 >>> ((1 : Int32) &&& 31).toUInt32).toInt32) &&& (3 : Int32))), .val (.int (v1 - (1 : Int32))), .unset, .unset, .unset, .unset, .unset, .unset, .unset] [(.int (i2 &&& (1 : Int32)))])) tz_ → Steps p.tables e below (s₁.setTop (entryFrame m #[(.int i0), (.int i1), (.int i2)] maxLocals)) tz_ := fun tz_ kk => pre35 tz_ (by
        show Steps p.tables e below (T32.setTop (mkF m 26 #[.val (.int i0), .val (.int i1), .val (.int i2), .val (.ref r1), .val (.int v1), .val (.int (((i2.toUInt32 >>> ((1 : Int32) &&& 31).toUInt32).toInt32) &&& (3 : Int32))), .unset, .unset, .unset, .unset, .unset, .unset, .unset, .unset] [(.int (((i2.toUInt32 >>> ((1 : Int32) &&& 31).toUInt32).toInt32) &&& (3 : Int32)))])) _
        refine XS.ifNo X32.here hx rfl (hb hby at_26) rfl ((if0 _ _).trans (teq hc36).2) ?_
        refine XS.iload X32.here hx rfl (hb hby at_29) rfl ?_
        show Steps p.tables e below (T32.setTop (mkF m 31 #[.val (.int i0), .val (.int i1), .val (.int i2), .val (.ref r1), .val (.int v1), .val (.int (((i2.toUInt32 >>> ((1 : Int32) &&& 31).toUInt32).toInt32) &&& (3 : Int32))), .unset, .unset, .unset, .unset, .unset, .unset, .unset, .unset] [(.int v1)])) _
        refine XS.iconst X32.here hx rfl (hb hby at_31) ?_
        show Steps p.tables e below (T32.setTop (mkF m 32 #[.val (.int i0), .val (.int i1), .val (.int i2), .val (.ref r1), .val (.int v1), .val (.int (((i2.toUInt32 >>> ((1 : Int32) &&& 31).toUInt32).toInt32) &&& (3 : Int32))), .unset, .unset, .unset, .unset, .unset, .unset, .unset, .unset] [(.int 1), (.int v1)])) _
        refine XS.isub X32.here hx rfl (hb hby at_32) rfl ?_
        refine XS.goto X32.here hx rfl (pc0 := 33) (pc' := 51) rfl (hb hby at_33) (by decide) (by decide) ?_
        refine XS.istore X32.here hx rfl (hb hby at_51) rfl (l' := #[.val (.int i0), .val (.int i1), .val (.int i2), .val (.ref r1), .val (.int v1), .val (.int (((i2.toUInt32 >>> ((1 : Int32) &&& 31).toUInt32).toInt32) &&& (3 : Int32))), .val (.int (v1 - (1 : Int32))), .unset, .unset, .unset, .unset, .unset, .unset, .unset]) rfl ?_
        show Steps p.tables e below (T32.setTop (mkF m 53 #[.val (.int i0), .val (.int i1), .val (.int i2), .val (.ref r1), .val (.int v1), .val (.int (((i2.toUInt32 >>> ((1 : Int32) &&& 31).toUInt32).toInt32) &&& (3 : Int32))), .val (.int (v1 - (1 : Int32))), .unset, .unset, .unset, .unset, .unset, .unset, .unset] [])) _
        refine XS.iloadN X32.here hx rfl (hb hby at_53) rfl ?_
        refine XS.iconst X32.here hx rfl (hb hby at_54) ?_
        show Steps p.tables e below (T32.setTop (mkF m 55 #[.val (.int i0), .val (.int i1), .val (.int i2), .val (.ref r1), .val (.int v1), .val (.int (((i2.toUInt32 >>> ((1 : Int32) &&& 31).toUInt32).toInt32) &&& (3 : Int32))), .val (.int (v1 - (1 : Int32))), .unset, .unset, .unset, .unset, .unset, .unset, .unset] [(.int 1), (.int i2)])) _
        refine XS.iand X32.here hx rfl (hb hby at_55) rfl ?_
        exact kk)
      by_cases hc38 : (i2 &&& (1 : Int32)) = (0 : Int32)
      · skip
        have pre39 : ∀ tz_, Steps p.tables e below (T32.setTop (mkF m 65 #[.val (.int i0), .val (.int i1), .val (.int i2), .val (.ref r1), .val (.int v1), .val (.int (((i2.toUInt32 >>> ((1 : Int32) &&& 31).toUInt32).toInt32) &&& (3 : Int32))), .val (.int (v1 - (1 : Int32))), .unset, .unset, .unset, .unset, .unset, .unset, .unset] [(.int (v1 - (1 : Int32)))])) tz_ → Steps p.tables e below (s₁.setTop (entryFrame m #[(.int i0), (.int i1), (.int i2)] maxLocals)) tz_ := fun tz_ kk => pre37 tz_ (by
          show Steps p.tables e below (T32.setTop (mkF m 56 #[.val (.int i0), .val (.int i1), .val (.int i2), .val (.ref r1), .val (.int v1), .val (.int (((i2.toUInt32 >>> ((1 : Int32) &&& 31).toUInt32).toInt32) &&& (3 : Int32))), .val (.int (v1 - (1 : Int32))), .unset, .unset, .unset, .unset, .unset, .unset, .unset] [(.int (i2 &&& (1 : Int32)))])) _
          refine XS.ifYes X32.here hx rfl (pc0 := 56) (pc' := 63) rfl (hb hby at_56) rfl ((if0 _ _).trans (teq hc38).1) (by decide) (by decide) ?_
          show Steps p.tables e below (T32.setTop (mkF m 63 #[.val (.int i0), .val (.int i1), .val (.int i2), .val (.ref r1), .val (.int v1), .val (.int (((i2.toUInt32 >>> ((1 : Int32) &&& 31).toUInt32).toInt32) &&& (3 : Int32))), .val (.int (v1 - (1 : Int32))), .unset, .unset, .unset, .unset, .unset, .unset, .unset] [])) _
          refine XS.iload X32.here hx rfl (hb hby at_63) rfl ?_
          exact kk)
        exact tail34 ⟨(v1 - (1 : Int32)), (v1 - (1 : Int32)), T32, _, X32, N32, Kq32, pre39⟩
      · skip
        have pre40 : ∀ tz_, Steps p.tables e below (T32.setTop (mkF m 65 #[.val (.int i0), .val (.int i1), .val (.int i2), .val (.ref r1), .val (.int v1), .val (.int (((i2.toUInt32 >>> ((1 : Int32) &&& 31).toUInt32).toInt32) &&& (3 : Int32))), .val (.int (v1 - (1 : Int32))), .unset, .unset, .unset, .unset, .unset, .unset, .unset] [(.int i0)])) tz_ → Steps p.tables e below (s₁.setTop (entryFrame m #[(.int i0), (.int i1), (.int i2)] maxLocals)) tz_ := fun tz_ kk => pre37 tz_ (by
          show Steps p.tables e below (T32.setTop (mkF m 56 #[.val (.int i0), .val (.int i1), .val (.int i2), .val (.ref r1), .val (.int v1), .val (.int (((i2.toUInt32 >>> ((1 : Int32) &&& 31).toUInt32).toInt32) &&& (3 : Int32))), .val (.int (v1 - (1 : Int32))), .unset, .unset, .unset, .unset, .unset, .unset, .unset] [(.int (i2 &&& (1 : Int32)))])) _
          refine XS.ifNo X32.here hx rfl (hb hby at_56) rfl ((if0 _ _).trans (feq hc38).1) ?_
          refine XS.iloadN X32.here hx rfl (hb hby at_59) rfl ?_
          refine XS.goto X32.here hx rfl (pc0 := 60) (pc' := 65) rfl (hb hby at_60) (by decide) (by decide) ?_
          exact kk)
        exact tail34 ⟨i0, (v1 - (1 : Int32)), T32, _, X32, N32, Kq32, pre40⟩
    · skip
      have pre41 : ∀ tz_, Steps p.tables e below (T32.setTop (mkF m 39 #[.val (.int i0), .val (.int i1), .val (.int i2), .val (.ref r1), .val (.int v1), .val (.int (((i2.toUInt32 >>> ((1 : Int32) &&& 31).toUInt32).toInt32) &&& (3 : Int32))), .unset, .unset, .unset, .unset, .unset, .unset, .unset, .unset] [(.int 1), (.int (((i2.toUInt32 >>> ((1 : Int32) &&& 31).toUInt32).toInt32) &&& (3 : Int32)))])) tz_ → Steps p.tables e below (s₁.setTop (entryFrame m #[(.int i0), (.int i1), (.int i2)] maxLocals)) tz_ := fun tz_ kk => pre35 tz_ (by
        show Steps p.tables e below (T32.setTop (mkF m 26 #[.val (.int i0), .val (.int i1), .val (.int i2), .val (.ref r1), .val (.int v1), .val (.int (((i2.toUInt32 >>> ((1 : Int32) &&& 31).toUInt32).toInt32) &&& (3 : Int32))), .unset, .unset, .unset, .unset, .unset, .unset, .unset, .unset] [(.int (((i2.toUInt32 >>> ((1 : Int32) &&& 31).toUInt32).toInt32) &&& (3 : Int32)))])) _
        refine XS.ifYes X32.here hx rfl (pc0 := 26) (pc' := 36) rfl (hb hby at_26) rfl ((if0 _ _).trans (feq hc36).2) (by decide) (by decide) ?_
        refine XS.iload X32.here hx rfl (hb hby at_36) rfl ?_
        show Steps p.tables e below (T32.setTop (mkF m 38 #[.val (.int i0), .val (.int i1), .val (.int i2), .val (.ref r1), .val (.int v1), .val (.int (((i2.toUInt32 >>> ((1 : Int32) &&& 31).toUInt32).toInt32) &&& (3 : Int32))), .unset, .unset, .unset, .unset, .unset, .unset, .unset, .unset] [(.int (((i2.toUInt32 >>> ((1 : Int32) &&& 31).toUInt32).toInt32) &&& (3 : Int32)))])) _
        refine XS.iconst X32.here hx rfl (hb hby at_38) ?_
        exact kk)
      by_cases hc42 : (((i2.toUInt32 >>> ((1 : Int32) &&& 31).toUInt32).toInt32) &&& (3 : Int32)) = (1 : Int32)
      · skip
        have pre43 : ∀ tz_, Steps p.tables e below (T32.setTop (mkF m 56 #[.val (.int i0), .val (.int i1), .val (.int i2), .val (.ref r1), .val (.int v1), .val (.int (((i2.toUInt32 >>> ((1 : Int32) &&& 31).toUInt32).toInt32) &&& (3 : Int32))), .val (.int (v1 + (1 : Int32))), .unset, .unset, .unset, .unset, .unset, .unset, .unset] [(.int (i2 &&& (1 : Int32)))])) tz_ → Steps p.tables e below (s₁.setTop (entryFrame m #[(.int i0), (.int i1), (.int i2)] maxLocals)) tz_ := fun tz_ kk => pre41 tz_ (by
          show Steps p.tables e below (T32.setTop (mkF m 39 #[.val (.int i0), .val (.int i1), .val (.int i2), .val (.ref r1), .val (.int v1), .val (.int (((i2.toUInt32 >>> ((1 : Int32) &&& 31).toUInt32).toInt32) &&& (3 : Int32))), .unset, .unset, .unset, .unset, .unset, .unset, .unset, .unset] [(.int 1), (.int (((i2.toUInt32 >>> ((1 : Int32) &&& 31).toUInt32).toInt32) &&& (3 : Int32)))])) _
          refine XS.icmpNo X32.here hx rfl (hb hby at_39) rfl (teq hc42).2 ?_
          refine XS.iload X32.here hx rfl (hb hby at_42) rfl ?_
          refine XS.iconst X32.here hx rfl (hb hby at_44) ?_
          show Steps p.tables e below (T32.setTop (mkF m 45 #[.val (.int i0), .val (.int i1), .val (.int i2), .val (.ref r1), .val (.int v1), .val (.int (((i2.toUInt32 >>> ((1 : Int32) &&& 31).toUInt32).toInt32) &&& (3 : Int32))), .unset, .unset, .unset, .unset, .unset, .unset, .unset, .unset] [(.int 1), (.int v1)])) _
          refine XS.iadd X32.here hx rfl (hb hby at_45) rfl ?_
          refine XS.goto X32.here hx rfl (pc0 := 46) (pc' := 51) rfl (hb hby at_46) (by decide) (by decide) ?_
          refine XS.istore X32.here hx rfl (hb hby at_51) rfl (l' := #[.val (.int i0), .val (.int i1), .val (.int i2), .val (.ref r1), .val (.int v1), .val (.int (((i2.toUInt32 >>> ((1 : Int32) &&& 31).toUInt32).toInt32) &&& (3 : Int32))), .val (.int (v1 + (1 : Int32))), .unset, .unset, .unset, .unset, .unset, .unset, .unset]) rfl ?_
          refine XS.iloadN X32.here hx rfl (hb hby at_53) rfl ?_
          show Steps p.tables e below (T32.setTop (mkF m 54 #[.val (.int i0), .val (.int i1), .val (.int i2), .val (.ref r1), .val (.int v1), .val (.int (((i2.toUInt32 >>> ((1 : Int32) &&& 31).toUInt32).toInt32) &&& (3 : Int32))), .val (.int (v1 + (1 : Int32))), .unset, .unset, .unset, .unset, .unset, .unset, .unset] [(.int i2)])) _
          refine XS.iconst X32.here hx rfl (hb hby at_54) ?_
          show Steps p.tables e below (T32.setTop (mkF m 55 #[.val (.int i0), .val (.int i1), .val (.int i2), .val (.ref r1), .val (.int v1), .val (.int (((i2.toUInt32 >>> ((1 : Int32) &&& 31).toUInt32).toInt32) &&& (3 : Int32))), .val (.int (v1 + (1 : Int32))), .unset, .unset, .unset, .unset, .unset, .unset, .unset] [(.int 1), (.int i2)])) _
          refine XS.iand X32.here hx rfl (hb hby at_55) rfl ?_
          exact kk)
        by_cases hc44 : (i2 &&& (1 : Int32)) = (0 : Int32)
        · skip
          have pre45 : ∀ tz_, Steps p.tables e below (T32.setTop (mkF m 65 #[.val (.int i0), .val (.int i1), .val (.int i2), .val (.ref r1), .val (.int v1), .val (.int (((i2.toUInt32 >>> ((1 : Int32) &&& 31).toUInt32).toInt32) &&& (3 : Int32))), .val (.int (v1 + (1 : Int32))), .unset, .unset, .unset, .unset, .unset, .unset, .unset] [(.int (v1 + (1 : Int32)))])) tz_ → Steps p.tables e below (s₁.setTop (entryFrame m #[(.int i0), (.int i1), (.int i2)] maxLocals)) tz_ := fun tz_ kk => pre43 tz_ (by
            show Steps p.tables e below (T32.setTop (mkF m 56 #[.val (.int i0), .val (.int i1), .val (.int i2), .val (.ref r1), .val (.int v1), .val (.int (((i2.toUInt32 >>> ((1 : Int32) &&& 31).toUInt32).toInt32) &&& (3 : Int32))), .val (.int (v1 + (1 : Int32))), .unset, .unset, .unset, .unset, .unset, .unset, .unset] [(.int (i2 &&& (1 : Int32)))])) _
            refine XS.ifYes X32.here hx rfl (pc0 := 56) (pc' := 63) rfl (hb hby at_56) rfl ((if0 _ _).trans (teq hc44).1) (by decide) (by decide) ?_
            refine XS.iload X32.here hx rfl (hb hby at_63) rfl ?_
            exact kk)
          exact tail34 ⟨(v1 + (1 : Int32)), (v1 + (1 : Int32)), T32, _, X32, N32, Kq32, pre45⟩
        · skip
          have pre46 : ∀ tz_, Steps p.tables e below (T32.setTop (mkF m 65 #[.val (.int i0), .val (.int i1), .val (.int i2), .val (.ref r1), .val (.int v1), .val (.int (((i2.toUInt32 >>> ((1 : Int32) &&& 31).toUInt32).toInt32) &&& (3 : Int32))), .val (.int (v1 + (1 : Int32))), .unset, .unset, .unset, .unset, .unset, .unset, .unset] [(.int i0)])) tz_ → Steps p.tables e below (s₁.setTop (entryFrame m #[(.int i0), (.int i1), (.int i2)] maxLocals)) tz_ := fun tz_ kk => pre43 tz_ (by
            show Steps p.tables e below (T32.setTop (mkF m 56 #[.val (.int i0), .val (.int i1), .val (.int i2), .val (.ref r1), .val (.int v1), .val (.int (((i2.toUInt32 >>> ((1 : Int32) &&& 31).toUInt32).toInt32) &&& (3 : Int32))), .val (.int (v1 + (1 : Int32))), .unset, .unset, .unset, .unset, .unset, .unset, .unset] [(.int (i2 &&& (1 : Int32)))])) _
            refine XS.ifNo X32.here hx rfl (hb hby at_56) rfl ((if0 _ _).trans (feq hc44).1) ?_
            show Steps p.tables e below (T32.setTop (mkF m 59 #[.val (.int i0), .val (.int i1), .val (.int i2), .val (.ref r1), .val (.int v1), .val (.int (((i2.toUInt32 >>> ((1 : Int32) &&& 31).toUInt32).toInt32) &&& (3 : Int32))), .val (.int (v1 + (1 : Int32))), .unset, .unset, .unset, .unset, .unset, .unset, .unset] [])) _
            refine XS.iloadN X32.here hx rfl (hb hby at_59) rfl ?_
            refine XS.goto X32.here hx rfl (pc0 := 60) (pc' := 65) rfl (hb hby at_60) (by decide) (by decide) ?_
            exact kk)
          exact tail34 ⟨i0, (v1 + (1 : Int32)), T32, _, X32, N32, Kq32, pre46⟩
      · skip
        have pre47 : ∀ tz_, Steps p.tables e below (T32.setTop (mkF m 56 #[.val (.int i0), .val (.int i1), .val (.int i2), .val (.ref r1), .val (.int v1), .val (.int (((i2.toUInt32 >>> ((1 : Int32) &&& 31).toUInt32).toInt32) &&& (3 : Int32))), .val (.int v1), .unset, .unset, .unset, .unset, .unset, .unset, .unset] [(.int (i2 &&& (1 : Int32)))])) tz_ → Steps p.tables e below (s₁.setTop (entryFrame m #[(.int i0), (.int i1), (.int i2)] maxLocals)) tz_ := fun tz_ kk => pre41 tz_ (by
          show Steps p.tables e below (T32.setTop (mkF m 39 #[.val (.int i0), .val (.int i1), .val (.int i2), .val (.ref r1), .val (.int v1), .val (.int (((i2.toUInt32 >>> ((1 : Int32) &&& 31).toUInt32).toInt32) &&& (3 : Int32))), .unset, .unset, .unset, .unset, .unset, .unset, .unset, .unset] [(.int 1), (.int (((i2.toUInt32 >>> ((1 : Int32) &&& 31).toUInt32).toInt32) &&& (3 : Int32)))])) _
          refine XS.icmpYes X32.here hx rfl (pc0 := 39) (pc' := 49) rfl (hb hby at_39) rfl (feq hc42).2 (by decide) (by decide) ?_
          refine XS.iload X32.here hx rfl (hb hby at_49) rfl ?_
          refine XS.istore X32.here hx rfl (hb hby at_51) rfl (l' := #[.val (.int i0), .val (.int i1), .val (.int i2), .val (.ref r1), .val (.int v1), .val (.int (((i2.toUInt32 >>> ((1 : Int32) &&& 31).toUInt32).toInt32) &&& (3 : Int32))), .val (.int v1), .unset, .unset, .unset, .unset, .unset, .unset, .unset]) rfl ?_
          show Steps p.tables e below (T32.setTop (mkF m 53 #[.val (.int i0), .val (.int i1), .val (.int i2), .val (.ref r1), .val (.int v1), .val (.int (((i2.toUInt32 >>> ((1 : Int32) &&& 31).toUInt32).toInt32) &&& (3 : Int32))), .val (.int v1), .unset, .unset, .unset, .unset, .unset, .unset, .unset] [])) _
          refine XS.iloadN X32.here hx rfl (hb hby at_53) rfl ?_
          refine XS.iconst X32.here hx rfl (hb hby at_54) ?_
          show Steps p.tables e below (T32.setTop (mkF m 55 #[.val (.int i0), .val (.int i1), .val (.int i2), .val (.ref r1), .val (.int v1), .val (.int (((i2.toUInt32 >>> ((1 : Int32) &&& 31).toUInt32).toInt32) &&& (3 : Int32))), .val (.int v1), .unset, .unset, .unset, .unset, .unset, .unset, .unset] [(.int 1), (.int i2)])) _
          refine XS.iand X32.here hx rfl (hb hby at_55) rfl ?_
          exact kk)
        by_cases hc48 : (i2 &&& (1 : Int32)) = (0 : Int32)
        · skip
          have pre49 : ∀ tz_, Steps p.tables e below (T32.setTop (mkF m 65 #[.val (.int i0), .val (.int i1), .val (.int i2), .val (.ref r1), .val (.int v1), .val (.int (((i2.toUInt32 >>> ((1 : Int32) &&& 31).toUInt32).toInt32) &&& (3 : Int32))), .val (.int v1), .unset, .unset, .unset, .unset, .unset, .unset, .unset] [(.int v1)])) tz_ → Steps p.tables e below (s₁.setTop (entryFrame m #[(.int i0), (.int i1), (.int i2)] maxLocals)) tz_ := fun tz_ kk => pre47 tz_ (by
            show Steps p.tables e below (T32.setTop (mkF m 56 #[.val (.int i0), .val (.int i1), .val (.int i2), .val (.ref r1), .val (.int v1), .val (.int (((i2.toUInt32 >>> ((1 : Int32) &&& 31).toUInt32).toInt32) &&& (3 : Int32))), .val (.int v1), .unset, .unset, .unset, .unset, .unset, .unset, .unset] [(.int (i2 &&& (1 : Int32)))])) _
            refine XS.ifYes X32.here hx rfl (pc0 := 56) (pc' := 63) rfl (hb hby at_56) rfl ((if0 _ _).trans (teq hc48).1) (by decide) (by decide) ?_
            show Steps p.tables e below (T32.setTop (mkF m 63 #[.val (.int i0), .val (.int i1), .val (.int i2), .val (.ref r1), .val (.int v1), .val (.int (((i2.toUInt32 >>> ((1 : Int32) &&& 31).toUInt32).toInt32) &&& (3 : Int32))), .val (.int v1), .unset, .unset, .unset, .unset, .unset, .unset, .unset] [])) _
            refine XS.iload X32.here hx rfl (hb hby at_63) rfl ?_
            exact kk)
          exact tail34 ⟨v1, v1, T32, _, X32, N32, Kq32, pre49⟩
        · skip
          have pre50 : ∀ tz_, Steps p.tables e below (T32.setTop (mkF m 65 #[.val (.int i0), .val (.int i1), .val (.int i2), .val (.ref r1), .val (.int v1), .val (.int (((i2.toUInt32 >>> ((1 : Int32) &&& 31).toUInt32).toInt32) &&& (3 : Int32))), .val (.int v1), .unset, .unset, .unset, .unset, .unset, .unset, .unset] [(.int i0)])) tz_ → Steps p.tables e below (s₁.setTop (entryFrame m #[(.int i0), (.int i1), (.int i2)] maxLocals)) tz_ := fun tz_ kk => pre47 tz_ (by
            show Steps p.tables e below (T32.setTop (mkF m 56 #[.val (.int i0), .val (.int i1), .val (.int i2), .val (.ref r1), .val (.int v1), .val (.int (((i2.toUInt32 >>> ((1 : Int32) &&& 31).toUInt32).toInt32) &&& (3 : Int32))), .val (.int v1), .unset, .unset, .unset, .unset, .unset, .unset, .unset] [(.int (i2 &&& (1 : Int32)))])) _
            refine XS.ifNo X32.here hx rfl (hb hby at_56) rfl ((if0 _ _).trans (feq hc48).1) ?_
            refine XS.iloadN X32.here hx rfl (hb hby at_59) rfl ?_
            refine XS.goto X32.here hx rfl (pc0 := 60) (pc' := 65) rfl (hb hby at_60) (by decide) (by decide) ?_
            exact kk)
          exact tail34 ⟨i0, v1, T32, _, X32, N32, Kq32, pre50⟩
  · skip
    rintro ⟨t, nr, T34, Lq34, X34, N34, e34, pre34⟩
    obtain ⟨r2, v2, E2, F2, hr2, hs1, hs2, hs3, hs4, hs5, hs6⟩ := key t
    -- pc 69: CanonicalCode.ofHttpStatus
    obtain ⟨_, _, ⟨T51, L51, k51, n51⟩, -, X51, ⟨Lc51, hQ51, l51, y51, z51⟩, st51⟩ := Jvm.LawKit.callS X34 hx (y := (⟨"com/example/callee/callee/model/CanonicalCode", "ofHttpStatus", "(I)Lcom/example/callee/callee/model/CanonicalCode;"⟩ : MethodName)) hown (mvT hZ (hw _ (List.mem_of_getElem? (i := 15) rfl))) (mvT hZ (hw _ (List.mem_of_getElem? (i := 16) rfl))) (mvT hZ (hw _ (List.mem_of_getElem? (i := 6) rfl))) (mvT hZ (hw _ (List.mem_of_getElem? (i := 17) rfl))) (by decide) (backOf (W := 0) (rm3 l Z av0 hw [] t w0 w1 w2 w3 w4 w5 w6 w7 w8 w9 w10 w11 w12 w13 w14 w15 w16 r2 h0 n0 (own_le p0_O) p0_O p1_S p2_S p3_S p4_S p5_S p6_S p7_S p8_S p9_S p10_S p11_S p12_S p13_S p14_S p15_S p16_S p17_S (hr2 : (t = (400 : Int32) → r2 = w3) ∧ (t = (401 : Int32) → r2 = w16) ∧ (t = (403 : Int32) → r2 = w7) ∧ (t = (404 : Int32) → r2 = w5) ∧ (t = (409 : Int32) → r2 = w10) ∧ (t = (429 : Int32) → r2 = w8) ∧ (t = (499 : Int32) → r2 = w1) ∧ (t = (500 : Int32) → r2 = w13) ∧ (t = (501 : Int32) → r2 = w12) ∧ (t = (503 : Int32) → r2 = w14) ∧ (t = (504 : Int32) → r2 = w4) ∧ (¬ (t = (400 : Int32)) → ¬ (t = (401 : Int32)) → ¬ (t = (403 : Int32)) → ¬ (t = (404 : Int32)) → ¬ (t = (409 : Int32)) → ¬ (t = (429 : Int32)) → ¬ (t = (499 : Int32)) → ¬ (t = (500 : Int32)) → ¬ (t = (501 : Int32)) → ¬ (t = (503 : Int32)) → ¬ (t = (504 : Int32)) → r2 = w2))) hZ (hw _ (List.mem_of_getElem? (i := 17) rfl)) (hw _ (List.mem_of_getElem? (i := 6) rfl)) (by decide) (by decide)) (g := (mkF m 69 #[.val (.int i0), .val (.int i1), .val (.int i2), .val (.ref r1), .val (.int v1), .val (.int (((i2.toUInt32 >>> ((1 : Int32) &&& 31).toUInt32).toInt32) &&& (3 : Int32))), .val (.int nr), .val (.int t), .unset, .unset, .unset, .unset, .unset, .unset] [(.int t)])) rfl (by rw [hml]; rfl) (argsL := [(.int t)]) (rest := []) (lenOf pd_0 rfl) rfl (by show 2 * 0 + _ ≤ _; exact Nat.le_of_eq rfl) (hb hby at_69) (fun vmx hWx => ⟨rfl, e34, (by decide : 0 + 0 ≤ _), (by decide : 0 + 0 ≤ _)⟩)
    dsimp only [Pt.U, Pt.locs, Pt.cells, Pt.slots] at X51 l51 y51 z51 st51 hQ51
    subst l51 y51 z51
    obtain ⟨rv51, Nq51, Kq51⟩ := hQ51
    subst rv51
    have N51 := Fr.app N34 Nq51
    -- pc 76: CanonicalCode.httpStatus
    obtain ⟨cq52, kq52, q52a, q52b, q52c⟩ := isOf hZ Kq51 E2
    obtain ⟨_, _, ⟨T52, L52, k52, n52⟩, -, X52, ⟨Lc52, hQ52, l52, y52, z52⟩, st52⟩ := X51.virtualBack hx (y := (⟨"com/example/callee/callee/model/CanonicalCode", "httpStatus", "()I"⟩ : MethodName)) (z := (⟨"com/example/callee/callee/model/CanonicalCode", "httpStatus", "()I"⟩ : MethodName)) hown (mvT hZ (hw _ (List.mem_of_getElem? (i := 8) rfl))) (mvT hZ (hw _ (List.mem_of_getElem? (i := 9) rfl))) (notFace_of_selects (args := #[]) (mvT hZ (hw _ (List.mem_of_getElem? (i := 11) rfl)))) (mvT hZ (hw _ (List.mem_of_getElem? (i := 11) rfl))) (mvT hZ (hw _ (List.mem_of_getElem? (i := 10) rfl))) (by decide) (backOf (W := 0) (rm2 l Z av0 hw [] r2 v2 h0 n0 (own_le p0_O) F2) hZ (hw _ (List.mem_of_getElem? (i := 12) rfl)) (hw _ (List.mem_of_getElem? (i := 6) rfl)) (by decide) (by decide)) q52a q52c (g := (mkF m 76 #[.val (.int i0), .val (.int i1), .val (.int i2), .val (.ref r1), .val (.int v1), .val (.int (((i2.toUInt32 >>> ((1 : Int32) &&& 31).toUInt32).toInt32) &&& (3 : Int32))), .val (.int nr), .val (.int t), .val (.ref r2), .unset, .unset, .unset, .unset, .unset] [(.ref r2)])) rfl (by rw [hml]; rfl) (Steps.refl _) (argsL := []) (rest := []) (lenOf pd_1 rfl) rfl (by show 2 * 0 + _ ≤ _; exact Nat.le_of_eq rfl) (hb hby at_76) (fun vmx hWx => ⟨rfl, Kq51, (by decide : 0 + 0 ≤ _), (by decide : 0 + 0 ≤ _)⟩)
    dsimp only [Pt.U, Pt.locs, Pt.cells, Pt.slots] at X52 l52 y52 z52 st52 hQ52
    subst l52 y52 z52
    obtain ⟨rv52, Nq52, Kq52⟩ := hQ52
    subst rv52
    have N52 := Fr.app N51 Nq52
    obtain ⟨T53, X53, e53, st53⟩ := getS2 X52 hx hZ hown (host := "") (Or.inl (hw _ (List.mem_of_getElem? (i := 20) rfl))) Via.refl Kq52 (p1_S.ext p0_O.2) (g := (mkF m 83 #[.val (.int i0), .val (.int i1), .val (.int i2), .val (.ref r1), .val (.int v1), .val (.int (((i2.toUInt32 >>> ((1 : Int32) &&& 31).toUInt32).toInt32) &&& (3 : Int32))), .val (.int nr), .val (.int t), .val (.ref r2), .val (.int v2), .unset, .unset, .unset, .unset] [(.ref r2)])) rfl (hb hby at_83)
    have pre54 : ∀ tz_, Steps p.tables e below (T53.setTop (mkF m 96 #[.val (.int i0), .val (.int i1), .val (.int i2), .val (.ref r1), .val (.int v1), .val (.int (((i2.toUInt32 >>> ((1 : Int32) &&& 31).toUInt32).toInt32) &&& (3 : Int32))), .val (.int nr), .val (.int t), .val (.ref r2), .val (.int v2), .val (.int 1), .unset, .unset, .unset] [])) tz_ → Steps p.tables e below (s₁.setTop (entryFrame m #[(.int i0), (.int i1), (.int i2)] maxLocals)) tz_ := fun tz_ kk => pre34 tz_ (by
      show Steps p.tables e below (T34.setTop (mkF m 65 #[.val (.int i0), .val (.int i1), .val (.int i2), .val (.ref r1), .val (.int v1), .val (.int (((i2.toUInt32 >>> ((1 : Int32) &&& 31).toUInt32).toInt32) &&& (3 : Int32))), .val (.int nr), .unset, .unset, .unset, .unset, .unset, .unset, .unset] [(.int t)])) _
      refine XS.istore X34.here hx rfl (hb hby at_65) rfl (l' := #[.val (.int i0), .val (.int i1), .val (.int i2), .val (.ref r1), .val (.int v1), .val (.int (((i2.toUInt32 >>> ((1 : Int32) &&& 31).toUInt32).toInt32) &&& (3 : Int32))), .val (.int nr), .val (.int t), .unset, .unset, .unset, .unset, .unset, .unset]) rfl ?_
      show Steps p.tables e below (T34.setTop (mkF m 67 #[.val (.int i0), .val (.int i1), .val (.int i2), .val (.ref r1), .val (.int v1), .val (.int (((i2.toUInt32 >>> ((1 : Int32) &&& 31).toUInt32).toInt32) &&& (3 : Int32))), .val (.int nr), .val (.int t), .unset, .unset, .unset, .unset, .unset, .unset] [])) _
      refine XS.iload X34.here hx rfl (hb hby at_67) rfl ?_
      show Steps p.tables e below (T34.setTop (mkF m 69 #[.val (.int i0), .val (.int i1), .val (.int i2), .val (.ref r1), .val (.int v1), .val (.int (((i2.toUInt32 >>> ((1 : Int32) &&& 31).toUInt32).toInt32) &&& (3 : Int32))), .val (.int nr), .val (.int t), .unset, .unset, .unset, .unset, .unset, .unset] [(.int t)])) _
      refine st51 _ ?_
      refine XS.astore X51.here hx rfl (hb hby at_72) rfl rfl (l' := #[.val (.int i0), .val (.int i1), .val (.int i2), .val (.ref r1), .val (.int v1), .val (.int (((i2.toUInt32 >>> ((1 : Int32) &&& 31).toUInt32).toInt32) &&& (3 : Int32))), .val (.int nr), .val (.int t), .val (.ref r2), .unset, .unset, .unset, .unset, .unset]) rfl ?_
      refine XS.aload X51.here hx rfl (hb hby at_74) rfl rfl ?_
      show Steps p.tables e below (T51.setTop (mkF m 76 #[.val (.int i0), .val (.int i1), .val (.int i2), .val (.ref r1), .val (.int v1), .val (.int (((i2.toUInt32 >>> ((1 : Int32) &&& 31).toUInt32).toInt32) &&& (3 : Int32))), .val (.int nr), .val (.int t), .val (.ref r2), .unset, .unset, .unset, .unset, .unset] [(.ref r2)])) _
      refine st52.trans ?_
      refine XS.istore X52.here hx rfl (hb hby at_79) rfl (l' := #[.val (.int i0), .val (.int i1), .val (.int i2), .val (.ref r1), .val (.int v1), .val (.int (((i2.toUInt32 >>> ((1 : Int32) &&& 31).toUInt32).toInt32) &&& (3 : Int32))), .val (.int nr), .val (.int t), .val (.ref r2), .val (.int v2), .unset, .unset, .unset, .unset]) rfl ?_
      refine XS.aload X52.here hx rfl (hb hby at_81) rfl rfl ?_
      show Steps p.tables e below (T52.setTop (mkF m 83 #[.val (.int i0), .val (.int i1), .val (.int i2), .val (.ref r1), .val (.int v1), .val (.int (((i2.toUInt32 >>> ((1 : Int32) &&& 31).toUInt32).toInt32) &&& (3 : Int32))), .val (.int nr), .val (.int t), .val (.ref r2), .val (.int v2), .unset, .unset, .unset, .unset] [(.ref r2)])) _
      refine st53 _ ?_
      show Steps p.tables e below (T53.setTop (mkF m 86 #[.val (.int i0), .val (.int i1), .val (.int i2), .val (.ref r1), .val (.int v1), .val (.int (((i2.toUInt32 >>> ((1 : Int32) &&& 31).toUInt32).toInt32) &&& (3 : Int32))), .val (.int nr), .val (.int t), .val (.ref r2), .val (.int v2), .unset, .unset, .unset, .unset] [(.ref w0), (.ref r2)])) _
      refine Jvm.RoadKit.acmp (g := (mkF m 86 #[.val (.int i0), .val (.int i1), .val (.int i2), .val (.ref r1), .val (.int v1), .val (.int (((i2.toUInt32 >>> ((1 : Int32) &&& 31).toUInt32).toInt32) &&& (3 : Int32))), .val (.int nr), .val (.int t), .val (.ref r2), .val (.int v2), .unset, .unset, .unset, .unset] [(.ref w0), (.ref r2)])) X53 hx rfl rfl rfl (pc0 := 86) (pc' := 89) (same := false) rfl (hb hby at_86) rfl (decide_eq_false fun q => (hs1 : ¬ (r2 = w0)) (Value.ref.inj q)) (by decide) (by decide) ?_
      refine XS.iconst X53.here hx rfl (hb hby at_89) ?_
      refine XS.goto X53.here hx rfl (pc0 := 90) (pc' := 94) rfl (hb hby at_90) (by decide) (by decide) ?_
      refine XS.istore X53.here hx rfl (hb hby at_94) rfl (l' := #[.val (.int i0), .val (.int i1), .val (.int i2), .val (.ref r1), .val (.int v1), .val (.int (((i2.toUInt32 >>> ((1 : Int32) &&& 31).toUInt32).toInt32) &&& (3 : Int32))), .val (.int nr), .val (.int t), .val (.ref r2), .val (.int v2), .val (.int 1), .unset, .unset, .unset]) rfl ?_
      exact kk)
    refine cps (A := ∃ (T : State) (Lq : List Loc), Stand p l e room_1 s m #[(.int i0), (.int i1), (.int i2)] below meth c T Lq 0 0 ∧ Fr n0 Lq ∧ T.heap = h0 ∧ (∀ tz_, Steps p.tables e below (T.setTop (mkF m 116 #[.val (.int i0), .val (.int i1), .val (.int i2), .val (.ref r1), .val (.int v1), .val (.int (((i2.toUInt32 >>> ((1 : Int32) &&& 31).toUInt32).toInt32) &&& (3 : Int32))), .val (.int nr), .val (.int t), .val (.ref r2), .val (.int v2), .val (.int 1), .unset, .unset, .unset] [(.int 1)])) tz_ → Steps p.tables e below (s₁.setTop (entryFrame m #[(.int i0), (.int i1), (.int i2)] maxLocals)) tz_)) (fun tail55 => ?_) ?_
    · skip
      obtain ⟨T56, X56, e56, st56⟩ := getS2 X53 hx hZ hown (host := "") (Or.inl (hw _ (List.mem_of_getElem? (i := 22) rfl))) Via.refl e53 (p3_S.ext p0_O.2) (g := (mkF m 98 #[.val (.int i0), .val (.int i1), .val (.int i2), .val (.ref r1), .val (.int v1), .val (.int (((i2.toUInt32 >>> ((1 : Int32) &&& 31).toUInt32).toInt32) &&& (3 : Int32))), .val (.int nr), .val (.int t), .val (.ref r2), .val (.int v2), .val (.int 1), .unset, .unset, .unset] [(.ref r2)])) rfl (hb hby at_98)
      have pre57 : ∀ tz_, Steps p.tables e below (T56.setTop (mkF m 101 #[.val (.int i0), .val (.int i1), .val (.int i2), .val (.ref r1), .val (.int v1), .val (.int (((i2.toUInt32 >>> ((1 : Int32) &&& 31).toUInt32).toInt32) &&& (3 : Int32))), .val (.int nr), .val (.int t), .val (.ref r2), .val (.int v2), .val (.int 1), .unset, .unset, .unset] [(.ref w2), (.ref r2)])) tz_ → Steps p.tables e below (s₁.setTop (entryFrame m #[(.int i0), (.int i1), (.int i2)] maxLocals)) tz_ := fun tz_ kk => pre54 tz_ (by
        show Steps p.tables e below (T53.setTop (mkF m 96 #[.val (.int i0), .val (.int i1), .val (.int i2), .val (.ref r1), .val (.int v1), .val (.int (((i2.toUInt32 >>> ((1 : Int32) &&& 31).toUInt32).toInt32) &&& (3 : Int32))), .val (.int nr), .val (.int t), .val (.ref r2), .val (.int v2), .val (.int 1), .unset, .unset, .unset] [])) _
        refine XS.aload X53.here hx rfl (hb hby at_96) rfl rfl ?_
        show Steps p.tables e below (T53.setTop (mkF m 98 #[.val (.int i0), .val (.int i1), .val (.int i2), .val (.ref r1), .val (.int v1), .val (.int (((i2.toUInt32 >>> ((1 : Int32) &&& 31).toUInt32).toInt32) &&& (3 : Int32))), .val (.int nr), .val (.int t), .val (.ref r2), .val (.int v2), .val (.int 1), .unset, .unset, .unset] [(.ref r2)])) _
        refine st56 _ ?_
        exact kk)
      by_cases hc58 : r2 = w2
      · skip
        have pre59 : ∀ tz_, Steps p.tables e below (T56.setTop (mkF m 116 #[.val (.int i0), .val (.int i1), .val (.int i2), .val (.ref r1), .val (.int v1), .val (.int (((i2.toUInt32 >>> ((1 : Int32) &&& 31).toUInt32).toInt32) &&& (3 : Int32))), .val (.int nr), .val (.int t), .val (.ref r2), .val (.int v2), .val (.int 1), .unset, .unset, .unset] [(.int 1)])) tz_ → Steps p.tables e below (s₁.setTop (entryFrame m #[(.int i0), (.int i1), (.int i2)] maxLocals)) tz_ := fun tz_ kk => pre57 tz_ (by
          show Steps p.tables e below (T56.setTop (mkF m 101 #[.val (.int i0), .val (.int i1), .val (.int i2), .val (.ref r1), .val (.int v1), .val (.int (((i2.toUInt32 >>> ((1 : Int32) &&& 31).toUInt32).toInt32) &&& (3 : Int32))), .val (.int nr), .val (.int t), .val (.ref r2), .val (.int v2), .val (.int 1), .unset, .unset, .unset] [(.ref w2), (.ref r2)])) _
          refine Jvm.RoadKit.acmp (g := (mkF m 101 #[.val (.int i0), .val (.int i1), .val (.int i2), .val (.ref r1), .val (.int v1), .val (.int (((i2.toUInt32 >>> ((1 : Int32) &&& 31).toUInt32).toInt32) &&& (3 : Int32))), .val (.int nr), .val (.int t), .val (.ref r2), .val (.int v2), .val (.int 1), .unset, .unset, .unset] [(.ref w2), (.ref r2)])) X56 hx rfl rfl rfl (pc0 := 101) (pc' := 111) (same := true) rfl (hb hby at_101) rfl (decide_eq_true (congrArg Value.ref hc58)) (by decide) (by decide) ?_
          refine XS.iconst X56.here hx rfl (hb hby at_111) ?_
          show Steps p.tables e below (T56.setTop (mkF m 112 #[.val (.int i0), .val (.int i1), .val (.int i2), .val (.ref r1), .val (.int v1), .val (.int (((i2.toUInt32 >>> ((1 : Int32) &&& 31).toUInt32).toInt32) &&& (3 : Int32))), .val (.int nr), .val (.int t), .val (.ref r2), .val (.int v2), .val (.int 1), .unset, .unset, .unset] [(.int 1)])) _
          refine XS.goto X56.here hx rfl (pc0 := 112) (pc' := 116) rfl (hb hby at_112) (by decide) (by decide) ?_
          exact kk)
        exact tail55 ⟨T56, _, X56, N52, e56, pre59⟩
      · skip
        have pre60 : ∀ tz_, Steps p.tables e below (T56.setTop (mkF m 116 #[.val (.int i0), .val (.int i1), .val (.int i2), .val (.ref r1), .val (.int v1), .val (.int (((i2.toUInt32 >>> ((1 : Int32) &&& 31).toUInt32).toInt32) &&& (3 : Int32))), .val (.int nr), .val (.int t), .val (.ref r2), .val (.int v2), .val (.int 1), .unset, .unset, .unset] [(.int 1)])) tz_ → Steps p.tables e below (s₁.setTop (entryFrame m #[(.int i0), (.int i1), (.int i2)] maxLocals)) tz_ := fun tz_ kk => pre57 tz_ (by
          show Steps p.tables e below (T56.setTop (mkF m 101 #[.val (.int i0), .val (.int i1), .val (.int i2), .val (.ref r1), .val (.int v1), .val (.int (((i2.toUInt32 >>> ((1 : Int32) &&& 31).toUInt32).toInt32) &&& (3 : Int32))), .val (.int nr), .val (.int t), .val (.ref r2), .val (.int v2), .val (.int 1), .unset, .unset, .unset] [(.ref w2), (.ref r2)])) _
          refine Jvm.RoadKit.acmp (g := (mkF m 101 #[.val (.int i0), .val (.int i1), .val (.int i2), .val (.ref r1), .val (.int v1), .val (.int (((i2.toUInt32 >>> ((1 : Int32) &&& 31).toUInt32).toInt32) &&& (3 : Int32))), .val (.int nr), .val (.int t), .val (.ref r2), .val (.int v2), .val (.int 1), .unset, .unset, .unset] [(.ref w2), (.ref r2)])) X56 hx rfl rfl rfl (pc0 := 101) (pc' := 104) (same := false) rfl (hb hby at_101) rfl (decide_eq_false fun q => hc58 (Value.ref.inj q)) (by decide) (by decide) ?_
          refine XS.iload X56.here hx rfl (hb hby at_104) rfl ?_
          refine XS.iload X56.here hx rfl (hb hby at_106) rfl ?_
          show Steps p.tables e below (T56.setTop (mkF m 108 #[.val (.int i0), .val (.int i1), .val (.int i2), .val (.ref r1), .val (.int v1), .val (.int (((i2.toUInt32 >>> ((1 : Int32) &&& 31).toUInt32).toInt32) &&& (3 : Int32))), .val (.int nr), .val (.int t), .val (.ref r2), .val (.int v2), .val (.int 1), .unset, .unset, .unset] [(.int t), (.int v2)])) _
          refine XS.icmpNo X56.here hx rfl (hb hby at_108) rfl (teq (hs2.resolve_left hc58 : v2 = t)).2 ?_
          show Steps p.tables e below (T56.setTop (mkF m 111 #[.val (.int i0), .val (.int i1), .val (.int i2), .val (.ref r1), .val (.int v1), .val (.int (((i2.toUInt32 >>> ((1 : Int32) &&& 31).toUInt32).toInt32) &&& (3 : Int32))), .val (.int nr), .val (.int t), .val (.ref r2), .val (.int v2), .val (.int 1), .unset, .unset, .unset] [])) _
          refine XS.iconst X56.here hx rfl (hb hby at_111) ?_
          refine XS.goto X56.here hx rfl (pc0 := 112) (pc' := 116) rfl (hb hby at_112) (by decide) (by decide) ?_
          exact kk)
        exact tail55 ⟨T56, _, X56, N52, e56, pre60⟩
    · skip
      rintro ⟨T55, Lq55, X55, N55, e55, pre55⟩
      have pre61 : ∀ tz_, Steps p.tables e below (T55.setTop (mkF m 118 #[.val (.int i0), .val (.int i1), .val (.int i2), .val (.ref r1), .val (.int v1), .val (.int (((i2.toUInt32 >>> ((1 : Int32) &&& 31).toUInt32).toInt32) &&& (3 : Int32))), .val (.int nr), .val (.int t), .val (.ref r2), .val (.int v2), .val (.int 1), .val (.int 1), .unset, .unset] [])) tz_ → Steps p.tables e below (s₁.setTop (entryFrame m #[(.int i0), (.int i1), (.int i2)] maxLocals)) tz_ := fun tz_ kk => pre55 tz_ (by
        show Steps p.tables e below (T55.setTop (mkF m 116 #[.val (.int i0), .val (.int i1), .val (.int i2), .val (.ref r1), .val (.int v1), .val (.int (((i2.toUInt32 >>> ((1 : Int32) &&& 31).toUInt32).toInt32) &&& (3 : Int32))), .val (.int nr), .val (.int t), .val (.ref r2), .val (.int v2), .val (.int 1), .unset, .unset, .unset] [(.int 1)])) _
        refine XS.istore X55.here hx rfl (hb hby at_116) rfl (l' := #[.val (.int i0), .val (.int i1), .val (.int i2), .val (.ref r1), .val (.int v1), .val (.int (((i2.toUInt32 >>> ((1 : Int32) &&& 31).toUInt32).toInt32) &&& (3 : Int32))), .val (.int nr), .val (.int t), .val (.ref r2), .val (.int v2), .val (.int 1), .val (.int 1), .unset, .unset]) rfl ?_
        exact kk)
      refine cps (A := ∃ (T : State) (Lq : List Loc), Stand p l e room_1 s m #[(.int i0), (.int i1), (.int i2)] below meth c T Lq 0 0 ∧ Fr n0 Lq ∧ T.heap = h0 ∧ (∀ tz_, Steps p.tables e below (T.setTop (mkF m 152 #[.val (.int i0), .val (.int i1), .val (.int i2), .val (.ref r1), .val (.int v1), .val (.int (((i2.toUInt32 >>> ((1 : Int32) &&& 31).toUInt32).toInt32) &&& (3 : Int32))), .val (.int nr), .val (.int t), .val (.ref r2), .val (.int v2), .val (.int 1), .val (.int 1), .unset, .unset] [(.int 1)])) tz_ → Steps p.tables e below (s₁.setTop (entryFrame m #[(.int i0), (.int i1), (.int i2)] maxLocals)) tz_)) (fun tail62 => ?_) ?_
      · skip
        obtain ⟨T63, X63, e63, st63⟩ := getS2 X55 hx hZ hown (host := "") (Or.inl (hw _ (List.mem_of_getElem? (i := 20) rfl))) Via.refl e55 (p1_S.ext p0_O.2) (g := (mkF m 119 #[.val (.int i0), .val (.int i1), .val (.int i2), .val (.ref r1), .val (.int v1), .val (.int (((i2.toUInt32 >>> ((1 : Int32) &&& 31).toUInt32).toInt32) &&& (3 : Int32))), .val (.int nr), .val (.int t), .val (.ref r2), .val (.int v2), .val (.int 1), .val (.int 1), .unset, .unset] [(.ref r1)])) rfl (hb hby at_119)
        have pre64 : ∀ tz_, Steps p.tables e below (T63.setTop (mkF m 122 #[.val (.int i0), .val (.int i1), .val (.int i2), .val (.ref r1), .val (.int v1), .val (.int (((i2.toUInt32 >>> ((1 : Int32) &&& 31).toUInt32).toInt32) &&& (3 : Int32))), .val (.int nr), .val (.int t), .val (.ref r2), .val (.int v2), .val (.int 1), .val (.int 1), .unset, .unset] [(.ref w0), (.ref r1)])) tz_ → Steps p.tables e below (s₁.setTop (entryFrame m #[(.int i0), (.int i1), (.int i2)] maxLocals)) tz_ := fun tz_ kk => pre61 tz_ (by
          show Steps p.tables e below (T55.setTop (mkF m 118 #[.val (.int i0), .val (.int i1), .val (.int i2), .val (.ref r1), .val (.int v1), .val (.int (((i2.toUInt32 >>> ((1 : Int32) &&& 31).toUInt32).toInt32) &&& (3 : Int32))), .val (.int nr), .val (.int t), .val (.ref r2), .val (.int v2), .val (.int 1), .val (.int 1), .unset, .unset] [])) _
          refine XS.aloadN X55.here hx rfl (hb hby at_118) rfl rfl ?_
          show Steps p.tables e below (T55.setTop (mkF m 119 #[.val (.int i0), .val (.int i1), .val (.int i2), .val (.ref r1), .val (.int v1), .val (.int (((i2.toUInt32 >>> ((1 : Int32) &&& 31).toUInt32).toInt32) &&& (3 : Int32))), .val (.int nr), .val (.int t), .val (.ref r2), .val (.int v2), .val (.int 1), .val (.int 1), .unset, .unset] [(.ref r1)])) _
          refine st63 _ ?_
          exact kk)
        by_cases hc65 : r1 = w0
        · skip
          have pre66 : ∀ tz_, Steps p.tables e below (T63.setTop (mkF m 152 #[.val (.int i0), .val (.int i1), .val (.int i2), .val (.ref r1), .val (.int v1), .val (.int (((i2.toUInt32 >>> ((1 : Int32) &&& 31).toUInt32).toInt32) &&& (3 : Int32))), .val (.int nr), .val (.int t), .val (.ref r2), .val (.int v2), .val (.int 1), .val (.int 1), .unset, .unset] [(.int 1)])) tz_ → Steps p.tables e below (s₁.setTop (entryFrame m #[(.int i0), (.int i1), (.int i2)] maxLocals)) tz_ := fun tz_ kk => pre64 tz_ (by
            show Steps p.tables e below (T63.setTop (mkF m 122 #[.val (.int i0), .val (.int i1), .val (.int i2), .val (.ref r1), .val (.int v1), .val (.int (((i2.toUInt32 >>> ((1 : Int32) &&& 31).toUInt32).toInt32) &&& (3 : Int32))), .val (.int nr), .val (.int t), .val (.ref r2), .val (.int v2), .val (.int 1), .val (.int 1), .unset, .unset] [(.ref w0), (.ref r1)])) _
            refine Jvm.RoadKit.acmp (g := (mkF m 122 #[.val (.int i0), .val (.int i1), .val (.int i2), .val (.ref r1), .val (.int v1), .val (.int (((i2.toUInt32 >>> ((1 : Int32) &&& 31).toUInt32).toInt32) &&& (3 : Int32))), .val (.int nr), .val (.int t), .val (.ref r2), .val (.int v2), .val (.int 1), .val (.int 1), .unset, .unset] [(.ref w0), (.ref r1)])) X63 hx rfl rfl rfl (pc0 := 122) (pc' := 147) (same := true) rfl (hb hby at_122) rfl (decide_eq_true (congrArg Value.ref hc65)) (by decide) (by decide) ?_
            refine XS.iconst X63.here hx rfl (hb hby at_147) ?_
            refine XS.goto X63.here hx rfl (pc0 := 148) (pc' := 152) rfl (hb hby at_148) (by decide) (by decide) ?_
            exact kk)
          exact tail62 ⟨T63, _, X63, N55, e63, pre66⟩
        · skip
          have pre67 : ∀ tz_, Steps p.tables e below (T63.setTop (mkF m 129 #[.val (.int i0), .val (.int i1), .val (.int i2), .val (.ref r1), .val (.int v1), .val (.int (((i2.toUInt32 >>> ((1 : Int32) &&& 31).toUInt32).toInt32) &&& (3 : Int32))), .val (.int nr), .val (.int t), .val (.ref r2), .val (.int v2), .val (.int 1), .val (.int 1), .unset, .unset] [(.int t), (.int v1)])) tz_ → Steps p.tables e below (s₁.setTop (entryFrame m #[(.int i0), (.int i1), (.int i2)] maxLocals)) tz_ := fun tz_ kk => pre64 tz_ (by
            show Steps p.tables e below (T63.setTop (mkF m 122 #[.val (.int i0), .val (.int i1), .val (.int i2), .val (.ref r1), .val (.int v1), .val (.int (((i2.toUInt32 >>> ((1 : Int32) &&& 31).toUInt32).toInt32) &&& (3 : Int32))), .val (.int nr), .val (.int t), .val (.ref r2), .val (.int v2), .val (.int 1), .val (.int 1), .unset, .unset] [(.ref w0), (.ref r1)])) _
            refine Jvm.RoadKit.acmp (g := (mkF m 122 #[.val (.int i0), .val (.int i1), .val (.int i2), .val (.ref r1), .val (.int v1), .val (.int (((i2.toUInt32 >>> ((1 : Int32) &&& 31).toUInt32).toInt32) &&& (3 : Int32))), .val (.int nr), .val (.int t), .val (.ref r2), .val (.int v2), .val (.int 1), .val (.int 1), .unset, .unset] [(.ref w0), (.ref r1)])) X63 hx rfl rfl rfl (pc0 := 122) (pc' := 125) (same := false) rfl (hb hby at_122) rfl (decide_eq_false fun q => hc65 (Value.ref.inj q)) (by decide) (by decide) ?_
            show Steps p.tables e below (T63.setTop (mkF m 125 #[.val (.int i0), .val (.int i1), .val (.int i2), .val (.ref r1), .val (.int v1), .val (.int (((i2.toUInt32 >>> ((1 : Int32) &&& 31).toUInt32).toInt32) &&& (3 : Int32))), .val (.int nr), .val (.int t), .val (.ref r2), .val (.int v2), .val (.int 1), .val (.int 1), .unset, .unset] [])) _
            refine XS.iload X63.here hx rfl (hb hby at_125) rfl ?_
            refine XS.iload X63.here hx rfl (hb hby at_127) rfl ?_
            exact kk)
          by_cases hc68 : v1 = t
          · skip
            obtain ⟨T69, X69, e69, st69⟩ := getS2 X63 hx hZ hown (host := "") (Or.inl (hw _ (List.mem_of_getElem? (i := 22) rfl))) Via.refl e63 (p3_S.ext p0_O.2) (g := (mkF m 134 #[.val (.int i0), .val (.int i1), .val (.int i2), .val (.ref r1), .val (.int v1), .val (.int (((i2.toUInt32 >>> ((1 : Int32) &&& 31).toUInt32).toInt32) &&& (3 : Int32))), .val (.int nr), .val (.int t), .val (.ref r2), .val (.int v2), .val (.int 1), .val (.int 1), .unset, .unset] [(.ref r2)])) rfl (hb hby at_134)
            have pre70 : ∀ tz_, Steps p.tables e below (T69.setTop (mkF m 152 #[.val (.int i0), .val (.int i1), .val (.int i2), .val (.ref r1), .val (.int v1), .val (.int (((i2.toUInt32 >>> ((1 : Int32) &&& 31).toUInt32).toInt32) &&& (3 : Int32))), .val (.int nr), .val (.int t), .val (.ref r2), .val (.int v2), .val (.int 1), .val (.int 1), .unset, .unset] [(.int 1)])) tz_ → Steps p.tables e below (s₁.setTop (entryFrame m #[(.int i0), (.int i1), (.int i2)] maxLocals)) tz_ := fun tz_ kk => pre67 tz_ (by
              show Steps p.tables e below (T63.setTop (mkF m 129 #[.val (.int i0), .val (.int i1), .val (.int i2), .val (.ref r1), .val (.int v1), .val (.int (((i2.toUInt32 >>> ((1 : Int32) &&& 31).toUInt32).toInt32) &&& (3 : Int32))), .val (.int nr), .val (.int t), .val (.ref r2), .val (.int v2), .val (.int 1), .val (.int 1), .unset, .unset] [(.int t), (.int v1)])) _
              refine XS.icmpNo X63.here hx rfl (hb hby at_129) rfl (teq hc68).2 ?_
              refine XS.aload X63.here hx rfl (hb hby at_132) rfl rfl ?_
              show Steps p.tables e below (T63.setTop (mkF m 134 #[.val (.int i0), .val (.int i1), .val (.int i2), .val (.ref r1), .val (.int v1), .val (.int (((i2.toUInt32 >>> ((1 : Int32) &&& 31).toUInt32).toInt32) &&& (3 : Int32))), .val (.int nr), .val (.int t), .val (.ref r2), .val (.int v2), .val (.int 1), .val (.int 1), .unset, .unset] [(.ref r2)])) _
              refine st69 _ ?_
              show Steps p.tables e below (T69.setTop (mkF m 137 #[.val (.int i0), .val (.int i1), .val (.int i2), .val (.ref r1), .val (.int v1), .val (.int (((i2.toUInt32 >>> ((1 : Int32) &&& 31).toUInt32).toInt32) &&& (3 : Int32))), .val (.int nr), .val (.int t), .val (.ref r2), .val (.int v2), .val (.int 1), .val (.int 1), .unset, .unset] [(.ref w2), (.ref r2)])) _
              refine Jvm.RoadKit.acmp (g := (mkF m 137 #[.val (.int i0), .val (.int i1), .val (.int i2), .val (.ref r1), .val (.int v1), .val (.int (((i2.toUInt32 >>> ((1 : Int32) &&& 31).toUInt32).toInt32) &&& (3 : Int32))), .val (.int nr), .val (.int t), .val (.ref r2), .val (.int v2), .val (.int 1), .val (.int 1), .unset, .unset] [(.ref w2), (.ref r2)])) X69 hx rfl rfl rfl (pc0 := 137) (pc' := 140) (same := false) rfl (hb hby at_137) rfl (decide_eq_false fun q => ((hs3 (hc68 ▸ hst.resolve_left hc65)).1 : ¬ (r2 = w2)) (Value.ref.inj q)) (by decide) (by decide) ?_
              refine XS.iload X69.here hx rfl (hb hby at_140) rfl ?_
              refine XS.iload X69.here hx rfl (hb hby at_142) rfl ?_
              show Steps p.tables e below (T69.setTop (mkF m 144 #[.val (.int i0), .val (.int i1), .val (.int i2), .val (.ref r1), .val (.int v1), .val (.int (((i2.toUInt32 >>> ((1 : Int32) &&& 31).toUInt32).toInt32) &&& (3 : Int32))), .val (.int nr), .val (.int t), .val (.ref r2), .val (.int v2), .val (.int 1), .val (.int 1), .unset, .unset] [(.int t), (.int v2)])) _
              refine XS.icmpNo X69.here hx rfl (hb hby at_144) rfl (teq ((hs3 (hc68 ▸ hst.resolve_left hc65)).2 : v2 = t)).2 ?_
              refine XS.iconst X69.here hx rfl (hb hby at_147) ?_
              refine XS.goto X69.here hx rfl (pc0 := 148) (pc' := 152) rfl (hb hby at_148) (by decide) (by decide) ?_
              exact kk)
            exact tail62 ⟨T69, _, X69, N55, e69, pre70⟩
          · skip
            have pre71 : ∀ tz_, Steps p.tables e below (T63.setTop (mkF m 152 #[.val (.int i0), .val (.int i1), .val (.int i2), .val (.ref r1), .val (.int v1), .val (.int (((i2.toUInt32 >>> ((1 : Int32) &&& 31).toUInt32).toInt32) &&& (3 : Int32))), .val (.int nr), .val (.int t), .val (.ref r2), .val (.int v2), .val (.int 1), .val (.int 1), .unset, .unset] [(.int 1)])) tz_ → Steps p.tables e below (s₁.setTop (entryFrame m #[(.int i0), (.int i1), (.int i2)] maxLocals)) tz_ := fun tz_ kk => pre67 tz_ (by
              show Steps p.tables e below (T63.setTop (mkF m 129 #[.val (.int i0), .val (.int i1), .val (.int i2), .val (.ref r1), .val (.int v1), .val (.int (((i2.toUInt32 >>> ((1 : Int32) &&& 31).toUInt32).toInt32) &&& (3 : Int32))), .val (.int nr), .val (.int t), .val (.ref r2), .val (.int v2), .val (.int 1), .val (.int 1), .unset, .unset] [(.int t), (.int v1)])) _
              refine XS.icmpYes X63.here hx rfl (pc0 := 129) (pc' := 147) rfl (hb hby at_129) rfl (feq hc68).2 (by decide) (by decide) ?_
              refine XS.iconst X63.here hx rfl (hb hby at_147) ?_
              show Steps p.tables e below (T63.setTop (mkF m 148 #[.val (.int i0), .val (.int i1), .val (.int i2), .val (.ref r1), .val (.int v1), .val (.int (((i2.toUInt32 >>> ((1 : Int32) &&& 31).toUInt32).toInt32) &&& (3 : Int32))), .val (.int nr), .val (.int t), .val (.ref r2), .val (.int v2), .val (.int 1), .val (.int 1), .unset, .unset] [(.int 1)])) _
              refine XS.goto X63.here hx rfl (pc0 := 148) (pc' := 152) rfl (hb hby at_148) (by decide) (by decide) ?_
              exact kk)
            exact tail62 ⟨T63, _, X63, N55, e63, pre71⟩
      · skip
        rintro ⟨T62, Lq62, X62, N62, e62, pre62⟩
        have pre72 : ∀ tz_, Steps p.tables e below (T62.setTop (mkF m 154 #[.val (.int i0), .val (.int i1), .val (.int i2), .val (.ref r1), .val (.int v1), .val (.int (((i2.toUInt32 >>> ((1 : Int32) &&& 31).toUInt32).toInt32) &&& (3 : Int32))), .val (.int nr), .val (.int t), .val (.ref r2), .val (.int v2), .val (.int 1), .val (.int 1), .val (.int 1), .unset] [])) tz_ → Steps p.tables e below (s₁.setTop (entryFrame m #[(.int i0), (.int i1), (.int i2)] maxLocals)) tz_ := fun tz_ kk => pre62 tz_ (by
          show Steps p.tables e below (T62.setTop (mkF m 152 #[.val (.int i0), .val (.int i1), .val (.int i2), .val (.ref r1), .val (.int v1), .val (.int (((i2.toUInt32 >>> ((1 : Int32) &&& 31).toUInt32).toInt32) &&& (3 : Int32))), .val (.int nr), .val (.int t), .val (.ref r2), .val (.int v2), .val (.int 1), .val (.int 1), .unset, .unset] [(.int 1)])) _
          refine XS.istore X62.here hx rfl (hb hby at_152) rfl (l' := #[.val (.int i0), .val (.int i1), .val (.int i2), .val (.ref r1), .val (.int v1), .val (.int (((i2.toUInt32 >>> ((1 : Int32) &&& 31).toUInt32).toInt32) &&& (3 : Int32))), .val (.int nr), .val (.int t), .val (.ref r2), .val (.int v2), .val (.int 1), .val (.int 1), .val (.int 1), .unset]) rfl ?_
          exact kk)
        refine cps (A := ∃ (T : State) (Lq : List Loc), Stand p l e room_1 s m #[(.int i0), (.int i1), (.int i2)] below meth c T Lq 0 0 ∧ Fr n0 Lq ∧ T.heap = h0 ∧ (∀ tz_, Steps p.tables e below (T.setTop (mkF m 207 #[.val (.int i0), .val (.int i1), .val (.int i2), .val (.ref r1), .val (.int v1), .val (.int (((i2.toUInt32 >>> ((1 : Int32) &&& 31).toUInt32).toInt32) &&& (3 : Int32))), .val (.int nr), .val (.int t), .val (.ref r2), .val (.int v2), .val (.int 1), .val (.int 1), .val (.int 1), .unset] [(.int 1)])) tz_ → Steps p.tables e below (s₁.setTop (entryFrame m #[(.int i0), (.int i1), (.int i2)] maxLocals)) tz_)) (fun tail73 => ?_) ?_
        · skip
          have pre74 : ∀ tz_, Steps p.tables e below (T62.setTop (mkF m 159 #[.val (.int i0), .val (.int i1), .val (.int i2), .val (.ref r1), .val (.int v1), .val (.int (((i2.toUInt32 >>> ((1 : Int32) &&& 31).toUInt32).toInt32) &&& (3 : Int32))), .val (.int nr), .val (.int t), .val (.ref r2), .val (.int v2), .val (.int 1), .val (.int 1), .val (.int 1), .unset] [(.int 400), (.int t)])) tz_ → Steps p.tables e below (s₁.setTop (entryFrame m #[(.int i0), (.int i1), (.int i2)] maxLocals)) tz_ := fun tz_ kk => pre72 tz_ (by
            show Steps p.tables e below (T62.setTop (mkF m 154 #[.val (.int i0), .val (.int i1), .val (.int i2), .val (.ref r1), .val (.int v1), .val (.int (((i2.toUInt32 >>> ((1 : Int32) &&& 31).toUInt32).toInt32) &&& (3 : Int32))), .val (.int nr), .val (.int t), .val (.ref r2), .val (.int v2), .val (.int 1), .val (.int 1), .val (.int 1), .unset] [])) _
            refine XS.iload X62.here hx rfl (hb hby at_154) rfl ?_
            refine XS.sipush X62.here hx rfl (hb hby at_156) ?_
            exact kk)
          by_cases hc75 : t = (400 : Int32)
          · skip
            obtain ⟨T76, X76, e76, st76⟩ := getS2 X62 hx hZ hown (host := "") (Or.inl (hw _ (List.mem_of_getElem? (i := 5) rfl))) Via.refl e62 (p4_S.ext p0_O.2) (g := (mkF m 164 #[.val (.int i0), .val (.int i1), .val (.int i2), .val (.ref r1), .val (.int v1), .val (.int (((i2.toUInt32 >>> ((1 : Int32) &&& 31).toUInt32).toInt32) &&& (3 : Int32))), .val (.int nr), .val (.int t), .val (.ref r2), .val (.int v2), .val (.int 1), .val (.int 1), .val (.int 1), .unset] [(.ref r2)])) rfl (hb hby at_164)
            have pre77 : ∀ tz_, Steps p.tables e below (T76.setTop (mkF m 175 #[.val (.int i0), .val (.int i1), .val (.int i2), .val (.ref r1), .val (.int v1), .val (.int (((i2.toUInt32 >>> ((1 : Int32) &&& 31).toUInt32).toInt32) &&& (3 : Int32))), .val (.int nr), .val (.int t), .val (.ref r2), .val (.int v2), .val (.int 1), .val (.int 1), .val (.int 1), .unset] [(.int 409), (.int t)])) tz_ → Steps p.tables e below (s₁.setTop (entryFrame m #[(.int i0), (.int i1), (.int i2)] maxLocals)) tz_ := fun tz_ kk => pre74 tz_ (by
              show Steps p.tables e below (T62.setTop (mkF m 159 #[.val (.int i0), .val (.int i1), .val (.int i2), .val (.ref r1), .val (.int v1), .val (.int (((i2.toUInt32 >>> ((1 : Int32) &&& 31).toUInt32).toInt32) &&& (3 : Int32))), .val (.int nr), .val (.int t), .val (.ref r2), .val (.int v2), .val (.int 1), .val (.int 1), .val (.int 1), .unset] [(.int 400), (.int t)])) _
              refine XS.icmpNo X62.here hx rfl (hb hby at_159) rfl (teq hc75).2 ?_
              refine XS.aload X62.here hx rfl (hb hby at_162) rfl rfl ?_
              show Steps p.tables e below (T62.setTop (mkF m 164 #[.val (.int i0), .val (.int i1), .val (.int i2), .val (.ref r1), .val (.int v1), .val (.int (((i2.toUInt32 >>> ((1 : Int32) &&& 31).toUInt32).toInt32) &&& (3 : Int32))), .val (.int nr), .val (.int t), .val (.ref r2), .val (.int v2), .val (.int 1), .val (.int 1), .val (.int 1), .unset] [(.ref r2)])) _
              refine st76 _ ?_
              show Steps p.tables e below (T76.setTop (mkF m 167 #[.val (.int i0), .val (.int i1), .val (.int i2), .val (.ref r1), .val (.int v1), .val (.int (((i2.toUInt32 >>> ((1 : Int32) &&& 31).toUInt32).toInt32) &&& (3 : Int32))), .val (.int nr), .val (.int t), .val (.ref r2), .val (.int v2), .val (.int 1), .val (.int 1), .val (.int 1), .unset] [(.ref w3), (.ref r2)])) _
              refine Jvm.RoadKit.acmp (g := (mkF m 167 #[.val (.int i0), .val (.int i1), .val (.int i2), .val (.ref r1), .val (.int v1), .val (.int (((i2.toUInt32 >>> ((1 : Int32) &&& 31).toUInt32).toInt32) &&& (3 : Int32))), .val (.int nr), .val (.int t), .val (.ref r2), .val (.int v2), .val (.int 1), .val (.int 1), .val (.int 1), .unset] [(.ref w3), (.ref r2)])) X76 hx rfl rfl rfl (pc0 := 167) (pc' := 170) (same := true) rfl (hb hby at_167) rfl (decide_eq_true (congrArg Value.ref (hs4 hc75 : r2 = w3))) (by decide) (by decide) ?_
              show Steps p.tables e below (T76.setTop (mkF m 170 #[.val (.int i0), .val (.int i1), .val (.int i2), .val (.ref r1), .val (.int v1), .val (.int (((i2.toUInt32 >>> ((1 : Int32) &&& 31).toUInt32).toInt32) &&& (3 : Int32))), .val (.int nr), .val (.int t), .val (.ref r2), .val (.int v2), .val (.int 1), .val (.int 1), .val (.int 1), .unset] [])) _
              refine XS.iload X76.here hx rfl (hb hby at_170) rfl ?_
              refine XS.sipush X76.here hx rfl (hb hby at_172) ?_
              exact kk)
            by_cases hc78 : t = (409 : Int32)
            · skip
              obtain ⟨T79, X79, e79, st79⟩ := getS2 X76 hx hZ hown (host := "") (Or.inl (hw _ (List.mem_of_getElem? (i := 29) rfl))) Via.refl e76 (p11_S.ext p0_O.2) (g := (mkF m 180 #[.val (.int i0), .val (.int i1), .val (.int i2), .val (.ref r1), .val (.int v1), .val (.int (((i2.toUInt32 >>> ((1 : Int32) &&& 31).toUInt32).toInt32) &&& (3 : Int32))), .val (.int nr), .val (.int t), .val (.ref r2), .val (.int v2), .val (.int 1), .val (.int 1), .val (.int 1), .unset] [(.ref r2)])) rfl (hb hby at_180)
              have pre80 : ∀ tz_, Steps p.tables e below (T79.setTop (mkF m 191 #[.val (.int i0), .val (.int i1), .val (.int i2), .val (.ref r1), .val (.int v1), .val (.int (((i2.toUInt32 >>> ((1 : Int32) &&& 31).toUInt32).toInt32) &&& (3 : Int32))), .val (.int nr), .val (.int t), .val (.ref r2), .val (.int v2), .val (.int 1), .val (.int 1), .val (.int 1), .unset] [(.int 500), (.int t)])) tz_ → Steps p.tables e below (s₁.setTop (entryFrame m #[(.int i0), (.int i1), (.int i2)] maxLocals)) tz_ := fun tz_ kk => pre77 tz_ (by
                show Steps p.tables e below (T76.setTop (mkF m 175 #[.val (.int i0), .val (.int i1), .val (.int i2), .val (.ref r1), .val (.int v1), .val (.int (((i2.toUInt32 >>> ((1 : Int32) &&& 31).toUInt32).toInt32) &&& (3 : Int32))), .val (.int nr), .val (.int t), .val (.ref r2), .val (.int v2), .val (.int 1), .val (.int 1), .val (.int 1), .unset] [(.int 409), (.int t)])) _
                refine XS.icmpNo X76.here hx rfl (hb hby at_175) rfl (teq hc78).2 ?_
                refine XS.aload X76.here hx rfl (hb hby at_178) rfl rfl ?_
                show Steps p.tables e below (T76.setTop (mkF m 180 #[.val (.int i0), .val (.int i1), .val (.int i2), .val (.ref r1), .val (.int v1), .val (.int (((i2.toUInt32 >>> ((1 : Int32) &&& 31).toUInt32).toInt32) &&& (3 : Int32))), .val (.int nr), .val (.int t), .val (.ref r2), .val (.int v2), .val (.int 1), .val (.int 1), .val (.int 1), .unset] [(.ref r2)])) _
                refine st79 _ ?_
                show Steps p.tables e below (T79.setTop (mkF m 183 #[.val (.int i0), .val (.int i1), .val (.int i2), .val (.ref r1), .val (.int v1), .val (.int (((i2.toUInt32 >>> ((1 : Int32) &&& 31).toUInt32).toInt32) &&& (3 : Int32))), .val (.int nr), .val (.int t), .val (.ref r2), .val (.int v2), .val (.int 1), .val (.int 1), .val (.int 1), .unset] [(.ref w10), (.ref r2)])) _
                refine Jvm.RoadKit.acmp (g := (mkF m 183 #[.val (.int i0), .val (.int i1), .val (.int i2), .val (.ref r1), .val (.int v1), .val (.int (((i2.toUInt32 >>> ((1 : Int32) &&& 31).toUInt32).toInt32) &&& (3 : Int32))), .val (.int nr), .val (.int t), .val (.ref r2), .val (.int v2), .val (.int 1), .val (.int 1), .val (.int 1), .unset] [(.ref w10), (.ref r2)])) X79 hx rfl rfl rfl (pc0 := 183) (pc' := 186) (same := true) rfl (hb hby at_183) rfl (decide_eq_true (congrArg Value.ref (hs5 hc78 : r2 = w10))) (by decide) (by decide) ?_
                refine XS.iload X79.here hx rfl (hb hby at_186) rfl ?_
                refine XS.sipush X79.here hx rfl (hb hby at_188) ?_
                exact kk)
              by_cases hc81 : t = (500 : Int32)
              · skip
                obtain ⟨T82, X82, e82, st82⟩ := getS2 X79 hx hZ hown (host := "") (Or.inl (hw _ (List.mem_of_getElem? (i := 39) rfl))) Via.refl e79 (p14_S.ext p0_O.2) (g := (mkF m 196 #[.val (.int i0), .val (.int i1), .val (.int i2), .val (.ref r1), .val (.int v1), .val (.int (((i2.toUInt32 >>> ((1 : Int32) &&& 31).toUInt32).toInt32) &&& (3 : Int32))), .val (.int nr), .val (.int t), .val (.ref r2), .val (.int v2), .val (.int 1), .val (.int 1), .val (.int 1), .unset] [(.ref r2)])) rfl (hb hby at_196)
                have pre83 : ∀ tz_, Steps p.tables e below (T82.setTop (mkF m 207 #[.val (.int i0), .val (.int i1), .val (.int i2), .val (.ref r1), .val (.int v1), .val (.int (((i2.toUInt32 >>> ((1 : Int32) &&& 31).toUInt32).toInt32) &&& (3 : Int32))), .val (.int nr), .val (.int t), .val (.ref r2), .val (.int v2), .val (.int 1), .val (.int 1), .val (.int 1), .unset] [(.int 1)])) tz_ → Steps p.tables e below (s₁.setTop (entryFrame m #[(.int i0), (.int i1), (.int i2)] maxLocals)) tz_ := fun tz_ kk => pre80 tz_ (by
                  show Steps p.tables e below (T79.setTop (mkF m 191 #[.val (.int i0), .val (.int i1), .val (.int i2), .val (.ref r1), .val (.int v1), .val (.int (((i2.toUInt32 >>> ((1 : Int32) &&& 31).toUInt32).toInt32) &&& (3 : Int32))), .val (.int nr), .val (.int t), .val (.ref r2), .val (.int v2), .val (.int 1), .val (.int 1), .val (.int 1), .unset] [(.int 500), (.int t)])) _
                  refine XS.icmpNo X79.here hx rfl (hb hby at_191) rfl (teq hc81).2 ?_
                  refine XS.aload X79.here hx rfl (hb hby at_194) rfl rfl ?_
                  show Steps p.tables e below (T79.setTop (mkF m 196 #[.val (.int i0), .val (.int i1), .val (.int i2), .val (.ref r1), .val (.int v1), .val (.int (((i2.toUInt32 >>> ((1 : Int32) &&& 31).toUInt32).toInt32) &&& (3 : Int32))), .val (.int nr), .val (.int t), .val (.ref r2), .val (.int v2), .val (.int 1), .val (.int 1), .val (.int 1), .unset] [(.ref r2)])) _
                  refine st82 _ ?_
                  show Steps p.tables e below (T82.setTop (mkF m 199 #[.val (.int i0), .val (.int i1), .val (.int i2), .val (.ref r1), .val (.int v1), .val (.int (((i2.toUInt32 >>> ((1 : Int32) &&& 31).toUInt32).toInt32) &&& (3 : Int32))), .val (.int nr), .val (.int t), .val (.ref r2), .val (.int v2), .val (.int 1), .val (.int 1), .val (.int 1), .unset] [(.ref w13), (.ref r2)])) _
                  refine Jvm.RoadKit.acmp (g := (mkF m 199 #[.val (.int i0), .val (.int i1), .val (.int i2), .val (.ref r1), .val (.int v1), .val (.int (((i2.toUInt32 >>> ((1 : Int32) &&& 31).toUInt32).toInt32) &&& (3 : Int32))), .val (.int nr), .val (.int t), .val (.ref r2), .val (.int v2), .val (.int 1), .val (.int 1), .val (.int 1), .unset] [(.ref w13), (.ref r2)])) X82 hx rfl rfl rfl (pc0 := 199) (pc' := 202) (same := true) rfl (hb hby at_199) rfl (decide_eq_true (congrArg Value.ref (hs6 hc81 : r2 = w13))) (by decide) (by decide) ?_
                  show Steps p.tables e below (T82.setTop (mkF m 202 #[.val (.int i0), .val (.int i1), .val (.int i2), .val (.ref r1), .val (.int v1), .val (.int (((i2.toUInt32 >>> ((1 : Int32) &&& 31).toUInt32).toInt32) &&& (3 : Int32))), .val (.int nr), .val (.int t), .val (.ref r2), .val (.int v2), .val (.int 1), .val (.int 1), .val (.int 1), .unset] [])) _
                  refine XS.iconst X82.here hx rfl (hb hby at_202) ?_
                  refine XS.goto X82.here hx rfl (pc0 := 203) (pc' := 207) rfl (hb hby at_203) (by decide) (by decide) ?_
                  exact kk)
                exact tail73 ⟨T82, _, X82, N62, e82, pre83⟩
              · skip
                have pre84 : ∀ tz_, Steps p.tables e below (T79.setTop (mkF m 207 #[.val (.int i0), .val (.int i1), .val (.int i2), .val (.ref r1), .val (.int v1), .val (.int (((i2.toUInt32 >>> ((1 : Int32) &&& 31).toUInt32).toInt32) &&& (3 : Int32))), .val (.int nr), .val (.int t), .val (.ref r2), .val (.int v2), .val (.int 1), .val (.int 1), .val (.int 1), .unset] [(.int 1)])) tz_ → Steps p.tables e below (s₁.setTop (entryFrame m #[(.int i0), (.int i1), (.int i2)] maxLocals)) tz_ := fun tz_ kk => pre80 tz_ (by
                  show Steps p.tables e below (T79.setTop (mkF m 191 #[.val (.int i0), .val (.int i1), .val (.int i2), .val (.ref r1), .val (.int v1), .val (.int (((i2.toUInt32 >>> ((1 : Int32) &&& 31).toUInt32).toInt32) &&& (3 : Int32))), .val (.int nr), .val (.int t), .val (.ref r2), .val (.int v2), .val (.int 1), .val (.int 1), .val (.int 1), .unset] [(.int 500), (.int t)])) _
                  refine XS.icmpYes X79.here hx rfl (pc0 := 191) (pc' := 202) rfl (hb hby at_191) rfl (feq hc81).2 (by decide) (by decide) ?_
                  refine XS.iconst X79.here hx rfl (hb hby at_202) ?_
                  refine XS.goto X79.here hx rfl (pc0 := 203) (pc' := 207) rfl (hb hby at_203) (by decide) (by decide) ?_
                  exact kk)
                exact tail73 ⟨T79, _, X79, N62, e79, pre84⟩
            · skip
              have pre85 : ∀ tz_, Steps p.tables e below (T76.setTop (mkF m 191 #[.val (.int i0), .val (.int i1), .val (.int i2), .val (.ref r1), .val (.int v1), .val (.int (((i2.toUInt32 >>> ((1 : Int32) &&& 31).toUInt32).toInt32) &&& (3 : Int32))), .val (.int nr), .val (.int t), .val (.ref r2), .val (.int v2), .val (.int 1), .val (.int 1), .val (.int 1), .unset] [(.int 500), (.int t)])) tz_ → Steps p.tables e below (s₁.setTop (entryFrame m #[(.int i0), (.int i1), (.int i2)] maxLocals)) tz_ := fun tz_ kk => pre77 tz_ (by
                show Steps p.tables e below (T76.setTop (mkF m 175 #[.val (.int i0), .val (.int i1), .val (.int i2), .val (.ref r1), .val (.int v1), .val (.int (((i2.toUInt32 >>> ((1 : Int32) &&& 31).toUInt32).toInt32) &&& (3 : Int32))), .val (.int nr), .val (.int t), .val (.ref r2), .val (.int v2), .val (.int 1), .val (.int 1), .val (.int 1), .unset] [(.int 409), (.int t)])) _
                refine XS.icmpYes X76.here hx rfl (pc0 := 175) (pc' := 186) rfl (hb hby at_175) rfl (feq hc78).2 (by decide) (by decide) ?_
                show Steps p.tables e below (T76.setTop (mkF m 186 #[.val (.int i0), .val (.int i1), .val (.int i2), .val (.ref r1), .val (.int v1), .val (.int (((i2.toUInt32 >>> ((1 : Int32) &&& 31).toUInt32).toInt32) &&& (3 : Int32))), .val (.int nr), .val (.int t), .val (.ref r2), .val (.int v2), .val (.int 1), .val (.int 1), .val (.int 1), .unset] [])) _
                refine XS.iload X76.here hx rfl (hb hby at_186) rfl ?_
                refine XS.sipush X76.here hx rfl (hb hby at_188) ?_
                exact kk)
              by_cases hc86 : t = (500 : Int32)
              · skip
                obtain ⟨T87, X87, e87, st87⟩ := getS2 X76 hx hZ hown (host := "") (Or.inl (hw _ (List.mem_of_getElem? (i := 39) rfl))) Via.refl e76 (p14_S.ext p0_O.2) (g := (mkF m 196 #[.val (.int i0), .val (.int i1), .val (.int i2), .val (.ref r1), .val (.int v1), .val (.int (((i2.toUInt32 >>> ((1 : Int32) &&& 31).toUInt32).toInt32) &&& (3 : Int32))), .val (.int nr), .val (.int t), .val (.ref r2), .val (.int v2), .val (.int 1), .val (.int 1), .val (.int 1), .unset] [(.ref r2)])) rfl (hb hby at_196)
                have pre88 : ∀ tz_, Steps p.tables e below (T87.setTop (mkF m 207 #[.val (.int i0), .val (.int i1), .val (.int i2), .val (.ref r1), .val (.int v1), .val (.int (((i2.toUInt32 >>> ((1 : Int32) &&& 31).toUInt32).toInt32) &&& (3 : Int32))), .val (.int nr), .val (.int t), .val (.ref r2), .val (.int v2), .val (.int 1), .val (.int 1), .val (.int 1), .unset] [(.int 1)])) tz_ → Steps p.tables e below (s₁.setTop (entryFrame m #[(.int i0), (.int i1), (.int i2)] maxLocals)) tz_ := fun tz_ kk => pre85 tz_ (by
                  show Steps p.tables e below (T76.setTop (mkF m 191 #[.val (.int i0), .val (.int i1), .val (.int i2), .val (.ref r1), .val (.int v1), .val (.int (((i2.toUInt32 >>> ((1 : Int32) &&& 31).toUInt32).toInt32) &&& (3 : Int32))), .val (.int nr), .val (.int t), .val (.ref r2), .val (.int v2), .val (.int 1), .val (.int 1), .val (.int 1), .unset] [(.int 500), (.int t)])) _
                  refine XS.icmpNo X76.here hx rfl (hb hby at_191) rfl (teq hc86).2 ?_
                  refine XS.aload X76.here hx rfl (hb hby at_194) rfl rfl ?_
                  show Steps p.tables e below (T76.setTop (mkF m 196 #[.val (.int i0), .val (.int i1), .val (.int i2), .val (.ref r1), .val (.int v1), .val (.int (((i2.toUInt32 >>> ((1 : Int32) &&& 31).toUInt32).toInt32) &&& (3 : Int32))), .val (.int nr), .val (.int t), .val (.ref r2), .val (.int v2), .val (.int 1), .val (.int 1), .val (.int 1), .unset] [(.ref r2)])) _
                  refine st87 _ ?_
                  show Steps p.tables e below (T87.setTop (mkF m 199 #[.val (.int i0), .val (.int i1), .val (.int i2), .val (.ref r1), .val (.int v1), .val (.int (((i2.toUInt32 >>> ((1 : Int32) &&& 31).toUInt32).toInt32) &&& (3 : Int32))), .val (.int nr), .val (.int t), .val (.ref r2), .val (.int v2), .val (.int 1), .val (.int 1), .val (.int 1), .unset] [(.ref w13), (.ref r2)])) _
                  refine Jvm.RoadKit.acmp (g := (mkF m 199 #[.val (.int i0), .val (.int i1), .val (.int i2), .val (.ref r1), .val (.int v1), .val (.int (((i2.toUInt32 >>> ((1 : Int32) &&& 31).toUInt32).toInt32) &&& (3 : Int32))), .val (.int nr), .val (.int t), .val (.ref r2), .val (.int v2), .val (.int 1), .val (.int 1), .val (.int 1), .unset] [(.ref w13), (.ref r2)])) X87 hx rfl rfl rfl (pc0 := 199) (pc' := 202) (same := true) rfl (hb hby at_199) rfl (decide_eq_true (congrArg Value.ref (hs6 hc86 : r2 = w13))) (by decide) (by decide) ?_
                  refine XS.iconst X87.here hx rfl (hb hby at_202) ?_
                  refine XS.goto X87.here hx rfl (pc0 := 203) (pc' := 207) rfl (hb hby at_203) (by decide) (by decide) ?_
                  exact kk)
                exact tail73 ⟨T87, _, X87, N62, e87, pre88⟩
              · skip
                have pre89 : ∀ tz_, Steps p.tables e below (T76.setTop (mkF m 207 #[.val (.int i0), .val (.int i1), .val (.int i2), .val (.ref r1), .val (.int v1), .val (.int (((i2.toUInt32 >>> ((1 : Int32) &&& 31).toUInt32).toInt32) &&& (3 : Int32))), .val (.int nr), .val (.int t), .val (.ref r2), .val (.int v2), .val (.int 1), .val (.int 1), .val (.int 1), .unset] [(.int 1)])) tz_ → Steps p.tables e below (s₁.setTop (entryFrame m #[(.int i0), (.int i1), (.int i2)] maxLocals)) tz_ := fun tz_ kk => pre85 tz_ (by
                  show Steps p.tables e below (T76.setTop (mkF m 191 #[.val (.int i0), .val (.int i1), .val (.int i2), .val (.ref r1), .val (.int v1), .val (.int (((i2.toUInt32 >>> ((1 : Int32) &&& 31).toUInt32).toInt32) &&& (3 : Int32))), .val (.int nr), .val (.int t), .val (.ref r2), .val (.int v2), .val (.int 1), .val (.int 1), .val (.int 1), .unset] [(.int 500), (.int t)])) _
                  refine XS.icmpYes X76.here hx rfl (pc0 := 191) (pc' := 202) rfl (hb hby at_191) rfl (feq hc86).2 (by decide) (by decide) ?_
                  show Steps p.tables e below (T76.setTop (mkF m 202 #[.val (.int i0), .val (.int i1), .val (.int i2), .val (.ref r1), .val (.int v1), .val (.int (((i2.toUInt32 >>> ((1 : Int32) &&& 31).toUInt32).toInt32) &&& (3 : Int32))), .val (.int nr), .val (.int t), .val (.ref r2), .val (.int v2), .val (.int 1), .val (.int 1), .val (.int 1), .unset] [])) _
                  refine XS.iconst X76.here hx rfl (hb hby at_202) ?_
                  refine XS.goto X76.here hx rfl (pc0 := 203) (pc' := 207) rfl (hb hby at_203) (by decide) (by decide) ?_
                  exact kk)
                exact tail73 ⟨T76, _, X76, N62, e76, pre89⟩
          · skip
            have pre90 : ∀ tz_, Steps p.tables e below (T62.setTop (mkF m 175 #[.val (.int i0), .val (.int i1), .val (.int i2), .val (.ref r1), .val (.int v1), .val (.int (((i2.toUInt32 >>> ((1 : Int32) &&& 31).toUInt32).toInt32) &&& (3 : Int32))), .val (.int nr), .val (.int t), .val (.ref r2), .val (.int v2), .val (.int 1), .val (.int 1), .val (.int 1), .unset] [(.int 409), (.int t)])) tz_ → Steps p.tables e below (s₁.setTop (entryFrame m #[(.int i0), (.int i1), (.int i2)] maxLocals)) tz_ := fun tz_ kk => pre74 tz_ (by
              show Steps p.tables e below (T62.setTop (mkF m 159 #[.val (.int i0), .val (.int i1), .val (.int i2), .val (.ref r1), .val (.int v1), .val (.int (((i2.toUInt32 >>> ((1 : Int32) &&& 31).toUInt32).toInt32) &&& (3 : Int32))), .val (.int nr), .val (.int t), .val (.ref r2), .val (.int v2), .val (.int 1), .val (.int 1), .val (.int 1), .unset] [(.int 400), (.int t)])) _
              refine XS.icmpYes X62.here hx rfl (pc0 := 159) (pc' := 170) rfl (hb hby at_159) rfl (feq hc75).2 (by decide) (by decide) ?_
              refine XS.iload X62.here hx rfl (hb hby at_170) rfl ?_
              refine XS.sipush X62.here hx rfl (hb hby at_172) ?_
              exact kk)
            by_cases hc91 : t = (409 : Int32)
            · skip
              obtain ⟨T92, X92, e92, st92⟩ := getS2 X62 hx hZ hown (host := "") (Or.inl (hw _ (List.mem_of_getElem? (i := 29) rfl))) Via.refl e62 (p11_S.ext p0_O.2) (g := (mkF m 180 #[.val (.int i0), .val (.int i1), .val (.int i2), .val (.ref r1), .val (.int v1), .val (.int (((i2.toUInt32 >>> ((1 : Int32) &&& 31).toUInt32).toInt32) &&& (3 : Int32))), .val (.int nr), .val (.int t), .val (.ref r2), .val (.int v2), .val (.int 1), .val (.int 1), .val (.int 1), .unset] [(.ref r2)])) rfl (hb hby at_180)
              have pre93 : ∀ tz_, Steps p.tables e below (T92.setTop (mkF m 191 #[.val (.int i0), .val (.int i1), .val (.int i2), .val (.ref r1), .val (.int v1), .val (.int (((i2.toUInt32 >>> ((1 : Int32) &&& 31).toUInt32).toInt32) &&& (3 : Int32))), .val (.int nr), .val (.int t), .val (.ref r2), .val (.int v2), .val (.int 1), .val (.int 1), .val (.int 1), .unset] [(.int 500), (.int t)])) tz_ → Steps p.tables e below (s₁.setTop (entryFrame m #[(.int i0), (.int i1), (.int i2)] maxLocals)) tz_ := fun tz_ kk => pre90 tz_ (by
                show Steps p.tables e below (T62.setTop (mkF m 175 #[.val (.int i0), .val (.int i1), .val (.int i2), .val (.ref r1), .val (.int v1), .val (.int (((i2.toUInt32 >>> ((1 : Int32) &&& 31).toUInt32).toInt32) &&& (3 : Int32))), .val (.int nr), .val (.int t), .val (.ref r2), .val (.int v2), .val (.int 1), .val (.int 1), .val (.int 1), .unset] [(.int 409), (.int t)])) _
                refine XS.icmpNo X62.here hx rfl (hb hby at_175) rfl (teq hc91).2 ?_
                refine XS.aload X62.here hx rfl (hb hby at_178) rfl rfl ?_
                show Steps p.tables e below (T62.setTop (mkF m 180 #[.val (.int i0), .val (.int i1), .val (.int i2), .val (.ref r1), .val (.int v1), .val (.int (((i2.toUInt32 >>> ((1 : Int32) &&& 31).toUInt32).toInt32) &&& (3 : Int32))), .val (.int nr), .val (.int t), .val (.ref r2), .val (.int v2), .val (.int 1), .val (.int 1), .val (.int 1), .unset] [(.ref r2)])) _
                refine st92 _ ?_
                show Steps p.tables e below (T92.setTop (mkF m 183 #[.val (.int i0), .val (.int i1), .val (.int i2), .val (.ref r1), .val (.int v1), .val (.int (((i2.toUInt32 >>> ((1 : Int32) &&& 31).toUInt32).toInt32) &&& (3 : Int32))), .val (.int nr), .val (.int t), .val (.ref r2), .val (.int v2), .val (.int 1), .val (.int 1), .val (.int 1), .unset] [(.ref w10), (.ref r2)])) _
                refine Jvm.RoadKit.acmp (g := (mkF m 183 #[.val (.int i0), .val (.int i1), .val (.int i2), .val (.ref r1), .val (.int v1), .val (.int (((i2.toUInt32 >>> ((1 : Int32) &&& 31).toUInt32).toInt32) &&& (3 : Int32))), .val (.int nr), .val (.int t), .val (.ref r2), .val (.int v2), .val (.int 1), .val (.int 1), .val (.int 1), .unset] [(.ref w10), (.ref r2)])) X92 hx rfl rfl rfl (pc0 := 183) (pc' := 186) (same := true) rfl (hb hby at_183) rfl (decide_eq_true (congrArg Value.ref (hs5 hc91 : r2 = w10))) (by decide) (by decide) ?_
                show Steps p.tables e below (T92.setTop (mkF m 186 #[.val (.int i0), .val (.int i1), .val (.int i2), .val (.ref r1), .val (.int v1), .val (.int (((i2.toUInt32 >>> ((1 : Int32) &&& 31).toUInt32).toInt32) &&& (3 : Int32))), .val (.int nr), .val (.int t), .val (.ref r2), .val (.int v2), .val (.int 1), .val (.int 1), .val (.int 1), .unset] [])) _
                refine XS.iload X92.here hx rfl (hb hby at_186) rfl ?_
                refine XS.sipush X92.here hx rfl (hb hby at_188) ?_
                exact kk)
              by_cases hc94 : t = (500 : Int32)
              · skip
                obtain ⟨T95, X95, e95, st95⟩ := getS2 X92 hx hZ hown (host := "") (Or.inl (hw _ (List.mem_of_getElem? (i := 39) rfl))) Via.refl e92 (p14_S.ext p0_O.2) (g := (mkF m 196 #[.val (.int i0), .val (.int i1), .val (.int i2), .val (.ref r1), .val (.int v1), .val (.int (((i2.toUInt32 >>> ((1 : Int32) &&& 31).toUInt32).toInt32) &&& (3 : Int32))), .val (.int nr), .val (.int t), .val (.ref r2), .val (.int v2), .val (.int 1), .val (.int 1), .val (.int 1), .unset] [(.ref r2)])) rfl (hb hby at_196)
                have pre96 : ∀ tz_, Steps p.tables e below (T95.setTop (mkF m 207 #[.val (.int i0), .val (.int i1), .val (.int i2), .val (.ref r1), .val (.int v1), .val (.int (((i2.toUInt32 >>> ((1 : Int32) &&& 31).toUInt32).toInt32) &&& (3 : Int32))), .val (.int nr), .val (.int t), .val (.ref r2), .val (.int v2), .val (.int 1), .val (.int 1), .val (.int 1), .unset] [(.int 1)])) tz_ → Steps p.tables e below (s₁.setTop (entryFrame m #[(.int i0), (.int i1), (.int i2)] maxLocals)) tz_ := fun tz_ kk => pre93 tz_ (by
                  show Steps p.tables e below (T92.setTop (mkF m 191 #[.val (.int i0), .val (.int i1), .val (.int i2), .val (.ref r1), .val (.int v1), .val (.int (((i2.toUInt32 >>> ((1 : Int32) &&& 31).toUInt32).toInt32) &&& (3 : Int32))), .val (.int nr), .val (.int t), .val (.ref r2), .val (.int v2), .val (.int 1), .val (.int 1), .val (.int 1), .unset] [(.int 500), (.int t)])) _
                  refine XS.icmpNo X92.here hx rfl (hb hby at_191) rfl (teq hc94).2 ?_
                  refine XS.aload X92.here hx rfl (hb hby at_194) rfl rfl ?_
                  show Steps p.tables e below (T92.setTop (mkF m 196 #[.val (.int i0), .val (.int i1), .val (.int i2), .val (.ref r1), .val (.int v1), .val (.int (((i2.toUInt32 >>> ((1 : Int32) &&& 31).toUInt32).toInt32) &&& (3 : Int32))), .val (.int nr), .val (.int t), .val (.ref r2), .val (.int v2), .val (.int 1), .val (.int 1), .val (.int 1), .unset] [(.ref r2)])) _
                  refine st95 _ ?_
                  show Steps p.tables e below (T95.setTop (mkF m 199 #[.val (.int i0), .val (.int i1), .val (.int i2), .val (.ref r1), .val (.int v1), .val (.int (((i2.toUInt32 >>> ((1 : Int32) &&& 31).toUInt32).toInt32) &&& (3 : Int32))), .val (.int nr), .val (.int t), .val (.ref r2), .val (.int v2), .val (.int 1), .val (.int 1), .val (.int 1), .unset] [(.ref w13), (.ref r2)])) _
                  refine Jvm.RoadKit.acmp (g := (mkF m 199 #[.val (.int i0), .val (.int i1), .val (.int i2), .val (.ref r1), .val (.int v1), .val (.int (((i2.toUInt32 >>> ((1 : Int32) &&& 31).toUInt32).toInt32) &&& (3 : Int32))), .val (.int nr), .val (.int t), .val (.ref r2), .val (.int v2), .val (.int 1), .val (.int 1), .val (.int 1), .unset] [(.ref w13), (.ref r2)])) X95 hx rfl rfl rfl (pc0 := 199) (pc' := 202) (same := true) rfl (hb hby at_199) rfl (decide_eq_true (congrArg Value.ref (hs6 hc94 : r2 = w13))) (by decide) (by decide) ?_
                  refine XS.iconst X95.here hx rfl (hb hby at_202) ?_
                  refine XS.goto X95.here hx rfl (pc0 := 203) (pc' := 207) rfl (hb hby at_203) (by decide) (by decide) ?_
                  exact kk)
                exact tail73 ⟨T95, _, X95, N62, e95, pre96⟩
              · skip
                have pre97 : ∀ tz_, Steps p.tables e below (T92.setTop (mkF m 207 #[.val (.int i0), .val (.int i1), .val (.int i2), .val (.ref r1), .val (.int v1), .val (.int (((i2.toUInt32 >>> ((1 : Int32) &&& 31).toUInt32).toInt32) &&& (3 : Int32))), .val (.int nr), .val (.int t), .val (.ref r2), .val (.int v2), .val (.int 1), .val (.int 1), .val (.int 1), .unset] [(.int 1)])) tz_ → Steps p.tables e below (s₁.setTop (entryFrame m #[(.int i0), (.int i1), (.int i2)] maxLocals)) tz_ := fun tz_ kk => pre93 tz_ (by
                  show Steps p.tables e below (T92.setTop (mkF m 191 #[.val (.int i0), .val (.int i1), .val (.int i2), .val (.ref r1), .val (.int v1), .val (.int (((i2.toUInt32 >>> ((1 : Int32) &&& 31).toUInt32).toInt32) &&& (3 : Int32))), .val (.int nr), .val (.int t), .val (.ref r2), .val (.int v2), .val (.int 1), .val (.int 1), .val (.int 1), .unset] [(.int 500), (.int t)])) _
                  refine XS.icmpYes X92.here hx rfl (pc0 := 191) (pc' := 202) rfl (hb hby at_191) rfl (feq hc94).2 (by decide) (by decide) ?_
                  show Steps p.tables e below (T92.setTop (mkF m 202 #[.val (.int i0), .val (.int i1), .val (.int i2), .val (.ref r1), .val (.int v1), .val (.int (((i2.toUInt32 >>> ((1 : Int32) &&& 31).toUInt32).toInt32) &&& (3 : Int32))), .val (.int nr), .val (.int t), .val (.ref r2), .val (.int v2), .val (.int 1), .val (.int 1), .val (.int 1), .unset] [])) _
                  refine XS.iconst X92.here hx rfl (hb hby at_202) ?_
                  refine XS.goto X92.here hx rfl (pc0 := 203) (pc' := 207) rfl (hb hby at_203) (by decide) (by decide) ?_
                  exact kk)
                exact tail73 ⟨T92, _, X92, N62, e92, pre97⟩
            · skip
              have pre98 : ∀ tz_, Steps p.tables e below (T62.setTop (mkF m 191 #[.val (.int i0), .val (.int i1), .val (.int i2), .val (.ref r1), .val (.int v1), .val (.int (((i2.toUInt32 >>> ((1 : Int32) &&& 31).toUInt32).toInt32) &&& (3 : Int32))), .val (.int nr), .val (.int t), .val (.ref r2), .val (.int v2), .val (.int 1), .val (.int 1), .val (.int 1), .unset] [(.int 500), (.int t)])) tz_ → Steps p.tables e below (s₁.setTop (entryFrame m #[(.int i0), (.int i1), (.int i2)] maxLocals)) tz_ := fun tz_ kk => pre90 tz_ (by
                show Steps p.tables e below (T62.setTop (mkF m 175 #[.val (.int i0), .val (.int i1), .val (.int i2), .val (.ref r1), .val (.int v1), .val (.int (((i2.toUInt32 >>> ((1 : Int32) &&& 31).toUInt32).toInt32) &&& (3 : Int32))), .val (.int nr), .val (.int t), .val (.ref r2), .val (.int v2), .val (.int 1), .val (.int 1), .val (.int 1), .unset] [(.int 409), (.int t)])) _
                refine XS.icmpYes X62.here hx rfl (pc0 := 175) (pc' := 186) rfl (hb hby at_175) rfl (feq hc91).2 (by decide) (by decide) ?_
                refine XS.iload X62.here hx rfl (hb hby at_186) rfl ?_
                refine XS.sipush X62.here hx rfl (hb hby at_188) ?_
                exact kk)
              by_cases hc99 : t = (500 : Int32)
              · skip
                obtain ⟨T100, X100, e100, st100⟩ := getS2 X62 hx hZ hown (host := "") (Or.inl (hw _ (List.mem_of_getElem? (i := 39) rfl))) Via.refl e62 (p14_S.ext p0_O.2) (g := (mkF m 196 #[.val (.int i0), .val (.int i1), .val (.int i2), .val (.ref r1), .val (.int v1), .val (.int (((i2.toUInt32 >>> ((1 : Int32) &&& 31).toUInt32).toInt32) &&& (3 : Int32))), .val (.int nr), .val (.int t), .val (.ref r2), .val (.int v2), .val (.int 1), .val (.int 1), .val (.int 1), .unset] [(.ref r2)])) rfl (hb hby at_196)
                have pre101 : ∀ tz_, Steps p.tables e below (T100.setTop (mkF m 207 #[.val (.int i0), .val (.int i1), .val (.int i2), .val (.ref r1), .val (.int v1), .val (.int (((i2.toUInt32 >>> ((1 : Int32) &&& 31).toUInt32).toInt32) &&& (3 : Int32))), .val (.int nr), .val (.int t), .val (.ref r2), .val (.int v2), .val (.int 1), .val (.int 1), .val (.int 1), .unset] [(.int 1)])) tz_ → Steps p.tables e below (s₁.setTop (entryFrame m #[(.int i0), (.int i1), (.int i2)] maxLocals)) tz_ := fun tz_ kk => pre98 tz_ (by
                  show Steps p.tables e below (T62.setTop (mkF m 191 #[.val (.int i0), .val (.int i1), .val (.int i2), .val (.ref r1), .val (.int v1), .val (.int (((i2.toUInt32 >>> ((1 : Int32) &&& 31).toUInt32).toInt32) &&& (3 : Int32))), .val (.int nr), .val (.int t), .val (.ref r2), .val (.int v2), .val (.int 1), .val (.int 1), .val (.int 1), .unset] [(.int 500), (.int t)])) _
                  refine XS.icmpNo X62.here hx rfl (hb hby at_191) rfl (teq hc99).2 ?_
                  refine XS.aload X62.here hx rfl (hb hby at_194) rfl rfl ?_
                  show Steps p.tables e below (T62.setTop (mkF m 196 #[.val (.int i0), .val (.int i1), .val (.int i2), .val (.ref r1), .val (.int v1), .val (.int (((i2.toUInt32 >>> ((1 : Int32) &&& 31).toUInt32).toInt32) &&& (3 : Int32))), .val (.int nr), .val (.int t), .val (.ref r2), .val (.int v2), .val (.int 1), .val (.int 1), .val (.int 1), .unset] [(.ref r2)])) _
                  refine st100 _ ?_
                  show Steps p.tables e below (T100.setTop (mkF m 199 #[.val (.int i0), .val (.int i1), .val (.int i2), .val (.ref r1), .val (.int v1), .val (.int (((i2.toUInt32 >>> ((1 : Int32) &&& 31).toUInt32).toInt32) &&& (3 : Int32))), .val (.int nr), .val (.int t), .val (.ref r2), .val (.int v2), .val (.int 1), .val (.int 1), .val (.int 1), .unset] [(.ref w13), (.ref r2)])) _
                  refine Jvm.RoadKit.acmp (g := (mkF m 199 #[.val (.int i0), .val (.int i1), .val (.int i2), .val (.ref r1), .val (.int v1), .val (.int (((i2.toUInt32 >>> ((1 : Int32) &&& 31).toUInt32).toInt32) &&& (3 : Int32))), .val (.int nr), .val (.int t), .val (.ref r2), .val (.int v2), .val (.int 1), .val (.int 1), .val (.int 1), .unset] [(.ref w13), (.ref r2)])) X100 hx rfl rfl rfl (pc0 := 199) (pc' := 202) (same := true) rfl (hb hby at_199) rfl (decide_eq_true (congrArg Value.ref (hs6 hc99 : r2 = w13))) (by decide) (by decide) ?_
                  show Steps p.tables e below (T100.setTop (mkF m 202 #[.val (.int i0), .val (.int i1), .val (.int i2), .val (.ref r1), .val (.int v1), .val (.int (((i2.toUInt32 >>> ((1 : Int32) &&& 31).toUInt32).toInt32) &&& (3 : Int32))), .val (.int nr), .val (.int t), .val (.ref r2), .val (.int v2), .val (.int 1), .val (.int 1), .val (.int 1), .unset] [])) _
                  refine XS.iconst X100.here hx rfl (hb hby at_202) ?_
                  refine XS.goto X100.here hx rfl (pc0 := 203) (pc' := 207) rfl (hb hby at_203) (by decide) (by decide) ?_
                  exact kk)
                exact tail73 ⟨T100, _, X100, N62, e100, pre101⟩
              · skip
                have pre102 : ∀ tz_, Steps p.tables e below (T62.setTop (mkF m 207 #[.val (.int i0), .val (.int i1), .val (.int i2), .val (.ref r1), .val (.int v1), .val (.int (((i2.toUInt32 >>> ((1 : Int32) &&& 31).toUInt32).toInt32) &&& (3 : Int32))), .val (.int nr), .val (.int t), .val (.ref r2), .val (.int v2), .val (.int 1), .val (.int 1), .val (.int 1), .unset] [(.int 1)])) tz_ → Steps p.tables e below (s₁.setTop (entryFrame m #[(.int i0), (.int i1), (.int i2)] maxLocals)) tz_ := fun tz_ kk => pre98 tz_ (by
                  show Steps p.tables e below (T62.setTop (mkF m 191 #[.val (.int i0), .val (.int i1), .val (.int i2), .val (.ref r1), .val (.int v1), .val (.int (((i2.toUInt32 >>> ((1 : Int32) &&& 31).toUInt32).toInt32) &&& (3 : Int32))), .val (.int nr), .val (.int t), .val (.ref r2), .val (.int v2), .val (.int 1), .val (.int 1), .val (.int 1), .unset] [(.int 500), (.int t)])) _
                  refine XS.icmpYes X62.here hx rfl (pc0 := 191) (pc' := 202) rfl (hb hby at_191) rfl (feq hc99).2 (by decide) (by decide) ?_
                  refine XS.iconst X62.here hx rfl (hb hby at_202) ?_
                  refine XS.goto X62.here hx rfl (pc0 := 203) (pc' := 207) rfl (hb hby at_203) (by decide) (by decide) ?_
                  exact kk)
                exact tail73 ⟨T62, _, X62, N62, e62, pre102⟩
        · skip
          rintro ⟨T73, Lq73, X73, N73, e73, pre73⟩
          obtain ⟨fs, hrL, hrun, hended, hW, hsame⟩ := X73.leave (v := some (.int 1)) (fun h => by rw [Bd.returns] at h; cases h)
          refine ⟨_, _, pre73 _ ?_, hrun, hended, _, _, rfl, ?_, ⟨_, rfl⟩, hW, hsame.mono (by decide) (by decide)⟩
          · show Steps p.tables e below (T73.setTop (mkF m 207 #[.val (.int i0), .val (.int i1), .val (.int i2), .val (.ref r1), .val (.int v1), .val (.int (((i2.toUInt32 >>> ((1 : Int32) &&& 31).toUInt32).toInt32) &&& (3 : Int32))), .val (.int nr), .val (.int t), .val (.ref r2), .val (.int v2), .val (.int 1), .val (.int 1), .val (.int 1), .unset] [(.int 1)])) _
            refine XS.istore X73.here hx rfl (hb hby at_207) rfl (l' := #[.val (.int i0), .val (.int i1), .val (.int i2), .val (.ref r1), .val (.int v1), .val (.int (((i2.toUInt32 >>> ((1 : Int32) &&& 31).toUInt32).toInt32) &&& (3 : Int32))), .val (.int nr), .val (.int t), .val (.ref r2), .val (.int v2), .val (.int 1), .val (.int 1), .val (.int 1), .val (.int 1)]) rfl ?_
            refine XS.iload X73.here hx rfl (hb hby at_209) rfl ?_
            show Steps p.tables e below (T73.setTop (mkF m 211 #[.val (.int i0), .val (.int i1), .val (.int i2), .val (.ref r1), .val (.int v1), .val (.int (((i2.toUInt32 >>> ((1 : Int32) &&& 31).toUInt32).toInt32) &&& (3 : Int32))), .val (.int nr), .val (.int t), .val (.ref r2), .val (.int v2), .val (.int 1), .val (.int 1), .val (.int 1), .val (.int 1)] [(.int 1)])) _
            refine XS.ifNo X73.here hx rfl (hb hby at_211) rfl ((if0 _ _).trans (feq (by decide : ¬ ((1 : Int32) = (0 : Int32)))).1) ?_
            refine XS.iload X73.here hx rfl (hb hby at_214) rfl ?_
            show Steps p.tables e below (T73.setTop (mkF m 216 #[.val (.int i0), .val (.int i1), .val (.int i2), .val (.ref r1), .val (.int v1), .val (.int (((i2.toUInt32 >>> ((1 : Int32) &&& 31).toUInt32).toInt32) &&& (3 : Int32))), .val (.int nr), .val (.int t), .val (.ref r2), .val (.int v2), .val (.int 1), .val (.int 1), .val (.int 1), .val (.int 1)] [(.int 1)])) _
            refine XS.ifNo X73.here hx rfl (hb hby at_216) rfl ((if0 _ _).trans (feq (by decide : ¬ ((1 : Int32) = (0 : Int32)))).1) ?_
            refine XS.iload X73.here hx rfl (hb hby at_219) rfl ?_
            show Steps p.tables e below (T73.setTop (mkF m 221 #[.val (.int i0), .val (.int i1), .val (.int i2), .val (.ref r1), .val (.int v1), .val (.int (((i2.toUInt32 >>> ((1 : Int32) &&& 31).toUInt32).toInt32) &&& (3 : Int32))), .val (.int nr), .val (.int t), .val (.ref r2), .val (.int v2), .val (.int 1), .val (.int 1), .val (.int 1), .val (.int 1)] [(.int 1)])) _
            refine XS.ifNo X73.here hx rfl (hb hby at_221) rfl ((if0 _ _).trans (feq (by decide : ¬ ((1 : Int32) = (0 : Int32)))).1) ?_
            refine XS.iload X73.here hx rfl (hb hby at_224) rfl ?_
            show Steps p.tables e below (T73.setTop (mkF m 226 #[.val (.int i0), .val (.int i1), .val (.int i2), .val (.ref r1), .val (.int v1), .val (.int (((i2.toUInt32 >>> ((1 : Int32) &&& 31).toUInt32).toInt32) &&& (3 : Int32))), .val (.int nr), .val (.int t), .val (.ref r2), .val (.int v2), .val (.int 1), .val (.int 1), .val (.int 1), .val (.int 1)] [(.int 1)])) _
            refine XS.ifNo X73.here hx rfl (hb hby at_226) rfl ((if0 _ _).trans (feq (by decide : ¬ ((1 : Int32) = (0 : Int32)))).1) ?_
            refine XS.iconst X73.here hx rfl (hb hby at_229) ?_
            refine XS.goto X73.here hx rfl (pc0 := 230) (pc' := 234) rfl (hb hby at_230) (by decide) (by decide) ?_
            show Steps p.tables e below (T73.setTop (mkF m 234 #[.val (.int i0), .val (.int i1), .val (.int i2), .val (.ref r1), .val (.int v1), .val (.int (((i2.toUInt32 >>> ((1 : Int32) &&& 31).toUInt32).toInt32) &&& (3 : Int32))), .val (.int nr), .val (.int t), .val (.ref r2), .val (.int v2), .val (.int 1), .val (.int 1), .val (.int 1), .val (.int 1)] [(.int 1)])) _
            exact retN X73 hx (t := .boolean) Bd.returns (by simp) (hb hby at_234) hrL
          · show Q_rm0 _ _ _ _ _ _ _ _ _ _ _ _ _ _ _ _ _ _ _ _ _ _ _ _ _ _  T73.heap _
            rw [e73]
            exact ⟨rfl, N73, rfl⟩
set_option maxRecDepth 65536 in
set_option maxHeartbeats 40000000 in
theorem comes_1 {Post : Tables → Env → Array Value → State → Outcome → State → Prop} (hpost : ∀ tb e args s v u, (limb_1_1.after args s (.returned v) u = true ∧ limb_1_2.after args s (.returned v) u = true ∧ True) → FrameEnd s (.returned v) u (Jvm.fieldLocs frame_1_writes args s ++ Jvm.arrayLocs frame_1_arrays args s ++ Jvm.staticLocs frame_1_statics s) 0 0 → Post tb e args s (.returned v) u) :
    ArmFor flags0 classFile x code maxLocals ret World_1 tables_1 room_1 Calls_1 rest_1 Pre_1 Post := by
  intro l hfl _ _ p e ha hc hk s m args below hf hA hF happ hP
  obtain ⟨hcalls, hrest, hpre⟩ := hP
  obtain ⟨-, -, -, hnamed, -, -, -, hat⟩ := (Spec.applies_iff hf).mp happ
  obtain ⟨hg, hn⟩ := and_e (Cond.before_iff.mp (show (Jvm.Cond.and given_1 narrow_1).before args s = true from hpre))
  obtain ⟨g1, g2⟩ := and_e hg
  obtain ⟨g3, g4⟩ := and_e g2
  obtain ⟨g5, g6⟩ := and_e g4
  obtain ⟨g7, g8⟩ := and_e hn
  obtain ⟨g9, g10⟩ := and_e g8
  obtain ⟨g11, g12⟩ := and_e g10
  obtain ⟨g13, g14⟩ := and_e g12
  obtain ⟨g15, g16⟩ := and_e g14
  obtain ⟨g17, g18⟩ := and_e g16
  obtain ⟨g19, g20⟩ := and_e g18
  obtain ⟨g21, g22⟩ := and_e g20
  obtain ⟨g23, g24⟩ := and_e g22
  obtain ⟨g25, g26⟩ := and_e g24
  obtain ⟨g27, g28⟩ := and_e g26
  obtain ⟨g29, g30⟩ := and_e g28
  obtain ⟨g31, g32⟩ := and_e g30
  obtain ⟨g33, g34⟩ := and_e g32
  obtain ⟨g35, g36⟩ := and_e g34
  obtain ⟨g37, g38⟩ := and_e g36
  obtain ⟨g39, g40⟩ := and_e g38
  obtain ⟨g41, g42⟩ := and_e g40
  obtain ⟨g43, g44⟩ := and_e g42
  obtain ⟨g45, g46⟩ := and_e g44
  obtain ⟨g47, g48⟩ := and_e g46
  obtain ⟨g49, g50⟩ := and_e g48
  obtain ⟨g51, g52⟩ := and_e g50
  obtain ⟨g53, g54⟩ := and_e g52
  obtain ⟨g55, g56⟩ := and_e g54
  obtain ⟨g57, g58⟩ := and_e g56
  obtain ⟨g59, g60⟩ := and_e g58
  obtain ⟨g61, g62⟩ := and_e g60
  obtain ⟨g63, g64⟩ := and_e g62
  obtain ⟨g65, g66⟩ := and_e g64
  obtain ⟨g67, g68⟩ := and_e g66
  obtain ⟨g69, g70⟩ := and_e g68
  obtain ⟨g71, g72⟩ := and_e g70
  obtain ⟨g73, g74⟩ := and_e g72
  obtain ⟨g75, g76⟩ := and_e g74
  obtain ⟨g77, g78⟩ := and_e g76
  obtain ⟨g79, g80⟩ := and_e g78
  obtain ⟨g81, g82⟩ := and_e g80
  obtain ⟨g83, g84⟩ := and_e g82
  obtain ⟨g85, g86⟩ := and_e g84
  obtain ⟨g87, g88⟩ := and_e g86
  obtain ⟨g89, g90⟩ := and_e g88
  obtain ⟨g91, g92⟩ := and_e g90
  obtain ⟨g93, g94⟩ := and_e g92
  obtain ⟨g95, g96⟩ := and_e g94
  obtain ⟨g97, g98⟩ := and_e g96
  obtain ⟨g99, g100⟩ := and_e g98
  obtain ⟨g101, g102⟩ := and_e g100
  obtain ⟨g103, g104⟩ := and_e g102
  obtain ⟨g105, g106⟩ := and_e g104
  obtain ⟨w0, w1, w2, rfl⟩ : ∃ w0 w1 w2 : Value, args = #[w0, w1, w2] := by
    have hs : args.size = 3 := by simpa [Cond.value, given_1] using g1
    obtain ⟨L⟩ := args
    match L, hs with
    | [w0, w1, w2], _ => exact ⟨w0, w1, w2, rfl⟩
  have hw := fun d (hd : d ∈ tables_1) => atoms_spec (ws := Jvm.Cond.code x code maxLocals ret :: tables_1) hat d (List.mem_cons_of_mem _ hd)
  have hfit : Fit s := fun {y c} hc i hi => by
    obtain ⟨ha, rfl⟩ := Array.getElem?_eq_some_iff.mp hc
    have q := List.all_eq_true.mp ((Array.all_eq_true_iff_forall_mem.mp hF) _ (Array.getElem_mem ha)) i (List.mem_range.mpr hi)
    simpa [Array.getElem?_eq_getElem hi] using q
  obtain ⟨i0, ei0⟩ := is_v g3
  obtain rfl : w0 = (.int i0) := Option.some.inj ei0
  obtain ⟨i1, ei1⟩ := is_v g5
  obtain rfl : w1 = (.int i1) := Option.some.inj ei1
  obtain ⟨i2, ei2⟩ := is_v g6
  obtain rfl : w2 = (.int i2) := Option.some.inj ei2
  obtain ⟨a_INVALID_ARGUMENT, ev_a_INVALID_ARGUMENT⟩ := exa_v g7
  have E_a_INVALID_ARGUMENT : Exa s s.heap a_INVALID_ARGUMENT "com/example/callee/callee/model/CanonicalCode" := Exa.start ev_a_INVALID_ARGUMENT g7
  have S_a_INVALID_ARGUMENT : Sta s s.heap "com/example/callee/callee/model/CanonicalCode" "INVALID_ARGUMENT" "Lcom/example/callee/callee/model/CanonicalCode;" (.ref a_INVALID_ARGUMENT) := Sta.start ev_a_INVALID_ARGUMENT (Or.inr ⟨(hw _ (List.mem_of_getElem? (i := 6) rfl)), (hw _ (List.mem_of_getElem? (i := 7) rfl))⟩)
  obtain ⟨a_UNAUTHENTICATED, ev_a_UNAUTHENTICATED⟩ := exa_v g11
  have E_a_UNAUTHENTICATED : Exa s s.heap a_UNAUTHENTICATED "com/example/callee/callee/model/CanonicalCode" := Exa.start ev_a_UNAUTHENTICATED g11
  have S_a_UNAUTHENTICATED : Sta s s.heap "com/example/callee/callee/model/CanonicalCode" "UNAUTHENTICATED" "Lcom/example/callee/callee/model/CanonicalCode;" (.ref a_UNAUTHENTICATED) := Sta.start ev_a_UNAUTHENTICATED (Or.inr ⟨(hw _ (List.mem_of_getElem? (i := 6) rfl)), (hw _ (List.mem_of_getElem? (i := 19) rfl))⟩)
  obtain ⟨a_OK, ev_a_OK⟩ := exa_v g15
  have E_a_OK : Exa s s.heap a_OK "com/example/callee/callee/model/CanonicalCode" := Exa.start ev_a_OK g15
  have S_a_OK : Sta s s.heap "com/example/callee/callee/model/CanonicalCode" "OK" "Lcom/example/callee/callee/model/CanonicalCode;" (.ref a_OK) := Sta.start ev_a_OK (Or.inr ⟨(hw _ (List.mem_of_getElem? (i := 6) rfl)), (hw _ (List.mem_of_getElem? (i := 21) rfl))⟩)
  obtain ⟨a_UNKNOWN, ev_a_UNKNOWN⟩ := exa_v g21
  have E_a_UNKNOWN : Exa s s.heap a_UNKNOWN "com/example/callee/callee/model/CanonicalCode" := Exa.start ev_a_UNKNOWN g21
  have S_a_UNKNOWN : Sta s s.heap "com/example/callee/callee/model/CanonicalCode" "UNKNOWN" "Lcom/example/callee/callee/model/CanonicalCode;" (.ref a_UNKNOWN) := Sta.start ev_a_UNKNOWN (Or.inr ⟨(hw _ (List.mem_of_getElem? (i := 6) rfl)), (hw _ (List.mem_of_getElem? (i := 23) rfl))⟩)
  obtain ⟨a_UNIMPLEMENTED, ev_a_UNIMPLEMENTED⟩ := exa_v g27
  have E_a_UNIMPLEMENTED : Exa s s.heap a_UNIMPLEMENTED "com/example/callee/callee/model/CanonicalCode" := Exa.start ev_a_UNIMPLEMENTED g27
  have S_a_UNIMPLEMENTED : Sta s s.heap "com/example/callee/callee/model/CanonicalCode" "UNIMPLEMENTED" "Lcom/example/callee/callee/model/CanonicalCode;" (.ref a_UNIMPLEMENTED) := Sta.start ev_a_UNIMPLEMENTED (Or.inr ⟨(hw _ (List.mem_of_getElem? (i := 6) rfl)), (hw _ (List.mem_of_getElem? (i := 25) rfl))⟩)
  obtain ⟨a_ALREADY_EXISTS, ev_a_ALREADY_EXISTS⟩ := exa_v g35
  have E_a_ALREADY_EXISTS : Exa s s.heap a_ALREADY_EXISTS "com/example/callee/callee/model/CanonicalCode" := Exa.start ev_a_ALREADY_EXISTS g35
  have S_a_ALREADY_EXISTS : Sta s s.heap "com/example/callee/callee/model/CanonicalCode" "ALREADY_EXISTS" "Lcom/example/callee/callee/model/CanonicalCode;" (.ref a_ALREADY_EXISTS) := Sta.start ev_a_ALREADY_EXISTS (Or.inr ⟨(hw _ (List.mem_of_getElem? (i := 6) rfl)), (hw _ (List.mem_of_getElem? (i := 28) rfl))⟩)
  obtain ⟨a_ABORTED, ev_a_ABORTED⟩ := exa_v g41
  have E_a_ABORTED : Exa s s.heap a_ABORTED "com/example/callee/callee/model/CanonicalCode" := Exa.start ev_a_ABORTED g41
  have S_a_ABORTED : Sta s s.heap "com/example/callee/callee/model/CanonicalCode" "ABORTED" "Lcom/example/callee/callee/model/CanonicalCode;" (.ref a_ABORTED) := Sta.start ev_a_ABORTED (Or.inr ⟨(hw _ (List.mem_of_getElem? (i := 6) rfl)), (hw _ (List.mem_of_getElem? (i := 30) rfl))⟩)
  obtain ⟨a_FAILED_PRECONDITION, ev_a_FAILED_PRECONDITION⟩ := exa_v g49
  have E_a_FAILED_PRECONDITION : Exa s s.heap a_FAILED_PRECONDITION "com/example/callee/callee/model/CanonicalCode" := Exa.start ev_a_FAILED_PRECONDITION g49
  have S_a_FAILED_PRECONDITION : Sta s s.heap "com/example/callee/callee/model/CanonicalCode" "FAILED_PRECONDITION" "Lcom/example/callee/callee/model/CanonicalCode;" (.ref a_FAILED_PRECONDITION) := Sta.start ev_a_FAILED_PRECONDITION (Or.inr ⟨(hw _ (List.mem_of_getElem? (i := 6) rfl)), (hw _ (List.mem_of_getElem? (i := 32) rfl))⟩)
  obtain ⟨a_OUT_OF_RANGE, ev_a_OUT_OF_RANGE⟩ := exa_v g55
  have E_a_OUT_OF_RANGE : Exa s s.heap a_OUT_OF_RANGE "com/example/callee/callee/model/CanonicalCode" := Exa.start ev_a_OUT_OF_RANGE g55
  have S_a_OUT_OF_RANGE : Sta s s.heap "com/example/callee/callee/model/CanonicalCode" "OUT_OF_RANGE" "Lcom/example/callee/callee/model/CanonicalCode;" (.ref a_OUT_OF_RANGE) := Sta.start ev_a_OUT_OF_RANGE (Or.inr ⟨(hw _ (List.mem_of_getElem? (i := 6) rfl)), (hw _ (List.mem_of_getElem? (i := 34) rfl))⟩)
  obtain ⟨a_UNAVAILABLE, ev_a_UNAVAILABLE⟩ := exa_v g61
  have E_a_UNAVAILABLE : Exa s s.heap a_UNAVAILABLE "com/example/callee/callee/model/CanonicalCode" := Exa.start ev_a_UNAVAILABLE g61
  have S_a_UNAVAILABLE : Sta s s.heap "com/example/callee/callee/model/CanonicalCode" "UNAVAILABLE" "Lcom/example/callee/callee/model/CanonicalCode;" (.ref a_UNAVAILABLE) := Sta.start ev_a_UNAVAILABLE (Or.inr ⟨(hw _ (List.mem_of_getElem? (i := 6) rfl)), (hw _ (List.mem_of_getElem? (i := 36) rfl))⟩)
  obtain ⟨a_NOT_FOUND, ev_a_NOT_FOUND⟩ := exa_v g67
  have E_a_NOT_FOUND : Exa s s.heap a_NOT_FOUND "com/example/callee/callee/model/CanonicalCode" := Exa.start ev_a_NOT_FOUND g67
  have S_a_NOT_FOUND : Sta s s.heap "com/example/callee/callee/model/CanonicalCode" "NOT_FOUND" "Lcom/example/callee/callee/model/CanonicalCode;" (.ref a_NOT_FOUND) := Sta.start ev_a_NOT_FOUND (Or.inr ⟨(hw _ (List.mem_of_getElem? (i := 6) rfl)), (hw _ (List.mem_of_getElem? (i := 38) rfl))⟩)
  obtain ⟨a_INTERNAL, ev_a_INTERNAL⟩ := exa_v g73
  have E_a_INTERNAL : Exa s s.heap a_INTERNAL "com/example/callee/callee/model/CanonicalCode" := Exa.start ev_a_INTERNAL g73
  have S_a_INTERNAL : Sta s s.heap "com/example/callee/callee/model/CanonicalCode" "INTERNAL" "Lcom/example/callee/callee/model/CanonicalCode;" (.ref a_INTERNAL) := Sta.start ev_a_INTERNAL (Or.inr ⟨(hw _ (List.mem_of_getElem? (i := 6) rfl)), (hw _ (List.mem_of_getElem? (i := 40) rfl))⟩)
  obtain ⟨a_CANCELLED, ev_a_CANCELLED⟩ := exa_v g79
  have E_a_CANCELLED : Exa s s.heap a_CANCELLED "com/example/callee/callee/model/CanonicalCode" := Exa.start ev_a_CANCELLED g79
  have S_a_CANCELLED : Sta s s.heap "com/example/callee/callee/model/CanonicalCode" "CANCELLED" "Lcom/example/callee/callee/model/CanonicalCode;" (.ref a_CANCELLED) := Sta.start ev_a_CANCELLED (Or.inr ⟨(hw _ (List.mem_of_getElem? (i := 6) rfl)), (hw _ (List.mem_of_getElem? (i := 42) rfl))⟩)
  obtain ⟨a_RESOURCE_EXHAUSTED, ev_a_RESOURCE_EXHAUSTED⟩ := exa_v g85
  have E_a_RESOURCE_EXHAUSTED : Exa s s.heap a_RESOURCE_EXHAUSTED "com/example/callee/callee/model/CanonicalCode" := Exa.start ev_a_RESOURCE_EXHAUSTED g85
  have S_a_RESOURCE_EXHAUSTED : Sta s s.heap "com/example/callee/callee/model/CanonicalCode" "RESOURCE_EXHAUSTED" "Lcom/example/callee/callee/model/CanonicalCode;" (.ref a_RESOURCE_EXHAUSTED) := Sta.start ev_a_RESOURCE_EXHAUSTED (Or.inr ⟨(hw _ (List.mem_of_getElem? (i := 6) rfl)), (hw _ (List.mem_of_getElem? (i := 45) rfl))⟩)
  obtain ⟨a_PERMISSION_DENIED, ev_a_PERMISSION_DENIED⟩ := exa_v g91
  have E_a_PERMISSION_DENIED : Exa s s.heap a_PERMISSION_DENIED "com/example/callee/callee/model/CanonicalCode" := Exa.start ev_a_PERMISSION_DENIED g91
  have S_a_PERMISSION_DENIED : Sta s s.heap "com/example/callee/callee/model/CanonicalCode" "PERMISSION_DENIED" "Lcom/example/callee/callee/model/CanonicalCode;" (.ref a_PERMISSION_DENIED) := Sta.start ev_a_PERMISSION_DENIED (Or.inr ⟨(hw _ (List.mem_of_getElem? (i := 6) rfl)), (hw _ (List.mem_of_getElem? (i := 48) rfl))⟩)
  obtain ⟨a_DEADLINE_EXCEEDED, ev_a_DEADLINE_EXCEEDED⟩ := exa_v g97
  have E_a_DEADLINE_EXCEEDED : Exa s s.heap a_DEADLINE_EXCEEDED "com/example/callee/callee/model/CanonicalCode" := Exa.start ev_a_DEADLINE_EXCEEDED g97
  have S_a_DEADLINE_EXCEEDED : Sta s s.heap "com/example/callee/callee/model/CanonicalCode" "DEADLINE_EXCEEDED" "Lcom/example/callee/callee/model/CanonicalCode;" (.ref a_DEADLINE_EXCEEDED) := Sta.start ev_a_DEADLINE_EXCEEDED (Or.inr ⟨(hw _ (List.mem_of_getElem? (i := 6) rfl)), (hw _ (List.mem_of_getElem? (i := 58) rfl))⟩)
  obtain ⟨a_DATA_LOSS, ev_a_DATA_LOSS⟩ := exa_v g103
  have E_a_DATA_LOSS : Exa s s.heap a_DATA_LOSS "com/example/callee/callee/model/CanonicalCode" := Exa.start ev_a_DATA_LOSS g103
  have S_a_DATA_LOSS : Sta s s.heap "com/example/callee/callee/model/CanonicalCode" "DATA_LOSS" "Lcom/example/callee/callee/model/CanonicalCode;" (.ref a_DATA_LOSS) := Sta.start ev_a_DATA_LOSS (Or.inr ⟨(hw _ (List.mem_of_getElem? (i := 6) rfl)), (hw _ (List.mem_of_getElem? (i := 61) rfl))⟩)
  have F_a_INVALID_ARGUMENT_httpStatus : Fld s s.heap a_INVALID_ARGUMENT "com/example/callee/callee/model/CanonicalCode" "httpStatus" "I" (.int (400 : Int32)) := Fld.start ((fld_at ev_a_INVALID_ARGUMENT).symm.trans (own_eqi g9))
  have F_a_UNAUTHENTICATED_httpStatus : Fld s s.heap a_UNAUTHENTICATED "com/example/callee/callee/model/CanonicalCode" "httpStatus" "I" (.int (401 : Int32)) := Fld.start ((fld_at ev_a_UNAUTHENTICATED).symm.trans (own_eqi g13))
  have F_a_UNAUTHENTICATED_ordinal : Fld s s.heap a_UNAUTHENTICATED "java/lang/Enum" "ordinal" "I" (.int (16 : Int32)) := Fld.start ((fld_at ev_a_UNAUTHENTICATED).symm.trans (own_eqi g17))
  have F_a_OK_ordinal : Fld s s.heap a_OK "java/lang/Enum" "ordinal" "I" (.int (0 : Int32)) := Fld.start ((fld_at ev_a_OK).symm.trans (own_eqi g19))
  have F_a_UNKNOWN_ordinal : Fld s s.heap a_UNKNOWN "java/lang/Enum" "ordinal" "I" (.int (2 : Int32)) := Fld.start ((fld_at ev_a_UNKNOWN).symm.trans (own_eqi g23))
  have F_a_INVALID_ARGUMENT_ordinal : Fld s s.heap a_INVALID_ARGUMENT "java/lang/Enum" "ordinal" "I" (.int (3 : Int32)) := Fld.start ((fld_at ev_a_INVALID_ARGUMENT).symm.trans (own_eqi g25))
  have F_a_UNIMPLEMENTED_httpStatus : Fld s s.heap a_UNIMPLEMENTED "com/example/callee/callee/model/CanonicalCode" "httpStatus" "I" (.int (501 : Int32)) := Fld.start ((fld_at ev_a_UNIMPLEMENTED).symm.trans (own_eqi g29))
  have F_a_UNKNOWN_httpStatus : Fld s s.heap a_UNKNOWN "com/example/callee/callee/model/CanonicalCode" "httpStatus" "I" (.int (500 : Int32)) := Fld.start ((fld_at ev_a_UNKNOWN).symm.trans (own_eqi g31))
  have F_a_UNIMPLEMENTED_ordinal : Fld s s.heap a_UNIMPLEMENTED "java/lang/Enum" "ordinal" "I" (.int (12 : Int32)) := Fld.start ((fld_at ev_a_UNIMPLEMENTED).symm.trans (own_eqi g33))
  have F_a_ALREADY_EXISTS_httpStatus : Fld s s.heap a_ALREADY_EXISTS "com/example/callee/callee/model/CanonicalCode" "httpStatus" "I" (.int (409 : Int32)) := Fld.start ((fld_at ev_a_ALREADY_EXISTS).symm.trans (own_eqi g37))
  have F_a_ALREADY_EXISTS_ordinal : Fld s s.heap a_ALREADY_EXISTS "java/lang/Enum" "ordinal" "I" (.int (6 : Int32)) := Fld.start ((fld_at ev_a_ALREADY_EXISTS).symm.trans (own_eqi g39))
  have F_a_ABORTED_httpStatus : Fld s s.heap a_ABORTED "com/example/callee/callee/model/CanonicalCode" "httpStatus" "I" (.int (409 : Int32)) := Fld.start ((fld_at ev_a_ABORTED).symm.trans (own_eqi g43))
  have F_a_ABORTED_ordinal : Fld s s.heap a_ABORTED "java/lang/Enum" "ordinal" "I" (.int (10 : Int32)) := Fld.start ((fld_at ev_a_ABORTED).symm.trans (own_eqi g45))
  have F_a_OK_httpStatus : Fld s s.heap a_OK "com/example/callee/callee/model/CanonicalCode" "httpStatus" "I" (.int (200 : Int32)) := Fld.start ((fld_at ev_a_OK).symm.trans (own_eqi g47))
  have F_a_FAILED_PRECONDITION_httpStatus : Fld s s.heap a_FAILED_PRECONDITION "com/example/callee/callee/model/CanonicalCode" "httpStatus" "I" (.int (400 : Int32)) := Fld.start ((fld_at ev_a_FAILED_PRECONDITION).symm.trans (own_eqi g51))
  have F_a_FAILED_PRECONDITION_ordinal : Fld s s.heap a_FAILED_PRECONDITION "java/lang/Enum" "ordinal" "I" (.int (9 : Int32)) := Fld.start ((fld_at ev_a_FAILED_PRECONDITION).symm.trans (own_eqi g53))
  have F_a_OUT_OF_RANGE_httpStatus : Fld s s.heap a_OUT_OF_RANGE "com/example/callee/callee/model/CanonicalCode" "httpStatus" "I" (.int (400 : Int32)) := Fld.start ((fld_at ev_a_OUT_OF_RANGE).symm.trans (own_eqi g57))
  have F_a_OUT_OF_RANGE_ordinal : Fld s s.heap a_OUT_OF_RANGE "java/lang/Enum" "ordinal" "I" (.int (11 : Int32)) := Fld.start ((fld_at ev_a_OUT_OF_RANGE).symm.trans (own_eqi g59))
  have F_a_UNAVAILABLE_httpStatus : Fld s s.heap a_UNAVAILABLE "com/example/callee/callee/model/CanonicalCode" "httpStatus" "I" (.int (503 : Int32)) := Fld.start ((fld_at ev_a_UNAVAILABLE).symm.trans (own_eqi g63))
  have F_a_UNAVAILABLE_ordinal : Fld s s.heap a_UNAVAILABLE "java/lang/Enum" "ordinal" "I" (.int (14 : Int32)) := Fld.start ((fld_at ev_a_UNAVAILABLE).symm.trans (own_eqi g65))
  have F_a_NOT_FOUND_httpStatus : Fld s s.heap a_NOT_FOUND "com/example/callee/callee/model/CanonicalCode" "httpStatus" "I" (.int (404 : Int32)) := Fld.start ((fld_at ev_a_NOT_FOUND).symm.trans (own_eqi g69))
  have F_a_NOT_FOUND_ordinal : Fld s s.heap a_NOT_FOUND "java/lang/Enum" "ordinal" "I" (.int (5 : Int32)) := Fld.start ((fld_at ev_a_NOT_FOUND).symm.trans (own_eqi g71))
  have F_a_INTERNAL_httpStatus : Fld s s.heap a_INTERNAL "com/example/callee/callee/model/CanonicalCode" "httpStatus" "I" (.int (500 : Int32)) := Fld.start ((fld_at ev_a_INTERNAL).symm.trans (own_eqi g75))
  have F_a_INTERNAL_ordinal : Fld s s.heap a_INTERNAL "java/lang/Enum" "ordinal" "I" (.int (13 : Int32)) := Fld.start ((fld_at ev_a_INTERNAL).symm.trans (own_eqi g77))
  have F_a_CANCELLED_httpStatus : Fld s s.heap a_CANCELLED "com/example/callee/callee/model/CanonicalCode" "httpStatus" "I" (.int (499 : Int32)) := Fld.start ((fld_at ev_a_CANCELLED).symm.trans (own_eqi g81))
  have F_a_CANCELLED_ordinal : Fld s s.heap a_CANCELLED "java/lang/Enum" "ordinal" "I" (.int (1 : Int32)) := Fld.start ((fld_at ev_a_CANCELLED).symm.trans (own_eqi g83))
  have F_a_RESOURCE_EXHAUSTED_httpStatus : Fld s s.heap a_RESOURCE_EXHAUSTED "com/example/callee/callee/model/CanonicalCode" "httpStatus" "I" (.int (429 : Int32)) := Fld.start ((fld_at ev_a_RESOURCE_EXHAUSTED).symm.trans (own_eqi g87))
  have F_a_RESOURCE_EXHAUSTED_ordinal : Fld s s.heap a_RESOURCE_EXHAUSTED "java/lang/Enum" "ordinal" "I" (.int (8 : Int32)) := Fld.start ((fld_at ev_a_RESOURCE_EXHAUSTED).symm.trans (own_eqi g89))
  have F_a_PERMISSION_DENIED_httpStatus : Fld s s.heap a_PERMISSION_DENIED "com/example/callee/callee/model/CanonicalCode" "httpStatus" "I" (.int (403 : Int32)) := Fld.start ((fld_at ev_a_PERMISSION_DENIED).symm.trans (own_eqi g93))
  have F_a_PERMISSION_DENIED_ordinal : Fld s s.heap a_PERMISSION_DENIED "java/lang/Enum" "ordinal" "I" (.int (7 : Int32)) := Fld.start ((fld_at ev_a_PERMISSION_DENIED).symm.trans (own_eqi g95))
  have F_a_DEADLINE_EXCEEDED_httpStatus : Fld s s.heap a_DEADLINE_EXCEEDED "com/example/callee/callee/model/CanonicalCode" "httpStatus" "I" (.int (504 : Int32)) := Fld.start ((fld_at ev_a_DEADLINE_EXCEEDED).symm.trans (own_eqi g99))
  have F_a_DEADLINE_EXCEEDED_ordinal : Fld s s.heap a_DEADLINE_EXCEEDED "java/lang/Enum" "ordinal" "I" (.int (4 : Int32)) := Fld.start ((fld_at ev_a_DEADLINE_EXCEEDED).symm.trans (own_eqi g101))
  have F_a_DATA_LOSS_httpStatus : Fld s s.heap a_DATA_LOSS "com/example/callee/callee/model/CanonicalCode" "httpStatus" "I" (.int (500 : Int32)) := Fld.start ((fld_at ev_a_DATA_LOSS).symm.trans (own_eqi g105))
  have F_a_DATA_LOSS_ordinal : Fld s s.heap a_DATA_LOSS "java/lang/Enum" "ordinal" "I" (.int (15 : Int32)) := Fld.start ((fld_at ev_a_DATA_LOSS).symm.trans (own_eqi g106))
  obtain ⟨K, hK⟩ : ∃ K, K = ((i1 &&& (2147483647 : Int32)) % (17 : Int32)) := ⟨_, rfl⟩
  have key1 : ∃ (r1 : Addr) (v1 : Int32), Exa s s.heap r1 "com/example/callee/callee/model/CanonicalCode" ∧ Fld s s.heap r1 "com/example/callee/callee/model/CanonicalCode" "httpStatus" "I" (.int v1) ∧ ((K = (0 : Int32) → r1 = a_OK) ∧ (K = (1 : Int32) → r1 = a_CANCELLED) ∧ (K = (2 : Int32) → r1 = a_UNKNOWN) ∧ (K = (3 : Int32) → r1 = a_INVALID_ARGUMENT) ∧ (K = (4 : Int32) → r1 = a_DEADLINE_EXCEEDED) ∧ (K = (5 : Int32) → r1 = a_NOT_FOUND) ∧ (K = (6 : Int32) → r1 = a_ALREADY_EXISTS) ∧ (K = (7 : Int32) → r1 = a_PERMISSION_DENIED) ∧ (K = (8 : Int32) → r1 = a_RESOURCE_EXHAUSTED) ∧ (K = (9 : Int32) → r1 = a_FAILED_PRECONDITION) ∧ (K = (10 : Int32) → r1 = a_ABORTED) ∧ (K = (11 : Int32) → r1 = a_OUT_OF_RANGE) ∧ (K = (12 : Int32) → r1 = a_UNIMPLEMENTED) ∧ (K = (13 : Int32) → r1 = a_INTERNAL) ∧ (K = (14 : Int32) → r1 = a_UNAVAILABLE) ∧ (K = (15 : Int32) → r1 = a_DATA_LOSS) ∧ (¬ (K = (0 : Int32)) → ¬ (K = (1 : Int32)) → ¬ (K = (2 : Int32)) → ¬ (K = (3 : Int32)) → ¬ (K = (4 : Int32)) → ¬ (K = (5 : Int32)) → ¬ (K = (6 : Int32)) → ¬ (K = (7 : Int32)) → ¬ (K = (8 : Int32)) → ¬ (K = (9 : Int32)) → ¬ (K = (10 : Int32)) → ¬ (K = (11 : Int32)) → ¬ (K = (12 : Int32)) → ¬ (K = (13 : Int32)) → ¬ (K = (14 : Int32)) → ¬ (K = (15 : Int32)) → r1 = a_UNAUTHENTICATED)) ∧ (r1 = a_OK ∨ v1 = (400 : Int32) ∨ v1 = (401 : Int32) ∨ v1 = (403 : Int32) ∨ v1 = (404 : Int32) ∨ v1 = (409 : Int32) ∨ v1 = (429 : Int32) ∨ v1 = (499 : Int32) ∨ v1 = (500 : Int32) ∨ v1 = (501 : Int32) ∨ v1 = (503 : Int32) ∨ v1 = (504 : Int32)) := by
    by_cases c0 : K = (0 : Int32)
    · exact ⟨a_OK, (200 : Int32), E_a_OK, F_a_OK_httpStatus, ⟨fun _ => rfl, fun h => absurd (c0.symm.trans h) (by decide), fun h => absurd (c0.symm.trans h) (by decide), fun h => absurd (c0.symm.trans h) (by decide), fun h => absurd (c0.symm.trans h) (by decide), fun h => absurd (c0.symm.trans h) (by decide), fun h => absurd (c0.symm.trans h) (by decide), fun h => absurd (c0.symm.trans h) (by decide), fun h => absurd (c0.symm.trans h) (by decide), fun h => absurd (c0.symm.trans h) (by decide), fun h => absurd (c0.symm.trans h) (by decide), fun h => absurd (c0.symm.trans h) (by decide), fun h => absurd (c0.symm.trans h) (by decide), fun h => absurd (c0.symm.trans h) (by decide), fun h => absurd (c0.symm.trans h) (by decide), fun h => absurd (c0.symm.trans h) (by decide), fun h0 h1 h2 h3 h4 h5 h6 h7 h8 h9 h10 h11 h12 h13 h14 h15 => absurd c0 h0⟩, Or.inl rfl⟩
    by_cases c1 : K = (1 : Int32)
    · exact ⟨a_CANCELLED, (499 : Int32), E_a_CANCELLED, F_a_CANCELLED_httpStatus, ⟨fun h => absurd (c1.symm.trans h) (by decide), fun _ => rfl, fun h => absurd (c1.symm.trans h) (by decide), fun h => absurd (c1.symm.trans h) (by decide), fun h => absurd (c1.symm.trans h) (by decide), fun h => absurd (c1.symm.trans h) (by decide), fun h => absurd (c1.symm.trans h) (by decide), fun h => absurd (c1.symm.trans h) (by decide), fun h => absurd (c1.symm.trans h) (by decide), fun h => absurd (c1.symm.trans h) (by decide), fun h => absurd (c1.symm.trans h) (by decide), fun h => absurd (c1.symm.trans h) (by decide), fun h => absurd (c1.symm.trans h) (by decide), fun h => absurd (c1.symm.trans h) (by decide), fun h => absurd (c1.symm.trans h) (by decide), fun h => absurd (c1.symm.trans h) (by decide), fun h0 h1 h2 h3 h4 h5 h6 h7 h8 h9 h10 h11 h12 h13 h14 h15 => absurd c1 h1⟩, Or.inr (Or.inr (Or.inr (Or.inr (Or.inr (Or.inr (Or.inr (Or.inl rfl)))))))⟩
    by_cases c2 : K = (2 : Int32)
    · exact ⟨a_UNKNOWN, (500 : Int32), E_a_UNKNOWN, F_a_UNKNOWN_httpStatus, ⟨fun h => absurd (c2.symm.trans h) (by decide), fun h => absurd (c2.symm.trans h) (by decide), fun _ => rfl, fun h => absurd (c2.symm.trans h) (by decide), fun h => absurd (c2.symm.trans h) (by decide), fun h => absurd (c2.symm.trans h) (by decide), fun h => absurd (c2.symm.trans h) (by decide), fun h => absurd (c2.symm.trans h) (by decide), fun h => absurd (c2.symm.trans h) (by decide), fun h => absurd (c2.symm.trans h) (by decide), fun h => absurd (c2.symm.trans h) (by decide), fun h => absurd (c2.symm.trans h) (by decide), fun h => absurd (c2.symm.trans h) (by decide), fun h => absurd (c2.symm.trans h) (by decide), fun h => absurd (c2.symm.trans h) (by decide), fun h => absurd (c2.symm.trans h) (by decide), fun h0 h1 h2 h3 h4 h5 h6 h7 h8 h9 h10 h11 h12 h13 h14 h15 => absurd c2 h2⟩, Or.inr (Or.inr (Or.inr (Or.inr (Or.inr (Or.inr (Or.inr (Or.inr (Or.inl rfl))))))))⟩
    by_cases c3 : K = (3 : Int32)
    · exact ⟨a_INVALID_ARGUMENT, (400 : Int32), E_a_INVALID_ARGUMENT, F_a_INVALID_ARGUMENT_httpStatus, ⟨fun h => absurd (c3.symm.trans h) (by decide), fun h => absurd (c3.symm.trans h) (by decide), fun h => absurd (c3.symm.trans h) (by decide), fun _ => rfl, fun h => absurd (c3.symm.trans h) (by decide), fun h => absurd (c3.symm.trans h) (by decide), fun h => absurd (c3.symm.trans h) (by decide), fun h => absurd (c3.symm.trans h) (by decide), fun h => absurd (c3.symm.trans h) (by decide), fun h => absurd (c3.symm.trans h) (by decide), fun h => absurd (c3.symm.trans h) (by decide), fun h => absurd (c3.symm.trans h) (by decide), fun h => absurd (c3.symm.trans h) (by decide), fun h => absurd (c3.symm.trans h) (by decide), fun h => absurd (c3.symm.trans h) (by decide), fun h => absurd (c3.symm.trans h) (by decide), fun h0 h1 h2 h3 h4 h5 h6 h7 h8 h9 h10 h11 h12 h13 h14 h15 => absurd c3 h3⟩, Or.inr (Or.inl rfl)⟩
    by_cases c4 : K = (4 : Int32)
    · exact ⟨a_DEADLINE_EXCEEDED, (504 : Int32), E_a_DEADLINE_EXCEEDED, F_a_DEADLINE_EXCEEDED_httpStatus, ⟨fun h => absurd (c4.symm.trans h) (by decide), fun h => absurd (c4.symm.trans h) (by decide), fun h => absurd (c4.symm.trans h) (by decide), fun h => absurd (c4.symm.trans h) (by decide), fun _ => rfl, fun h => absurd (c4.symm.trans h) (by decide), fun h => absurd (c4.symm.trans h) (by decide), fun h => absurd (c4.symm.trans h) (by decide), fun h => absurd (c4.symm.trans h) (by decide), fun h => absurd (c4.symm.trans h) (by decide), fun h => absurd (c4.symm.trans h) (by decide), fun h => absurd (c4.symm.trans h) (by decide), fun h => absurd (c4.symm.trans h) (by decide), fun h => absurd (c4.symm.trans h) (by decide), fun h => absurd (c4.symm.trans h) (by decide), fun h => absurd (c4.symm.trans h) (by decide), fun h0 h1 h2 h3 h4 h5 h6 h7 h8 h9 h10 h11 h12 h13 h14 h15 => absurd c4 h4⟩, Or.inr (Or.inr (Or.inr (Or.inr (Or.inr (Or.inr (Or.inr (Or.inr (Or.inr (Or.inr (Or.inr rfl))))))))))⟩
    by_cases c5 : K = (5 : Int32)
    · exact ⟨a_NOT_FOUND, (404 : Int32), E_a_NOT_FOUND, F_a_NOT_FOUND_httpStatus, ⟨fun h => absurd (c5.symm.trans h) (by decide), fun h => absurd (c5.symm.trans h) (by decide), fun h => absurd (c5.symm.trans h) (by decide), fun h => absurd (c5.symm.trans h) (by decide), fun h => absurd (c5.symm.trans h) (by decide), fun _ => rfl, fun h => absurd (c5.symm.trans h) (by decide), fun h => absurd (c5.symm.trans h) (by decide), fun h => absurd (c5.symm.trans h) (by decide), fun h => absurd (c5.symm.trans h) (by decide), fun h => absurd (c5.symm.trans h) (by decide), fun h => absurd (c5.symm.trans h) (by decide), fun h => absurd (c5.symm.trans h) (by decide), fun h => absurd (c5.symm.trans h) (by decide), fun h => absurd (c5.symm.trans h) (by decide), fun h => absurd (c5.symm.trans h) (by decide), fun h0 h1 h2 h3 h4 h5 h6 h7 h8 h9 h10 h11 h12 h13 h14 h15 => absurd c5 h5⟩, Or.inr (Or.inr (Or.inr (Or.inr (Or.inl rfl))))⟩
    by_cases c6 : K = (6 : Int32)
    · exact ⟨a_ALREADY_EXISTS, (409 : Int32), E_a_ALREADY_EXISTS, F_a_ALREADY_EXISTS_httpStatus, ⟨fun h => absurd (c6.symm.trans h) (by decide), fun h => absurd (c6.symm.trans h) (by decide), fun h => absurd (c6.symm.trans h) (by decide), fun h => absurd (c6.symm.trans h) (by decide), fun h => absurd (c6.symm.trans h) (by decide), fun h => absurd (c6.symm.trans h) (by decide), fun _ => rfl, fun h => absurd (c6.symm.trans h) (by decide), fun h => absurd (c6.symm.trans h) (by decide), fun h => absurd (c6.symm.trans h) (by decide), fun h => absurd (c6.symm.trans h) (by decide), fun h => absurd (c6.symm.trans h) (by decide), fun h => absurd (c6.symm.trans h) (by decide), fun h => absurd (c6.symm.trans h) (by decide), fun h => absurd (c6.symm.trans h) (by decide), fun h => absurd (c6.symm.trans h) (by decide), fun h0 h1 h2 h3 h4 h5 h6 h7 h8 h9 h10 h11 h12 h13 h14 h15 => absurd c6 h6⟩, Or.inr (Or.inr (Or.inr (Or.inr (Or.inr (Or.inl rfl)))))⟩
    by_cases c7 : K = (7 : Int32)
    · exact ⟨a_PERMISSION_DENIED, (403 : Int32), E_a_PERMISSION_DENIED, F_a_PERMISSION_DENIED_httpStatus, ⟨fun h => absurd (c7.symm.trans h) (by decide), fun h => absurd (c7.symm.trans h) (by decide), fun h => absurd (c7.symm.trans h) (by decide), fun h => absurd (c7.symm.trans h) (by decide), fun h => absurd (c7.symm.trans h) (by decide), fun h => absurd (c7.symm.trans h) (by decide), fun h => absurd (c7.symm.trans h) (by decide), fun _ => rfl, fun h => absurd (c7.symm.trans h) (by decide), fun h => absurd (c7.symm.trans h) (by decide), fun h => absurd (c7.symm.trans h) (by decide), fun h => absurd (c7.symm.trans h) (by decide), fun h => absurd (c7.symm.trans h) (by decide), fun h => absurd (c7.symm.trans h) (by decide), fun h => absurd (c7.symm.trans h) (by decide), fun h => absurd (c7.symm.trans h) (by decide), fun h0 h1 h2 h3 h4 h5 h6 h7 h8 h9 h10 h11 h12 h13 h14 h15 => absurd c7 h7⟩, Or.inr (Or.inr (Or.inr (Or.inl rfl)))⟩
    by_cases c8 : K = (8 : Int32)
    · exact ⟨a_RESOURCE_EXHAUSTED, (429 : Int32), E_a_RESOURCE_EXHAUSTED, F_a_RESOURCE_EXHAUSTED_httpStatus, ⟨fun h => absurd (c8.symm.trans h) (by decide), fun h => absurd (c8.symm.trans h) (by decide), fun h => absurd (c8.symm.trans h) (by decide), fun h => absurd (c8.symm.trans h) (by decide), fun h => absurd (c8.symm.trans h) (by decide), fun h => absurd (c8.symm.trans h) (by decide), fun h => absurd (c8.symm.trans h) (by decide), fun h => absurd (c8.symm.trans h) (by decide), fun _ => rfl, fun h => absurd (c8.symm.trans h) (by decide), fun h => absurd (c8.symm.trans h) (by decide), fun h => absurd (c8.symm.trans h) (by decide), fun h => absurd (c8.symm.trans h) (by decide), fun h => absurd (c8.symm.trans h) (by decide), fun h => absurd (c8.symm.trans h) (by decide), fun h => absurd (c8.symm.trans h) (by decide), fun h0 h1 h2 h3 h4 h5 h6 h7 h8 h9 h10 h11 h12 h13 h14 h15 => absurd c8 h8⟩, Or.inr (Or.inr (Or.inr (Or.inr (Or.inr (Or.inr (Or.inl rfl))))))⟩
    by_cases c9 : K = (9 : Int32)
    · exact ⟨a_FAILED_PRECONDITION, (400 : Int32), E_a_FAILED_PRECONDITION, F_a_FAILED_PRECONDITION_httpStatus, ⟨fun h => absurd (c9.symm.trans h) (by decide), fun h => absurd (c9.symm.trans h) (by decide), fun h => absurd (c9.symm.trans h) (by decide), fun h => absurd (c9.symm.trans h) (by decide), fun h => absurd (c9.symm.trans h) (by decide), fun h => absurd (c9.symm.trans h) (by decide), fun h => absurd (c9.symm.trans h) (by decide), fun h => absurd (c9.symm.trans h) (by decide), fun h => absurd (c9.symm.trans h) (by decide), fun _ => rfl, fun h => absurd (c9.symm.trans h) (by decide), fun h => absurd (c9.symm.trans h) (by decide), fun h => absurd (c9.symm.trans h) (by decide), fun h => absurd (c9.symm.trans h) (by decide), fun h => absurd (c9.symm.trans h) (by decide), fun h => absurd (c9.symm.trans h) (by decide), fun h0 h1 h2 h3 h4 h5 h6 h7 h8 h9 h10 h11 h12 h13 h14 h15 => absurd c9 h9⟩, Or.inr (Or.inl rfl)⟩
    by_cases c10 : K = (10 : Int32)
    · exact ⟨a_ABORTED, (409 : Int32), E_a_ABORTED, F_a_ABORTED_httpStatus, ⟨fun h => absurd (c10.symm.trans h) (by decide), fun h => absurd (c10.symm.trans h) (by decide), fun h => absurd (c10.symm.trans h) (by decide), fun h => absurd (c10.symm.trans h) (by decide), fun h => absurd (c10.symm.trans h) (by decide), fun h => absurd (c10.symm.trans h) (by decide), fun h => absurd (c10.symm.trans h) (by decide), fun h => absurd (c10.symm.trans h) (by decide), fun h => absurd (c10.symm.trans h) (by decide), fun h => absurd (c10.symm.trans h) (by decide), fun _ => rfl, fun h => absurd (c10.symm.trans h) (by decide), fun h => absurd (c10.symm.trans h) (by decide), fun h => absurd (c10.symm.trans h) (by decide), fun h => absurd (c10.symm.trans h) (by decide), fun h => absurd (c10.symm.trans h) (by decide), fun h0 h1 h2 h3 h4 h5 h6 h7 h8 h9 h10 h11 h12 h13 h14 h15 => absurd c10 h10⟩, Or.inr (Or.inr (Or.inr (Or.inr (Or.inr (Or.inl rfl)))))⟩
    by_cases c11 : K = (11 : Int32)
    · exact ⟨a_OUT_OF_RANGE, (400 : Int32), E_a_OUT_OF_RANGE, F_a_OUT_OF_RANGE_httpStatus, ⟨fun h => absurd (c11.symm.trans h) (by decide), fun h => absurd (c11.symm.trans h) (by decide), fun h => absurd (c11.symm.trans h) (by decide), fun h => absurd (c11.symm.trans h) (by decide), fun h => absurd (c11.symm.trans h) (by decide), fun h => absurd (c11.symm.trans h) (by decide), fun h => absurd (c11.symm.trans h) (by decide), fun h => absurd (c11.symm.trans h) (by decide), fun h => absurd (c11.symm.trans h) (by decide), fun h => absurd (c11.symm.trans h) (by decide), fun h => absurd (c11.symm.trans h) (by decide), fun _ => rfl, fun h => absurd (c11.symm.trans h) (by decide), fun h => absurd (c11.symm.trans h) (by decide), fun h => absurd (c11.symm.trans h) (by decide), fun h => absurd (c11.symm.trans h) (by decide), fun h0 h1 h2 h3 h4 h5 h6 h7 h8 h9 h10 h11 h12 h13 h14 h15 => absurd c11 h11⟩, Or.inr (Or.inl rfl)⟩
    by_cases c12 : K = (12 : Int32)
    · exact ⟨a_UNIMPLEMENTED, (501 : Int32), E_a_UNIMPLEMENTED, F_a_UNIMPLEMENTED_httpStatus, ⟨fun h => absurd (c12.symm.trans h) (by decide), fun h => absurd (c12.symm.trans h) (by decide), fun h => absurd (c12.symm.trans h) (by decide), fun h => absurd (c12.symm.trans h) (by decide), fun h => absurd (c12.symm.trans h) (by decide), fun h => absurd (c12.symm.trans h) (by decide), fun h => absurd (c12.symm.trans h) (by decide), fun h => absurd (c12.symm.trans h) (by decide), fun h => absurd (c12.symm.trans h) (by decide), fun h => absurd (c12.symm.trans h) (by decide), fun h => absurd (c12.symm.trans h) (by decide), fun h => absurd (c12.symm.trans h) (by decide), fun _ => rfl, fun h => absurd (c12.symm.trans h) (by decide), fun h => absurd (c12.symm.trans h) (by decide), fun h => absurd (c12.symm.trans h) (by decide), fun h0 h1 h2 h3 h4 h5 h6 h7 h8 h9 h10 h11 h12 h13 h14 h15 => absurd c12 h12⟩, Or.inr (Or.inr (Or.inr (Or.inr (Or.inr (Or.inr (Or.inr (Or.inr (Or.inr (Or.inl rfl)))))))))⟩
    by_cases c13 : K = (13 : Int32)
    · exact ⟨a_INTERNAL, (500 : Int32), E_a_INTERNAL, F_a_INTERNAL_httpStatus, ⟨fun h => absurd (c13.symm.trans h) (by decide), fun h => absurd (c13.symm.trans h) (by decide), fun h => absurd (c13.symm.trans h) (by decide), fun h => absurd (c13.symm.trans h) (by decide), fun h => absurd (c13.symm.trans h) (by decide), fun h => absurd (c13.symm.trans h) (by decide), fun h => absurd (c13.symm.trans h) (by decide), fun h => absurd (c13.symm.trans h) (by decide), fun h => absurd (c13.symm.trans h) (by decide), fun h => absurd (c13.symm.trans h) (by decide), fun h => absurd (c13.symm.trans h) (by decide), fun h => absurd (c13.symm.trans h) (by decide), fun h => absurd (c13.symm.trans h) (by decide), fun _ => rfl, fun h => absurd (c13.symm.trans h) (by decide), fun h => absurd (c13.symm.trans h) (by decide), fun h0 h1 h2 h3 h4 h5 h6 h7 h8 h9 h10 h11 h12 h13 h14 h15 => absurd c13 h13⟩, Or.inr (Or.inr (Or.inr (Or.inr (Or.inr (Or.inr (Or.inr (Or.inr (Or.inl rfl))))))))⟩
    by_cases c14 : K = (14 : Int32)
    · exact ⟨a_UNAVAILABLE, (503 : Int32), E_a_UNAVAILABLE, F_a_UNAVAILABLE_httpStatus, ⟨fun h => absurd (c14.symm.trans h) (by decide), fun h => absurd (c14.symm.trans h) (by decide), fun h => absurd (c14.symm.trans h) (by decide), fun h => absurd (c14.symm.trans h) (by decide), fun h => absurd (c14.symm.trans h) (by decide), fun h => absurd (c14.symm.trans h) (by decide), fun h => absurd (c14.symm.trans h) (by decide), fun h => absurd (c14.symm.trans h) (by decide), fun h => absurd (c14.symm.trans h) (by decide), fun h => absurd (c14.symm.trans h) (by decide), fun h => absurd (c14.symm.trans h) (by decide), fun h => absurd (c14.symm.trans h) (by decide), fun h => absurd (c14.symm.trans h) (by decide), fun h => absurd (c14.symm.trans h) (by decide), fun _ => rfl, fun h => absurd (c14.symm.trans h) (by decide), fun h0 h1 h2 h3 h4 h5 h6 h7 h8 h9 h10 h11 h12 h13 h14 h15 => absurd c14 h14⟩, Or.inr (Or.inr (Or.inr (Or.inr (Or.inr (Or.inr (Or.inr (Or.inr (Or.inr (Or.inr (Or.inl rfl))))))))))⟩
    by_cases c15 : K = (15 : Int32)
    · exact ⟨a_DATA_LOSS, (500 : Int32), E_a_DATA_LOSS, F_a_DATA_LOSS_httpStatus, ⟨fun h => absurd (c15.symm.trans h) (by decide), fun h => absurd (c15.symm.trans h) (by decide), fun h => absurd (c15.symm.trans h) (by decide), fun h => absurd (c15.symm.trans h) (by decide), fun h => absurd (c15.symm.trans h) (by decide), fun h => absurd (c15.symm.trans h) (by decide), fun h => absurd (c15.symm.trans h) (by decide), fun h => absurd (c15.symm.trans h) (by decide), fun h => absurd (c15.symm.trans h) (by decide), fun h => absurd (c15.symm.trans h) (by decide), fun h => absurd (c15.symm.trans h) (by decide), fun h => absurd (c15.symm.trans h) (by decide), fun h => absurd (c15.symm.trans h) (by decide), fun h => absurd (c15.symm.trans h) (by decide), fun h => absurd (c15.symm.trans h) (by decide), fun _ => rfl, fun h0 h1 h2 h3 h4 h5 h6 h7 h8 h9 h10 h11 h12 h13 h14 h15 => absurd c15 h15⟩, Or.inr (Or.inr (Or.inr (Or.inr (Or.inr (Or.inr (Or.inr (Or.inr (Or.inl rfl))))))))⟩
    exact ⟨a_UNAUTHENTICATED, (401 : Int32), E_a_UNAUTHENTICATED, F_a_UNAUTHENTICATED_httpStatus, ⟨fun h => absurd h c0, fun h => absurd h c1, fun h => absurd h c2, fun h => absurd h c3, fun h => absurd h c4, fun h => absurd h c5, fun h => absurd h c6, fun h => absurd h c7, fun h => absurd h c8, fun h => absurd h c9, fun h => absurd h c10, fun h => absurd h c11, fun h => absurd h c12, fun h => absurd h c13, fun h => absurd h c14, fun h => absurd h c15, fun h0 h1 h2 h3 h4 h5 h6 h7 h8 h9 h10 h11 h12 h13 h14 h15 => rfl⟩, Or.inr (Or.inr (Or.inl rfl))⟩
  obtain ⟨r1, v1, Er, Fr1, hr1, hst⟩ := key1
  subst hK
  have key2 : ∀ t : Int32, ∃ (r2 : Addr) (v2 : Int32), Exa s s.heap r2 "com/example/callee/callee/model/CanonicalCode" ∧ Fld s s.heap r2 "com/example/callee/callee/model/CanonicalCode" "httpStatus" "I" (.int v2) ∧ ((t = (400 : Int32) → r2 = a_INVALID_ARGUMENT) ∧ (t = (401 : Int32) → r2 = a_UNAUTHENTICATED) ∧ (t = (403 : Int32) → r2 = a_PERMISSION_DENIED) ∧ (t = (404 : Int32) → r2 = a_NOT_FOUND) ∧ (t = (409 : Int32) → r2 = a_ABORTED) ∧ (t = (429 : Int32) → r2 = a_RESOURCE_EXHAUSTED) ∧ (t = (499 : Int32) → r2 = a_CANCELLED) ∧ (t = (500 : Int32) → r2 = a_INTERNAL) ∧ (t = (501 : Int32) → r2 = a_UNIMPLEMENTED) ∧ (t = (503 : Int32) → r2 = a_UNAVAILABLE) ∧ (t = (504 : Int32) → r2 = a_DEADLINE_EXCEEDED) ∧ (¬ (t = (400 : Int32)) → ¬ (t = (401 : Int32)) → ¬ (t = (403 : Int32)) → ¬ (t = (404 : Int32)) → ¬ (t = (409 : Int32)) → ¬ (t = (429 : Int32)) → ¬ (t = (499 : Int32)) → ¬ (t = (500 : Int32)) → ¬ (t = (501 : Int32)) → ¬ (t = (503 : Int32)) → ¬ (t = (504 : Int32)) → r2 = a_UNKNOWN)) ∧ ((¬ (r2 = a_OK)) ∧ (r2 = a_UNKNOWN ∨ v2 = t) ∧ ((t = (400 : Int32) ∨ t = (401 : Int32) ∨ t = (403 : Int32) ∨ t = (404 : Int32) ∨ t = (409 : Int32) ∨ t = (429 : Int32) ∨ t = (499 : Int32) ∨ t = (500 : Int32) ∨ t = (501 : Int32) ∨ t = (503 : Int32) ∨ t = (504 : Int32)) → ¬ (r2 = a_UNKNOWN) ∧ v2 = t) ∧ (t = (400 : Int32) → r2 = a_INVALID_ARGUMENT) ∧ (t = (409 : Int32) → r2 = a_ABORTED) ∧ (t = (500 : Int32) → r2 = a_INTERNAL)) := by
    intro t
    by_cases c0 : t = (400 : Int32)
    · exact ⟨a_INVALID_ARGUMENT, (400 : Int32), E_a_INVALID_ARGUMENT, F_a_INVALID_ARGUMENT_httpStatus, ⟨fun _ => rfl, fun h => absurd (c0.symm.trans h) (by decide), fun h => absurd (c0.symm.trans h) (by decide), fun h => absurd (c0.symm.trans h) (by decide), fun h => absurd (c0.symm.trans h) (by decide), fun h => absurd (c0.symm.trans h) (by decide), fun h => absurd (c0.symm.trans h) (by decide), fun h => absurd (c0.symm.trans h) (by decide), fun h => absurd (c0.symm.trans h) (by decide), fun h => absurd (c0.symm.trans h) (by decide), fun h => absurd (c0.symm.trans h) (by decide), fun h0 h1 h2 h3 h4 h5 h6 h7 h8 h9 h10 => absurd c0 h0⟩, ⟨(Fld.ne F_a_INVALID_ARGUMENT_ordinal F_a_OK_ordinal (by decide)), Or.inr c0.symm, fun _ => ⟨(Fld.ne F_a_INVALID_ARGUMENT_ordinal F_a_UNKNOWN_ordinal (by decide)), c0.symm⟩, fun _ => rfl, fun h => absurd (c0.symm.trans h) (by decide), fun h => absurd (c0.symm.trans h) (by decide)⟩⟩
    by_cases c1 : t = (401 : Int32)
    · exact ⟨a_UNAUTHENTICATED, (401 : Int32), E_a_UNAUTHENTICATED, F_a_UNAUTHENTICATED_httpStatus, ⟨fun h => absurd (c1.symm.trans h) (by decide), fun _ => rfl, fun h => absurd (c1.symm.trans h) (by decide), fun h => absurd (c1.symm.trans h) (by decide), fun h => absurd (c1.symm.trans h) (by decide), fun h => absurd (c1.symm.trans h) (by decide), fun h => absurd (c1.symm.trans h) (by decide), fun h => absurd (c1.symm.trans h) (by decide), fun h => absurd (c1.symm.trans h) (by decide), fun h => absurd (c1.symm.trans h) (by decide), fun h => absurd (c1.symm.trans h) (by decide), fun h0 h1 h2 h3 h4 h5 h6 h7 h8 h9 h10 => absurd c1 h1⟩, ⟨(Fld.ne F_a_UNAUTHENTICATED_ordinal F_a_OK_ordinal (by decide)), Or.inr c1.symm, fun _ => ⟨(Fld.ne F_a_UNAUTHENTICATED_ordinal F_a_UNKNOWN_ordinal (by decide)), c1.symm⟩, fun h => absurd (c1.symm.trans h) (by decide), fun h => absurd (c1.symm.trans h) (by decide), fun h => absurd (c1.symm.trans h) (by decide)⟩⟩
    by_cases c2 : t = (403 : Int32)
    · exact ⟨a_PERMISSION_DENIED, (403 : Int32), E_a_PERMISSION_DENIED, F_a_PERMISSION_DENIED_httpStatus, ⟨fun h => absurd (c2.symm.trans h) (by decide), fun h => absurd (c2.symm.trans h) (by decide), fun _ => rfl, fun h => absurd (c2.symm.trans h) (by decide), fun h => absurd (c2.symm.trans h) (by decide), fun h => absurd (c2.symm.trans h) (by decide), fun h => absurd (c2.symm.trans h) (by decide), fun h => absurd (c2.symm.trans h) (by decide), fun h => absurd (c2.symm.trans h) (by decide), fun h => absurd (c2.symm.trans h) (by decide), fun h => absurd (c2.symm.trans h) (by decide), fun h0 h1 h2 h3 h4 h5 h6 h7 h8 h9 h10 => absurd c2 h2⟩, ⟨(Fld.ne F_a_PERMISSION_DENIED_ordinal F_a_OK_ordinal (by decide)), Or.inr c2.symm, fun _ => ⟨(Fld.ne F_a_PERMISSION_DENIED_ordinal F_a_UNKNOWN_ordinal (by decide)), c2.symm⟩, fun h => absurd (c2.symm.trans h) (by decide), fun h => absurd (c2.symm.trans h) (by decide), fun h => absurd (c2.symm.trans h) (by decide)⟩⟩
    by_cases c3 : t = (404 : Int32)
    · exact ⟨a_NOT_FOUND, (404 : Int32), E_a_NOT_FOUND, F_a_NOT_FOUND_httpStatus, ⟨fun h => absurd (c3.symm.trans h) (by decide), fun h => absurd (c3.symm.trans h) (by decide), fun h => absurd (c3.symm.trans h) (by decide), fun _ => rfl, fun h => absurd (c3.symm.trans h) (by decide), fun h => absurd (c3.symm.trans h) (by decide), fun h => absurd (c3.symm.trans h) (by decide), fun h => absurd (c3.symm.trans h) (by decide), fun h => absurd (c3.symm.trans h) (by decide), fun h => absurd (c3.symm.trans h) (by decide), fun h => absurd (c3.symm.trans h) (by decide), fun h0 h1 h2 h3 h4 h5 h6 h7 h8 h9 h10 => absurd c3 h3⟩, ⟨(Fld.ne F_a_NOT_FOUND_ordinal F_a_OK_ordinal (by decide)), Or.inr c3.symm, fun _ => ⟨(Fld.ne F_a_NOT_FOUND_ordinal F_a_UNKNOWN_ordinal (by decide)), c3.symm⟩, fun h => absurd (c3.symm.trans h) (by decide), fun h => absurd (c3.symm.trans h) (by decide), fun h => absurd (c3.symm.trans h) (by decide)⟩⟩
    by_cases c4 : t = (409 : Int32)
    · exact ⟨a_ABORTED, (409 : Int32), E_a_ABORTED, F_a_ABORTED_httpStatus, ⟨fun h => absurd (c4.symm.trans h) (by decide), fun h => absurd (c4.symm.trans h) (by decide), fun h => absurd (c4.symm.trans h) (by decide), fun h => absurd (c4.symm.trans h) (by decide), fun _ => rfl, fun h => absurd (c4.symm.trans h) (by decide), fun h => absurd (c4.symm.trans h) (by decide), fun h => absurd (c4.symm.trans h) (by decide), fun h => absurd (c4.symm.trans h) (by decide), fun h => absurd (c4.symm.trans h) (by decide), fun h => absurd (c4.symm.trans h) (by decide), fun h0 h1 h2 h3 h4 h5 h6 h7 h8 h9 h10 => absurd c4 h4⟩, ⟨(Fld.ne F_a_ABORTED_ordinal F_a_OK_ordinal (by decide)), Or.inr c4.symm, fun _ => ⟨(Fld.ne F_a_ABORTED_ordinal F_a_UNKNOWN_ordinal (by decide)), c4.symm⟩, fun h => absurd (c4.symm.trans h) (by decide), fun _ => rfl, fun h => absurd (c4.symm.trans h) (by decide)⟩⟩
    by_cases c5 : t = (429 : Int32)
    · exact ⟨a_RESOURCE_EXHAUSTED, (429 : Int32), E_a_RESOURCE_EXHAUSTED, F_a_RESOURCE_EXHAUSTED_httpStatus, ⟨fun h => absurd (c5.symm.trans h) (by decide), fun h => absurd (c5.symm.trans h) (by decide), fun h => absurd (c5.symm.trans h) (by decide), fun h => absurd (c5.symm.trans h) (by decide), fun h => absurd (c5.symm.trans h) (by decide), fun _ => rfl, fun h => absurd (c5.symm.trans h) (by decide), fun h => absurd (c5.symm.trans h) (by decide), fun h => absurd (c5.symm.trans h) (by decide), fun h => absurd (c5.symm.trans h) (by decide), fun h => absurd (c5.symm.trans h) (by decide), fun h0 h1 h2 h3 h4 h5 h6 h7 h8 h9 h10 => absurd c5 h5⟩, ⟨(Fld.ne F_a_RESOURCE_EXHAUSTED_ordinal F_a_OK_ordinal (by decide)), Or.inr c5.symm, fun _ => ⟨(Fld.ne F_a_RESOURCE_EXHAUSTED_ordinal F_a_UNKNOWN_ordinal (by decide)), c5.symm⟩, fun h => absurd (c5.symm.trans h) (by decide), fun h => absurd (c5.symm.trans h) (by decide), fun h => absurd (c5.symm.trans h) (by decide)⟩⟩
    by_cases c6 : t = (499 : Int32)
    · exact ⟨a_CANCELLED, (499 : Int32), E_a_CANCELLED, F_a_CANCELLED_httpStatus, ⟨fun h => absurd (c6.symm.trans h) (by decide), fun h => absurd (c6.symm.trans h) (by decide), fun h => absurd (c6.symm.trans h) (by decide), fun h => absurd (c6.symm.trans h) (by decide), fun h => absurd (c6.symm.trans h) (by decide), fun h => absurd (c6.symm.trans h) (by decide), fun _ => rfl, fun h => absurd (c6.symm.trans h) (by decide), fun h => absurd (c6.symm.trans h) (by decide), fun h => absurd (c6.symm.trans h) (by decide), fun h => absurd (c6.symm.trans h) (by decide), fun h0 h1 h2 h3 h4 h5 h6 h7 h8 h9 h10 => absurd c6 h6⟩, ⟨(Fld.ne F_a_CANCELLED_ordinal F_a_OK_ordinal (by decide)), Or.inr c6.symm, fun _ => ⟨(Fld.ne F_a_CANCELLED_ordinal F_a_UNKNOWN_ordinal (by decide)), c6.symm⟩, fun h => absurd (c6.symm.trans h) (by decide), fun h => absurd (c6.symm.trans h) (by decide), fun h => absurd (c6.symm.trans h) (by decide)⟩⟩
    by_cases c7 : t = (500 : Int32)
    · exact ⟨a_INTERNAL, (500 : Int32), E_a_INTERNAL, F_a_INTERNAL_httpStatus, ⟨fun h => absurd (c7.symm.trans h) (by decide), fun h => absurd (c7.symm.trans h) (by decide), fun h => absurd (c7.symm.trans h) (by decide), fun h => absurd (c7.symm.trans h) (by decide), fun h => absurd (c7.symm.trans h) (by decide), fun h => absurd (c7.symm.trans h) (by decide), fun h => absurd (c7.symm.trans h) (by decide), fun _ => rfl, fun h => absurd (c7.symm.trans h) (by decide), fun h => absurd (c7.symm.trans h) (by decide), fun h => absurd (c7.symm.trans h) (by decide), fun h0 h1 h2 h3 h4 h5 h6 h7 h8 h9 h10 => absurd c7 h7⟩, ⟨(Fld.ne F_a_INTERNAL_ordinal F_a_OK_ordinal (by decide)), Or.inr c7.symm, fun _ => ⟨(Fld.ne F_a_INTERNAL_ordinal F_a_UNKNOWN_ordinal (by decide)), c7.symm⟩, fun h => absurd (c7.symm.trans h) (by decide), fun h => absurd (c7.symm.trans h) (by decide), fun _ => rfl⟩⟩
    by_cases c8 : t = (501 : Int32)
    · exact ⟨a_UNIMPLEMENTED, (501 : Int32), E_a_UNIMPLEMENTED, F_a_UNIMPLEMENTED_httpStatus, ⟨fun h => absurd (c8.symm.trans h) (by decide), fun h => absurd (c8.symm.trans h) (by decide), fun h => absurd (c8.symm.trans h) (by decide), fun h => absurd (c8.symm.trans h) (by decide), fun h => absurd (c8.symm.trans h) (by decide), fun h => absurd (c8.symm.trans h) (by decide), fun h => absurd (c8.symm.trans h) (by decide), fun h => absurd (c8.symm.trans h) (by decide), fun _ => rfl, fun h => absurd (c8.symm.trans h) (by decide), fun h => absurd (c8.symm.trans h) (by decide), fun h0 h1 h2 h3 h4 h5 h6 h7 h8 h9 h10 => absurd c8 h8⟩, ⟨(Fld.ne F_a_UNIMPLEMENTED_ordinal F_a_OK_ordinal (by decide)), Or.inr c8.symm, fun _ => ⟨(Fld.ne F_a_UNIMPLEMENTED_ordinal F_a_UNKNOWN_ordinal (by decide)), c8.symm⟩, fun h => absurd (c8.symm.trans h) (by decide), fun h => absurd (c8.symm.trans h) (by decide), fun h => absurd (c8.symm.trans h) (by decide)⟩⟩
    by_cases c9 : t = (503 : Int32)
    · exact ⟨a_UNAVAILABLE, (503 : Int32), E_a_UNAVAILABLE, F_a_UNAVAILABLE_httpStatus, ⟨fun h => absurd (c9.symm.trans h) (by decide), fun h => absurd (c9.symm.trans h) (by decide), fun h => absurd (c9.symm.trans h) (by decide), fun h => absurd (c9.symm.trans h) (by decide), fun h => absurd (c9.symm.trans h) (by decide), fun h => absurd (c9.symm.trans h) (by decide), fun h => absurd (c9.symm.trans h) (by decide), fun h => absurd (c9.symm.trans h) (by decide), fun h => absurd (c9.symm.trans h) (by decide), fun _ => rfl, fun h => absurd (c9.symm.trans h) (by decide), fun h0 h1 h2 h3 h4 h5 h6 h7 h8 h9 h10 => absurd c9 h9⟩, ⟨(Fld.ne F_a_UNAVAILABLE_ordinal F_a_OK_ordinal (by decide)), Or.inr c9.symm, fun _ => ⟨(Fld.ne F_a_UNAVAILABLE_ordinal F_a_UNKNOWN_ordinal (by decide)), c9.symm⟩, fun h => absurd (c9.symm.trans h) (by decide), fun h => absurd (c9.symm.trans h) (by decide), fun h => absurd (c9.symm.trans h) (by decide)⟩⟩
    by_cases c10 : t = (504 : Int32)
    · exact ⟨a_DEADLINE_EXCEEDED, (504 : Int32), E_a_DEADLINE_EXCEEDED, F_a_DEADLINE_EXCEEDED_httpStatus, ⟨fun h => absurd (c10.symm.trans h) (by decide), fun h => absurd (c10.symm.trans h) (by decide), fun h => absurd (c10.symm.trans h) (by decide), fun h => absurd (c10.symm.trans h) (by decide), fun h => absurd (c10.symm.trans h) (by decide), fun h => absurd (c10.symm.trans h) (by decide), fun h => absurd (c10.symm.trans h) (by decide), fun h => absurd (c10.symm.trans h) (by decide), fun h => absurd (c10.symm.trans h) (by decide), fun h => absurd (c10.symm.trans h) (by decide), fun _ => rfl, fun h0 h1 h2 h3 h4 h5 h6 h7 h8 h9 h10 => absurd c10 h10⟩, ⟨(Fld.ne F_a_DEADLINE_EXCEEDED_ordinal F_a_OK_ordinal (by decide)), Or.inr c10.symm, fun _ => ⟨(Fld.ne F_a_DEADLINE_EXCEEDED_ordinal F_a_UNKNOWN_ordinal (by decide)), c10.symm⟩, fun h => absurd (c10.symm.trans h) (by decide), fun h => absurd (c10.symm.trans h) (by decide), fun h => absurd (c10.symm.trans h) (by decide)⟩⟩
    exact ⟨a_UNKNOWN, (500 : Int32), E_a_UNKNOWN, F_a_UNKNOWN_httpStatus, ⟨fun h => absurd h c0, fun h => absurd h c1, fun h => absurd h c2, fun h => absurd h c3, fun h => absurd h c4, fun h => absurd h c5, fun h => absurd h c6, fun h => absurd h c7, fun h => absurd h c8, fun h => absurd h c9, fun h => absurd h c10, fun h0 h1 h2 h3 h4 h5 h6 h7 h8 h9 h10 => rfl⟩, ⟨(Fld.ne F_a_UNKNOWN_ordinal F_a_OK_ordinal (by decide)), Or.inl rfl, fun h => (Or.elim h (fun h => absurd h c0) (fun h => (Or.elim h (fun h => absurd h c1) (fun h => (Or.elim h (fun h => absurd h c2) (fun h => (Or.elim h (fun h => absurd h c3) (fun h => (Or.elim h (fun h => absurd h c4) (fun h => (Or.elim h (fun h => absurd h c5) (fun h => (Or.elim h (fun h => absurd h c6) (fun h => (Or.elim h (fun h => absurd h c7) (fun h => (Or.elim h (fun h => absurd h c8) (fun h => (Or.elim h (fun h => absurd h c9) (fun h => absurd h c10)))))))))))))))))))), fun h => absurd h c0, fun h => absurd h c4, fun h => absurd h c7⟩⟩
  obtain ⟨n, o, h1, h2, h3, _, L, rfl, ⟨rfl, N, -⟩, hq⟩ := rm0 l s _ hw tables_1 i0 i1 i2 a_OK a_CANCELLED a_UNKNOWN a_INVALID_ARGUMENT a_DEADLINE_EXCEEDED a_NOT_FOUND a_ALREADY_EXISTS a_PERMISSION_DENIED a_RESOURCE_EXHAUSTED a_FAILED_PRECONDITION a_ABORTED a_OUT_OF_RANGE a_UNIMPLEMENTED a_INTERNAL a_UNAVAILABLE a_DATA_LOSS a_UNAUTHENTICATED r1 v1 s.heap s.heap.size (Nat.le_refl _) (Old.start s) S_a_OK S_a_CANCELLED S_a_UNKNOWN S_a_INVALID_ARGUMENT S_a_DEADLINE_EXCEEDED S_a_NOT_FOUND S_a_ALREADY_EXISTS S_a_PERMISSION_DENIED S_a_RESOURCE_EXHAUSTED S_a_FAILED_PRECONDITION S_a_ABORTED S_a_OUT_OF_RANGE S_a_UNIMPLEMENTED S_a_INTERNAL S_a_UNAVAILABLE S_a_DATA_LOSS S_a_UNAUTHENTICATED Er Fr1 hr1 hst key2 p e ha hc hk s m _ below hf ((Spec.applies_iff_loose hf).mp happ).1 ⟨rfl, State.Warmed39.refl s, rfl⟩ trivial
  refine ⟨n, _, h1, h2, h3, hpost _ _ _ _ _ _ ⟨Cond.after_iff.mpr rfl, Cond.after_iff.mpr (eq_i res_at (Term.int_eval (1)) rfl), trivial⟩ ⟨hq.1, hq.2.1, (hq.2.2.sift fun y hy => Or.inr (N y hy)).mono (by decide) (by decide)⟩⟩
theorem main_1_1 : Claimed_1_1 := comes_1 fun _ _ _ _ _ _ h hF => ⟨h.1, hF⟩
theorem main_1_2 : Claimed_1_2 := comes_1 fun _ _ _ _ _ _ h hF => ⟨h.2.1, hF⟩
end Jvm.Pilot.@@N@@
namespace Jvm.Pilot.@@N@@
open Jvm Jvm.ClassFile Sem Op Lib Jvm.Free Jvm.Stand Jvm.Pilot.@@N@@.Jvm.D
/-! MADE BY PROGRAM (witnessworld.py) out of the Statement's table words and the real class files: 12 classes; the members and pool entries that the words name. The judged class is class 1, her method 2. -/
namespace start1
open Jvm.ClassFile
def u (s : String) : CpInfo := .utf8 (stringToUtf16 s)
/-- a pool by its gaps: so many unusable entries, then the entry; so many at the end -/
def gap : Nat → List CpInfo → List CpInfo
  | 0, r => r
  | n + 1, r => .unusable :: gap n r
def poolList (es : List (Nat × CpInfo)) (last : Nat) : List CpInfo := es.foldr (fun e r => gap e.1 (e.2 :: r)) (gap last [])
def pool (es : List (Nat × CpInfo)) (last : Nat) : Array CpInfo := ⟨poolList es last⟩
def fileOf (pool : Array CpInfo) (this : Nat) (attrs : Array Attribute := #[]) (ms : Array MethodInfo := #[]) (fl : Nat := 33) (sup : Nat := 0) (ifs : Array Nat := #[]) (fds : Array FieldInfo := #[]) : ClassFile where
  minorVersion := 0
  majorVersion := 65
  constantPool := pool
  accessFlags := fl
  thisClass := this
  superClass := sup
  interfaces := ifs
  fields := fds
  methods := ms
  attributes := attrs
def plain (name : String) (sup : Option ClassId) : Class where
  name := name
  kind := .ordinary
  loader := none
  accessFlags := 33
  super := sup
  interfaces := #[]
  cf := none
  fields := #[]
  methods := #[]
  instanceTypes := #[]
  staticTypes := #[]
  resolved := #[]
  callSites := []
  init := .initialized
  statics := none
  mirror := none

def pool0 : Array CpInfo := pool [(5, u "<init>"), (0, u "()V"), (1, .class_ 10), (1, u "java/lang/Object")] 113

def k0m0 : Method := { name := "<init>", desc := "()V", sig := { parameters := [], returnType := none }, accessFlags := 1, code := none }
/-- java/lang/Object -/
def k0 : Class := { plain "java/lang/Object" none with
  accessFlags := 33
  interfaces := #[]
  cf := some (fileOf pool0 8 #[] #[{ accessFlags := 1, nameIndex := 5, descriptorIndex := 6, attributes := #[] }] 33 0 #[] #[])
  fields := #[]
  methods := #[k0m0]
  instanceTypes := #[]
  staticTypes := #[]
  resolved := Array.replicate 124 none
  statics := none }

def pool1 : Array CpInfo := pool [(2, .class_ 4), (1, u "java/lang/Object"), (0, u "<init>"), (0, u "()V"), (0, .fieldref 8 9), (0, .class_ 10), (0, .nameAndType 11 12), (0, u "com/example/callee/callee/model/CanonicalCode"), (0, u "OK"), (0, u "Lcom/example/callee/callee/model/CanonicalCode;"), (0, .fieldref 8 14), (0, .nameAndType 15 12), (0, u "CANCELLED"), (0, .fieldref 8 17), (0, .nameAndType 18 12), (0, u "UNKNOWN"), (0, .fieldref 8 20), (0, .nameAndType 21 12), (0, u "INVALID_ARGUMENT"), (0, .fieldref 8 23), (0, .nameAndType 24 12), (0, u "DEADLINE_EXCEEDED"), (0, .fieldref 8 26), (0, .nameAndType 27 12), (0, u "NOT_FOUND"), (0, .fieldref 8 29), (0, .nameAndType 30 12), (0, u "ALREADY_EXISTS"), (0, .fieldref 8 32), (0, .nameAndType 33 12), (0, u "PERMISSION_DENIED"), (0, .fieldref 8 35), (0, .nameAndType 36 12), (0, u "RESOURCE_EXHAUSTED"), (0, .fieldref 8 38), (0, .nameAndType 39 12), (0, u "FAILED_PRECONDITION"), (0, .fieldref 8 41), (0, .nameAndType 42 12), (0, u "ABORTED"), (0, .fieldref 8 44), (0, .nameAndType 45 12), (0, u "OUT_OF_RANGE"), (0, .fieldref 8 47), (0, .nameAndType 48 12), (0, u "UNIMPLEMENTED"), (0, .fieldref 8 50), (0, .nameAndType 51 12), (0, u "INTERNAL"), (0, .fieldref 8 53), (0, .nameAndType 54 12), (0, u "UNAVAILABLE"), (0, .fieldref 8 56), (0, .nameAndType 57 12), (0, u "DATA_LOSS"), (0, .fieldref 8 59), (0, .nameAndType 60 12), (0, u "UNAUTHENTICATED"), (0, .integer 2147483647), (0, .methodref 63 64), (0, .class_ 65), (0, .nameAndType 66 67), (0, u "com/example/callee/callee/model/CanonicalCodeOfHttpStatusPinLaw"), (0, u "codeAt"), (0, u "(I)Lcom/example/callee/callee/model/CanonicalCode;"), (0, .methodref 8 69), (0, .nameAndType 70 71), (0, u "httpStatus"), (0, u "()I"), (0, .methodref 8 73), (0, .nameAndType 74 67), (0, u "ofHttpStatus"), (3, u "law"), (0, u "(III)Z")] 2

def k1m0 : Method := { name := "<init>", desc := "()V", sig := { parameters := [], returnType := none }, accessFlags := 1, code := none }
def k1c1 : Code := { maxStack := 2, maxLocals := 1, code := method_2_code, exceptionTable := #[], attributes := #[] }
def k1m1 : Method := { name := "codeAt", desc := "(I)Lcom/example/callee/callee/model/CanonicalCode;", sig := { parameters := [.int], returnType := some (.object "com/example/callee/callee/model/CanonicalCode") }, accessFlags := 10, code := some k1c1 }
def k1c2 : Code := { maxStack := 2, maxLocals := 14, code := code, exceptionTable := #[], attributes := #[] }
def k1m2 : Method := { name := "law", desc := "(III)Z", sig := { parameters := [.int, .int, .int], returnType := some .boolean }, accessFlags := 9, code := some k1c2 }
/-- com/example/callee/callee/model/CanonicalCodeOfHttpStatusPinLaw -/
def k1 : Class := { plain "com/example/callee/callee/model/CanonicalCodeOfHttpStatusPinLaw" (some 0) with
  accessFlags := 49
  interfaces := #[]
  cf := some (fileOf pool1 63 #[] #[{ accessFlags := 1, nameIndex := 5, descriptorIndex := 6, attributes := #[] }, { accessFlags := 10, nameIndex := 66, descriptorIndex := 67, attributes := #[] }, { accessFlags := 9, nameIndex := 78, descriptorIndex := 79, attributes := #[] }] 49 2 #[] #[])
  fields := #[]
  methods := #[k1m0, k1m1, k1m2]
  instanceTypes := #[]
  staticTypes := #[]
  resolved := Array.replicate 82 none
  statics := none }

def pool2 : Array CpInfo := pool [(1, .class_ 2), (0, u "java/lang/constant/Constable"), (0, .class_ 4), (0, u "java/lang/Object")] 6

/-- java/lang/constant/Constable -/
def k2 : Class := { plain "java/lang/constant/Constable" (some 0) with
  accessFlags := 1537
  interfaces := #[]
  cf := some (fileOf pool2 1 #[] #[] 1537 3 #[] #[])
  fields := #[]
  methods := #[]
  instanceTypes := #[]
  staticTypes := #[]
  resolved := Array.replicate 11 none
  statics := none }

def pool3 : Array CpInfo := pool [(1, .class_ 2), (0, u "java/lang/Comparable"), (0, .class_ 4), (0, u "java/lang/Object")] 7

/-- java/lang/Comparable -/
def k3 : Class := { plain "java/lang/Comparable" (some 0) with
  accessFlags := 1537
  interfaces := #[]
  cf := some (fileOf pool3 1 #[] #[] 1537 3 #[] #[])
  fields := #[]
  methods := #[]
  instanceTypes := #[]
  staticTypes := #[]
  resolved := Array.replicate 12 none
  statics := none }

def pool4 : Array CpInfo := pool [(1, .class_ 2), (0, u "java/io/Serializable"), (0, .class_ 4), (0, u "java/lang/Object")] 2

/-- java/io/Serializable -/
def k4 : Class := { plain "java/io/Serializable" (some 0) with
  accessFlags := 1537
  interfaces := #[]
  cf := some (fileOf pool4 1 #[] #[] 1537 3 #[] #[])
  fields := #[]
  methods := #[]
  instanceTypes := #[]
  staticTypes := #[]
  resolved := Array.replicate 7 none
  statics := none }

def pool5 : Array CpInfo := pool [(2, .class_ 4), (1, u "java/lang/Enum"), (0, u "name"), (0, u "Ljava/lang/String;"), (2, u "ordinal"), (0, u "I"), (1, .class_ 14), (1, u "java/lang/Object"), (4, u "hash"), (86, .class_ 108), (1, u "java/lang/Enum$EnumDesc"), (2, .class_ 112), (0, u "java/lang/constant/Constable"), (0, .class_ 114), (0, u "java/lang/Comparable"), (0, .class_ 116), (0, u "java/io/Serializable")] 87

/-- java/lang/Enum -/
def k5 : Class := { plain "java/lang/Enum" (some 0) with
  accessFlags := 1057
  interfaces := #[2, 3, 4]
  cf := some (fileOf pool5 2 #[.nestMembers #[106]] #[] 1057 12 #[111, 113, 115] #[{ accessFlags := 18, nameIndex := 5, descriptorIndex := 6, attributes := #[] }, { accessFlags := 18, nameIndex := 9, descriptorIndex := 10, attributes := #[] }, { accessFlags := 2, nameIndex := 19, descriptorIndex := 10, attributes := #[] }])
  fields := #[{ name := "name", type := (.object "java/lang/String"), accessFlags := 18, slot := 0, constantValue := 0 }, { name := "ordinal", type := .int, accessFlags := 18, slot := 1, constantValue := 0 }, { name := "hash", type := .int, accessFlags := 2, slot := 2, constantValue := 0 }]
  methods := #[]
  instanceTypes := #[(.object "java/lang/String"), .int, .int]
  staticTypes := #[]
  resolved := Array.replicate 204 none
  statics := none }

def pool6 : Array CpInfo := pool [(1, .class_ 2), (0, u "com/example/callee/callee/model/CanonicalCode"), (2, u "OK"), (0, u "Lcom/example/callee/callee/model/CanonicalCode;"), (0, .fieldref 1 8), (0, .nameAndType 9 6), (0, u "CANCELLED"), (0, .fieldref 1 11), (0, .nameAndType 12 6), (0, u "UNKNOWN"), (0, .fieldref 1 14), (0, .nameAndType 15 6), (0, u "INVALID_ARGUMENT"), (0, .fieldref 1 17), (0, .nameAndType 18 6), (0, u "DEADLINE_EXCEEDED"), (0, .fieldref 1 20), (0, .nameAndType 21 6), (0, u "NOT_FOUND"), (2, u "ALREADY_EXISTS"), (0, .fieldref 1 26), (0, .nameAndType 27 6), (0, u "PERMISSION_DENIED"), (0, .fieldref 1 29), (0, .nameAndType 30 6), (0, u "RESOURCE_EXHAUSTED"), (2, u "FAILED_PRECONDITION"), (0, .fieldref 1 35), (0, .nameAndType 36 6), (0, u "ABORTED"), (2, u "OUT_OF_RANGE"), (0, .fieldref 1 41), (0, .nameAndType 42 6), (0, u "UNIMPLEMENTED"), (0, .fieldref 1 44), (0, .nameAndType 45 6), (0, u "INTERNAL"), (0, .fieldref 1 47), (0, .nameAndType 48 6), (0, u "UNAVAILABLE"), (2, u "DATA_LOSS"), (0, .fieldref 1 53), (0, .nameAndType 54 6), (0, u "UNAUTHENTICATED"), (2, u "$VALUES"), (0, u "[Lcom/example/callee/callee/model/CanonicalCode;"), (6, .class_ 67), (1, u "java/lang/Enum"), (6, .fieldref 1 75), (0, .nameAndType 76 77), (0, u "httpStatus"), (0, u "I"), (31, u "()I"), (0, u "ofHttpStatus"), (0, u "(I)Lcom/example/callee/callee/model/CanonicalCode;")] 6

def k6c0 : Code := { maxStack := 1, maxLocals := 1, code := prog_20_method_4_code, exceptionTable := #[], attributes := #[] }
def k6m0 : Method := { name := "httpStatus", desc := "()I", sig := { parameters := [], returnType := some .int }, accessFlags := 1, code := some k6c0 }
def k6c1 : Code := { maxStack := 1, maxLocals := 1, code := prog_20_method_5_code, exceptionTable := #[], attributes := #[] }
def k6m1 : Method := { name := "ofHttpStatus", desc := "(I)Lcom/example/callee/callee/model/CanonicalCode;", sig := { parameters := [.int], returnType := some (.object "com/example/callee/callee/model/CanonicalCode") }, accessFlags := 9, code := some k6c1 }
/-- com/example/callee/callee/model/CanonicalCode -/
def k6 : Class := { plain "com/example/callee/callee/model/CanonicalCode" (some 5) with
  accessFlags := 16433
  interfaces := #[]
  cf := some (fileOf pool6 1 #[] #[{ accessFlags := 1, nameIndex := 76, descriptorIndex := 109, attributes := #[] }, { accessFlags := 9, nameIndex := 110, descriptorIndex := 111, attributes := #[] }] 16433 65 #[] #[{ accessFlags := 16409, nameIndex := 5, descriptorIndex := 6, attributes := #[] }, { accessFlags := 16409, nameIndex := 9, descriptorIndex := 6, attributes := #[] }, { accessFlags := 16409, nameIndex := 12, descriptorIndex := 6, attributes := #[] }, { accessFlags := 16409, nameIndex := 15, descriptorIndex := 6, attributes := #[] }, { accessFlags := 16409, nameIndex := 18, descriptorIndex := 6, attributes := #[] }, { accessFlags := 16409, nameIndex := 21, descriptorIndex := 6, attributes := #[] }, { accessFlags := 16409, nameIndex := 24, descriptorIndex := 6, attributes := #[] }, { accessFlags := 16409, nameIndex := 27, descriptorIndex := 6, attributes := #[] }, { accessFlags := 16409, nameIndex := 30, descriptorIndex := 6, attributes := #[] }, { accessFlags := 16409, nameIndex := 33, descriptorIndex := 6, attributes := #[] }, { accessFlags := 16409, nameIndex := 36, descriptorIndex := 6, attributes := #[] }, { accessFlags := 16409, nameIndex := 39, descriptorIndex := 6, attributes := #[] }, { accessFlags := 16409, nameIndex := 42, descriptorIndex := 6, attributes := #[] }, { accessFlags := 16409, nameIndex := 45, descriptorIndex := 6, attributes := #[] }, { accessFlags := 16409, nameIndex := 48, descriptorIndex := 6, attributes := #[] }, { accessFlags := 16409, nameIndex := 51, descriptorIndex := 6, attributes := #[] }, { accessFlags := 16409, nameIndex := 54, descriptorIndex := 6, attributes := #[] }, { accessFlags := 18, nameIndex := 76, descriptorIndex := 77, attributes := #[] }, { accessFlags := 4122, nameIndex := 57, descriptorIndex := 58, attributes := #[] }])
  fields := #[{ name := "OK", type := (.object "com/example/callee/callee/model/CanonicalCode"), accessFlags := 16409, slot := 0, constantValue := 0 }, { name := "CANCELLED", type := (.object "com/example/callee/callee/model/CanonicalCode"), accessFlags := 16409, slot := 1, constantValue := 0 }, { name := "UNKNOWN", type := (.object "com/example/callee/callee/model/CanonicalCode"), accessFlags := 16409, slot := 2, constantValue := 0 }, { name := "INVALID_ARGUMENT", type := (.object "com/example/callee/callee/model/CanonicalCode"), accessFlags := 16409, slot := 3, constantValue := 0 }, { name := "DEADLINE_EXCEEDED", type := (.object "com/example/callee/callee/model/CanonicalCode"), accessFlags := 16409, slot := 4, constantValue := 0 }, { name := "NOT_FOUND", type := (.object "com/example/callee/callee/model/CanonicalCode"), accessFlags := 16409, slot := 5, constantValue := 0 }, { name := "ALREADY_EXISTS", type := (.object "com/example/callee/callee/model/CanonicalCode"), accessFlags := 16409, slot := 6, constantValue := 0 }, { name := "PERMISSION_DENIED", type := (.object "com/example/callee/callee/model/CanonicalCode"), accessFlags := 16409, slot := 7, constantValue := 0 }, { name := "RESOURCE_EXHAUSTED", type := (.object "com/example/callee/callee/model/CanonicalCode"), accessFlags := 16409, slot := 8, constantValue := 0 }, { name := "FAILED_PRECONDITION", type := (.object "com/example/callee/callee/model/CanonicalCode"), accessFlags := 16409, slot := 9, constantValue := 0 }, { name := "ABORTED", type := (.object "com/example/callee/callee/model/CanonicalCode"), accessFlags := 16409, slot := 10, constantValue := 0 }, { name := "OUT_OF_RANGE", type := (.object "com/example/callee/callee/model/CanonicalCode"), accessFlags := 16409, slot := 11, constantValue := 0 }, { name := "UNIMPLEMENTED", type := (.object "com/example/callee/callee/model/CanonicalCode"), accessFlags := 16409, slot := 12, constantValue := 0 }, { name := "INTERNAL", type := (.object "com/example/callee/callee/model/CanonicalCode"), accessFlags := 16409, slot := 13, constantValue := 0 }, { name := "UNAVAILABLE", type := (.object "com/example/callee/callee/model/CanonicalCode"), accessFlags := 16409, slot := 14, constantValue := 0 }, { name := "DATA_LOSS", type := (.object "com/example/callee/callee/model/CanonicalCode"), accessFlags := 16409, slot := 15, constantValue := 0 }, { name := "UNAUTHENTICATED", type := (.object "com/example/callee/callee/model/CanonicalCode"), accessFlags := 16409, slot := 16, constantValue := 0 }, { name := "httpStatus", type := .int, accessFlags := 18, slot := 3, constantValue := 0 }, { name := "$VALUES", type := (.array (.object "com/example/callee/callee/model/CanonicalCode")), accessFlags := 4122, slot := 17, constantValue := 0 }]
  methods := #[k6m0, k6m1]
  instanceTypes := #[(.object "java/lang/String"), .int, .int, .int]
  staticTypes := #[(.object "com/example/callee/callee/model/CanonicalCode"), (.object "com/example/callee/callee/model/CanonicalCode"), (.object "com/example/callee/callee/model/CanonicalCode"), (.object "com/example/callee/callee/model/CanonicalCode"), (.object "com/example/callee/callee/model/CanonicalCode"), (.object "com/example/callee/callee/model/CanonicalCode"), (.object "com/example/callee/callee/model/CanonicalCode"), (.object "com/example/callee/callee/model/CanonicalCode"), (.object "com/example/callee/callee/model/CanonicalCode"), (.object "com/example/callee/callee/model/CanonicalCode"), (.object "com/example/callee/callee/model/CanonicalCode"), (.object "com/example/callee/callee/model/CanonicalCode"), (.object "com/example/callee/callee/model/CanonicalCode"), (.object "com/example/callee/callee/model/CanonicalCode"), (.object "com/example/callee/callee/model/CanonicalCode"), (.object "com/example/callee/callee/model/CanonicalCode"), (.object "com/example/callee/callee/model/CanonicalCode"), (.array (.object "com/example/callee/callee/model/CanonicalCode"))]
  resolved := Array.replicate 118 none
  statics := some 0 }

def pool7 : Array CpInfo := pool [(1, u "java/lang/Cloneable"), (0, .class_ 1), (0, u "java/lang/Object"), (0, .class_ 3)] 3

/-- java/lang/Cloneable -/
def k7 : Class := { plain "java/lang/Cloneable" (some 0) with
  accessFlags := 1537
  interfaces := #[]
  cf := some (fileOf pool7 2 #[] #[] 1537 4 #[] #[])
  fields := #[]
  methods := #[]
  instanceTypes := #[]
  staticTypes := #[]
  resolved := Array.replicate 8 none
  statics := none }

/-- the primitive byte -/
def k8 : Class := { plain "byte" none with kind := .primitive 'B', accessFlags := 0x411 }
/-- [B -/
def k9 : Class := { plain "[B" (some 0) with kind := .array 8 .byte, interfaces := #[7, 4], accessFlags := 1041 }

/-- the primitive int -/
def k10 : Class := { plain "int" none with kind := .primitive 'I', accessFlags := 0x411 }
/-- [I -/
def k11 : Class := { plain "[I" (some 0) with kind := .array 10 .int, interfaces := #[7, 4], accessFlags := 1041 }

def heap : Heap := #[{ cls := 6, slots := #[.ref 3, .ref 13, .ref 4, .ref 1, .ref 16, .ref 11, .ref 6, .ref 15, .ref 14, .ref 8, .ref 7, .ref 9, .ref 5, .ref 12, .ref 10, .ref 17, .ref 2, .null], vm := .statics 6 },
  { cls := 6, slots := #[.null, .int 3, .int 0, .int 400], vm := .none },
  { cls := 6, slots := #[.null, .int 16, .int 0, .int 401], vm := .none },
  { cls := 6, slots := #[.null, .int 0, .int 0, .int 200], vm := .none },
  { cls := 6, slots := #[.null, .int 2, .int 0, .int 500], vm := .none },
  { cls := 6, slots := #[.null, .int 12, .int 0, .int 501], vm := .none },
  { cls := 6, slots := #[.null, .int 6, .int 0, .int 409], vm := .none },
  { cls := 6, slots := #[.null, .int 10, .int 0, .int 409], vm := .none },
  { cls := 6, slots := #[.null, .int 9, .int 0, .int 400], vm := .none },
  { cls := 6, slots := #[.null, .int 11, .int 0, .int 400], vm := .none },
  { cls := 6, slots := #[.null, .int 14, .int 0, .int 503], vm := .none },
  { cls := 6, slots := #[.null, .int 5, .int 0, .int 404], vm := .none },
  { cls := 6, slots := #[.null, .int 13, .int 0, .int 500], vm := .none },
  { cls := 6, slots := #[.null, .int 1, .int 0, .int 499], vm := .none },
  { cls := 6, slots := #[.null, .int 8, .int 0, .int 429], vm := .none },
  { cls := 6, slots := #[.null, .int 7, .int 0, .int 403], vm := .none },
  { cls := 6, slots := #[.null, .int 4, .int 0, .int 504], vm := .none },
  { cls := 6, slots := #[.null, .int 15, .int 0, .int 500], vm := .none }]
def classes : Array Class := #[k0, k1, k2, k3, k4, k5, k6, k7, k8, k9, k10, k11]
def interned : List (Array UInt16 × Addr) := []
def slotsUsed : Nat := 86
def theMethod : MethodId := ⟨1, 2⟩
def args0 : Array Value := #[.int 1, .int 2, .int 3]
def aboutOver (below : List Frame) : State where
  vm := { classes := classes, interned := interned.toArray }
  heap := heap
  slotsUsed := slotsUsed
  threads := #[{ frames := .invoking theMethod args0 :: below }]
def below0 : List Frame := [.native { method := ⟨0, 0⟩, args := #[] }]
def about1 : State := aboutOver below0
def p0 : Program := .bare "" "" ""
def e0 : Env := launch0.env 0 0 0
theorem w_frames : about1.frames = Frame.invoking theMethod args0 :: below0 := rfl
set_option maxRecDepth 65536 in
theorem w_args : argsFit about1.vm theMethod args0 = true := by decide +kernel
set_option maxRecDepth 65536 in
theorem w_heap : heapFits about1 = true := by decide +kernel
set_option maxRecDepth 65536 in
theorem w_runnable : about1.curStatus? = some .runnable := by decide +kernel
set_option maxRecDepth 65536 in
theorem w_alone : about1.alone = true := by decide +kernel
set_option maxRecDepth 65536 in
theorem w_named : about1.methodNamed? x = some theMethod := by decide +kernel
set_option maxRecDepth 65536 in
theorem w_hears : about1.hears theMethod below0 = true := by decide +kernel
set_option maxRecDepth 65536 in
theorem w_ripe : about1.ripe theMethod args0 below0 = true := by decide +kernel
theorem w_running : about1.status = .running := rfl
set_option maxRecDepth 65536 in
theorem w_room : about1.hasRoom e0.platform room_1 = true :=
  launch0.hasRoom_least _ room_1 (by decide +kernel) (by decide +kernel) (by decide +kernel) (by decide +kernel) (by decide +kernel) (by decide +kernel)
theorem allAtoms_all (ts : List Jvm.Cond) (a : Array Jvm.Value) (st : Jvm.State) : (allAtoms ts).before a st = ts.all (fun c => c.before a st) := by
  induction ts with
  | nil => rfl
  | cons c t ih =>
    show (Jvm.Cond.and c (allAtoms t)).before a st = _
    rw [Jvm.Cond.before_and, ih, List.all_cons]
def words1 : List Jvm.Cond := Jvm.Cond.code x code maxLocals ret :: tables_1
/-- a 'code' word, met by the world's own term for the bytes: nothing is compared byte by byte -/
theorem code_word {y : MethodName} {bytes : ByteArray} {mx : Nat} {rt : Option FieldType} {a : Array Value} {s : State} {m : MethodId} {meth : Method} {c : Code} (h1 : s.methodNamed? y = some m) (h2 : s.vm.method? m = some meth) (h3 : meth.code = some c) (h4 : c.code = bytes)
    (h5 : (c.maxLocals == mx && c.exceptionTable.isEmpty && decide (c.maxStack ≤ mostOperands) && decide (meth.sig.returnType = rt) && !meth.locks && decide (parseMethodDescriptor y.desc = some meth.sig)) = true) : (Jvm.Cond.code y bytes mx rt).before a s = true := by
  simp only [Bool.and_eq_true, beq_iff_eq, Bool.not_eq_true', decide_eq_true_eq] at h5
  obtain ⟨⟨⟨⟨⟨g1, g2⟩, g3⟩, g4⟩, g5⟩, g6⟩ := h5
  simp [Cond.before, Cond.holds, Cond.value, h1, h2, h3, h4, g1, g2, g3, g4, g5, g6]
def isCode : Jvm.Cond → Bool
  | .code _ _ _ _ => true
  | _ => false
theorem all_split {L : List Jvm.Cond} {P : Jvm.Cond → Bool} (h1 : L.all (fun c => isCode c || P c) = true) (h2 : ∀ c ∈ L.filter isCode, P c = true) : L.all P = true := by
  refine List.all_eq_true.mpr fun c hc => ?_
  have h := List.all_eq_true.mp h1 c hc
  rcases Bool.eq_false_or_eq_true (isCode c) with hi | hi
  · exact h2 c (List.mem_filter.mpr ⟨hc, hi⟩)
  · simpa [hi] using h
set_option maxRecDepth 65536 in
theorem w_c0 : (Jvm.Cond.code x code maxLocals ret).before args0 about1 = true := code_word (m := ⟨1, 2⟩) (meth := k1m2) (c := k1c2) (by decide +kernel) rfl rfl rfl (by decide +kernel)
set_option maxRecDepth 65536 in
theorem w_c1 : (Jvm.Cond.code ({ cls := "com/example/callee/callee/model/CanonicalCodeOfHttpStatusPinLaw", name := "codeAt", desc := "(I)Lcom/example/callee/callee/model/CanonicalCode;" } : Jvm.MethodName) method_2_code (1 : Nat) (Option.some (Jvm.ClassFile.FieldType.object "com/example/callee/callee/model/CanonicalCode"))).before args0 about1 = true := code_word (m := ⟨1, 1⟩) (meth := k1m1) (c := k1c1) (by decide +kernel) rfl rfl rfl (by decide +kernel)
set_option maxRecDepth 65536 in
theorem w_c2 : (Jvm.Cond.code ({ cls := "com/example/callee/callee/model/CanonicalCode", name := "httpStatus", desc := "()I" } : Jvm.MethodName) prog_20_method_4_code (1 : Nat) (Option.some Jvm.ClassFile.FieldType.int)).before args0 about1 = true := code_word (m := ⟨6, 0⟩) (meth := k6m0) (c := k6c0) (by decide +kernel) rfl rfl rfl (by decide +kernel)
set_option maxRecDepth 65536 in
theorem w_c3 : (Jvm.Cond.code ({ cls := "com/example/callee/callee/model/CanonicalCode", name := "ofHttpStatus", desc := "(I)Lcom/example/callee/callee/model/CanonicalCode;" } : Jvm.MethodName) prog_20_method_5_code (1 : Nat) (Option.some (Jvm.ClassFile.FieldType.object "com/example/callee/callee/model/CanonicalCode"))).before args0 about1 = true := code_word (m := ⟨6, 1⟩) (meth := k6m1) (c := k6c1) (by decide +kernel) rfl rfl rfl (by decide +kernel)
def codes1 : List Jvm.Cond := [Jvm.Cond.code x code maxLocals ret, Jvm.Cond.code ({ cls := "com/example/callee/callee/model/CanonicalCodeOfHttpStatusPinLaw", name := "codeAt", desc := "(I)Lcom/example/callee/callee/model/CanonicalCode;" } : Jvm.MethodName) method_2_code (1 : Nat) (Option.some (Jvm.ClassFile.FieldType.object "com/example/callee/callee/model/CanonicalCode")), Jvm.Cond.code ({ cls := "com/example/callee/callee/model/CanonicalCode", name := "httpStatus", desc := "()I" } : Jvm.MethodName) prog_20_method_4_code (1 : Nat) (Option.some Jvm.ClassFile.FieldType.int), Jvm.Cond.code ({ cls := "com/example/callee/callee/model/CanonicalCode", name := "ofHttpStatus", desc := "(I)Lcom/example/callee/callee/model/CanonicalCode;" } : Jvm.MethodName) prog_20_method_5_code (1 : Nat) (Option.some (Jvm.ClassFile.FieldType.object "com/example/callee/callee/model/CanonicalCode"))]
set_option maxRecDepth 65536 in
theorem codes_eq : words1.filter isCode = codes1 := rfl
theorem w_codes : ∀ c ∈ words1.filter isCode, c.before args0 about1 = true := by
  rw [codes_eq]
  intro c hc
  simp only [codes1, List.mem_cons, List.not_mem_nil, or_false] at hc
  rcases hc with rfl | rfl | rfl | rfl
  · exact w_c0
  · exact w_c1
  · exact w_c2
  · exact w_c3
set_option maxRecDepth 65536 in
theorem w_t1 : (words1.take 24).all (fun c => isCode c || c.before args0 about1) = true := by decide +kernel
set_option maxRecDepth 65536 in
theorem w_t2 : ((words1.drop 24).take 24).all (fun c => isCode c || c.before args0 about1) = true := by decide +kernel
set_option maxRecDepth 65536 in
theorem w_t3 : ((words1.drop 24).drop 24).all (fun c => isCode c || c.before args0 about1) = true := by decide +kernel
theorem w_tables : (allAtoms (Jvm.Cond.code x code maxLocals ret :: tables_1)).before args0 about1 = true := by
  rw [allAtoms_all]
  show words1.all (fun c => c.before args0 about1) = true
  refine all_split ?_ w_codes
  rw [← List.take_append_drop 24 words1, List.all_append, w_t1, ← List.take_append_drop 24 (words1.drop 24), List.all_append, w_t2, w_t3]
  rfl
set_option maxRecDepth 65536 in
theorem w_case : (Jvm.Cond.and given_1 narrow_1).before args0 about1 = true := by decide +kernel
theorem w_applies : (headSpec (Jvm.Cond.code x code maxLocals ret :: tables_1) room_1).applies x e0.platform about1 = true :=
  (Spec.applies_iff w_frames).mpr ⟨w_running, w_runnable, w_alone, w_named, w_hears, w_ripe, w_room, w_tables⟩
theorem atStart : AtStart classFile x code maxLocals ret World_1 tables_1 room_1 Calls_1 rest_1 Pre_1 launch0 p0 e0 about1 theMethod args0 below0 :=
  ⟨lists_1, trivial, launch0.admits_env _ _ _, launch0.least_env, fairChoices_fair.cas, fairChoices_fair.clock, w_frames, w_args, w_heap, w_applies, trivial, trivial, w_case⟩
end start1
theorem witness_1 : WitnessClaimed_1 := ⟨start1.p0, start1.e0, start1.about1, start1.theMethod, start1.args0, start1.below0, start1.atStart⟩
end Jvm.Pilot.@@N@@
