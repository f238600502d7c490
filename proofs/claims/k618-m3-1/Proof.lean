import JvmDerived
import JvmDerived.Pilot.@@N@@Statement
import JvmDerived.Pilot.@@N@@Code
set_option linter.unusedVariables false
set_option linter.unusedSimpArgs false
namespace Jvm.RoadKit
open Sem ClassFile Op Lib Jvm.Stand Jvm.Free Jvm.LawKit
section New
variable {p : Program} {l : Launch} {e : Env} {R : Room} {s : State} {m : MethodId} {args : Array Value} {below : List Frame} {meth : Method} {c : Code} {T : State} {locs : List Loc} {cells slots : Nat}
theorem retI (X : Stand p l e R s m args below meth c T locs cells slots) (hx : p.tables.exec = Jvm.exec) {pc : Nat} {Ls : Array Slot} {z : Int32} {rest : List Value} (hret : meth.sig.returnType = some .int) (hd : decode c.code pc = .ok (.ireturn, 1)) {fs : List Frame}
    (hl : ∀ (f : JFrame) (acts : List Action), f.method = m → f.locked = none → f.entered = [] → (doReturn e (T.setTop f) acts (some (.int z))).1 = T.setFrames fs) : Steps p.tables e below (T.setTop (mkF m pc Ls (.int z :: rest))) (T.setFrames fs) := by
  have hm' : T.vm.method? m = some meth := X.method'
  have hn : narrow .int (.int z) = .int z := rfl
  show Steps p.tables e below (T.setTop { method := m, pc := pc, locals := Ls, stack := _ :: rest, locked := none }) _
  jvm_step X.here [X.here.top, hx, hd, hm', hret, hn]
  first | (intro acts; rw [hl _ acts rfl rfl rfl]) | rw [hl _ _ rfl rfl rfl]
  exact Steps.refl _
end New
end Jvm.RoadKit
namespace Jvm.Pilot.@@N@@
open Jvm Jvm.ClassFile Sem Op Lib Jvm.Free Jvm.Stand Jvm.LawKit Jvm.RoadKit Bundle Jvm.Pilot.@@N@@.Jvm.D
theorem own_refc {v : Value} (h : v.isRef = true) : v = .null ∨ ∃ a, v = .ref a := by cases v <;> simp_all [Value.isRef]
theorem own_narR {t : FieldType} {v : Value} (h : v.isRef = true) : narrow t v = v := by rcases own_refc h with rfl | ⟨_, rfl⟩ <;> cases t <;> rfl
theorem own_le {Z : State} {n0 : Nat} {h : Heap} (O : Old Z n0 h) : n0 ≤ h.size := O.1 ▸ O.2.1
theorem own_fitR {t : FieldType} {v : Value} (ht : refKind t = true) (h : v.isRef = true) : fits t v = true := by rcases own_refc h with rfl | ⟨_, rfl⟩ <;> cases t <;> simp_all [refKind, fits]
theorem own_root {Z : State} {a0 : Array Value} {O K : String} {n : Nat} (w : (Jvm.Cond.noSuperclass O).before a0 Z = true) (wk : (Jvm.Cond.instantiable K n).before a0 Z = true) (hn : O ≠ K) : NS Z O K := by
  obtain ⟨c, k, h1, h2, h3, -, -⟩ := Cond.noSuperclass_spec w
  obtain ⟨t, k2, g1, -⟩ := Cond.instantiable_spec wk
  have ne := ids_ne h1 g1 hn
  refine ⟨c, t, h1, g1, fun fuel => ?_⟩
  cases fuel with
  | zero => rfl
  | succ f => simp [Vm.isSubclassAux, ne, h2, h3]
theorem own_no {Z : State} {a0 : Array Value} {C S K : String} {n : Nat} (w : (Jvm.Cond.superclass C S).before a0 Z = true) (wk : (Jvm.Cond.instantiable K n).before a0 Z = true) (ns : NS Z C K) (hn : C ≠ K) : ∃ c t, Z.vm.findClass C = some c ∧ Z.vm.findClass K = some t ∧ Z.vm.assignable c t = false := by
  obtain ⟨c, t, h0, g0, n3⟩ := ns
  obtain ⟨p, k, kp, h1, h2, h3, h4, h5, -, h7⟩ := Cond.superclass_spec h0 w
  obtain ⟨q, k', g1, g2, g3, g4, -⟩ := Cond.instantiable_spec wk
  cases g0.symm.trans g1
  have ne := ids_ne h0 g0 hn
  have g5 : k'.isInterface = false := by cases hi : k'.isInterface <;> simp_all
  refine ⟨c, t, h0, g0, ?_⟩
  show Z.vm.assignableAux (255 + 1) c t = false
  simp [Vm.assignableAux, ne, h2, g2, h5, g3, g5, Vm.isSubclass, n3]
theorem own_b8 (x : Int32) : x.toInt8.toInt32.toInt8.toInt32 = x.toInt8.toInt32 := by simp
theorem own_ti {k q : Int32} {n : Int} (e : q.toInt = n) (h : n = k.toInt) : k = q := Int32.toInt_inj.mp (h.symm.trans e.symm)
theorem ne_arv {Z : State} {h : Heap} {a b : Addr} {C : String} {a0 : Array Value} {k : Nat} {kc : ClassId} {ty : FieldType} {z : Int32} {vs : List Value} {dv : Value} (F : Exa Z h a C) (wi : (Jvm.Cond.instantiable C k).before a0 Z = true) (G : Arv Z h b kc ty z vs dv) : a ≠ b := by obtain ⟨c, A, -⟩ := G; exact ne_arr F wi A
theorem own_eqi {t : Term} {n : Int32} {args : Array Value} {s : State} (h : (Jvm.Cond.eq t (.int n)).value args s none s [] = some true) : t.eval args s none [] s = some (.int n) := by
  simp only [Jvm.Cond.value] at h
  have hn : (Term.int n).eval args s none [] s = some (.int n) := rfl
  rw [hn] at h
  cases hv : t.eval args s none [] s with
  | none => simp [hv] at h
  | some x => cases x <;> simp [hv] at h ⊢; exact h
theorem own_255 (x : Int32) : ¬ ((255 : Int32) < (x &&& (255 : Int32))) := by
  rw [Int32.lt_iff_toInt_lt]
  have := c_and x 255 (by decide)
  have e : (255 : Int32).toInt = 255 := by decide
  rw [e] at this ⊢; omega
theorem d6_0 : decode jdk_52_method_21_code 0 = .ok (.iconst 0, 1) := by decide +kernel
theorem d6_1 : decode jdk_52_method_21_code 1 = .ok (.istore 5, 2) := by decide +kernel
theorem d6_3 : decode jdk_52_method_21_code 3 = .ok (.iload 5, 2) := by decide +kernel
theorem d6_5 : decode jdk_52_method_21_code 5 = .ok (.iload 4, 2) := by decide +kernel
theorem d6_7 : decode jdk_52_method_21_code 7 = .ok (.if_icmp .ge 37, 3) := by decide +kernel
theorem d6_10 : decode jdk_52_method_21_code 10 = .ok (.aload_n 0, 1) := by decide +kernel
theorem d6_11 : decode jdk_52_method_21_code 11 = .ok (.iload_n 1, 1) := by decide +kernel
theorem d6_12 : decode jdk_52_method_21_code 12 = .ok (.caload, 1) := by decide +kernel
theorem d6_13 : decode jdk_52_method_21_code 13 = .ok (.istore 6, 2) := by decide +kernel
theorem d6_15 : decode jdk_52_method_21_code 15 = .ok (.iload 6, 2) := by decide +kernel
theorem d6_17 : decode jdk_52_method_21_code 17 = .ok (.sipush 255, 3) := by decide +kernel
theorem d6_20 : decode jdk_52_method_21_code 20 = .ok (.if_icmp .le 6, 3) := by decide +kernel
theorem d6_26 : decode jdk_52_method_21_code 26 = .ok (.aload_n 2, 1) := by decide +kernel
theorem d6_27 : decode jdk_52_method_21_code 27 = .ok (.iload_n 3, 1) := by decide +kernel
theorem d6_28 : decode jdk_52_method_21_code 28 = .ok (.iload 6, 2) := by decide +kernel
theorem d6_30 : decode jdk_52_method_21_code 30 = .ok (.i2b, 1) := by decide +kernel
theorem d6_31 : decode jdk_52_method_21_code 31 = .ok (.bastore, 1) := by decide +kernel
theorem d6_32 : decode jdk_52_method_21_code 32 = .ok (.iinc 1 1, 3) := by decide +kernel
theorem d6_35 : decode jdk_52_method_21_code 35 = .ok (.iinc 3 1, 3) := by decide +kernel
theorem d6_38 : decode jdk_52_method_21_code 38 = .ok (.iinc 5 1, 3) := by decide +kernel
theorem d6_41 : decode jdk_52_method_21_code 41 = .ok (.goto (-38), 3) := by decide +kernel
theorem d6_44 : decode jdk_52_method_21_code 44 = .ok (.iload 4, 2) := by decide +kernel
theorem d6_46 : decode jdk_52_method_21_code 46 = .ok (.ireturn, 1) := by decide +kernel
theorem pn_java_lang_StringUTF16 : plainName "java/lang/StringUTF16" = true := by first | (simp [plainName, overriddenIn]; done) | decide +kernel
theorem ef_cmp1 (m : MethodId) (a0 : Addr) (a2 : Addr) : entryFrame m #[(.ref a0), (.int 0), (.ref a2), (.int 0), (.int 1)] 7 = mkF m 0 #[.val (.ref a0), .val (.int 0), .val (.ref a2), .val (.int 0), .val (.int 1), .unset, .unset] [] := by first | (simp [entryFrame, mkF, argsToLocals, Value.category]; done) | rfl
def Q_cmp1 (Z : State) (a0 : Addr) (a2 : Addr) (c0 : Int32) (k0 : ClassId) (k2 : ClassId) (h0 : Heap) (n0 : Nat) (v : Option Value) (h : Heap) (L : List Loc) : Prop := v = some (.int 1) ∧ Fr n0 L ∧ Keep h0 h [a2] ∧ Arv Z h a2 k2 .byte (1 : Int32) [(.int (c0.toInt8.toInt32))] (.int 0)
set_option maxRecDepth 65536 in
set_option maxHeartbeats 40000000 in
theorem cmp1 (l : Launch) (Z : State) (av0 : Array Value) (hw : ∀ d ∈ tables_1, d.before av0 Z = true) (ws : List Jvm.Cond) (a0 : Addr) (a2 : Addr) (c0 : Int32) (k0 : ClassId) (k2 : ClassId) (h0 : Heap) (n0 : Nat) (Z0 : n0 ≤ h0.size) (p0_A : Arv Z h0 a0 k0 .char (1 : Int32) [(.int c0)] (.int 0)) (p1_A : Arv Z h0 a2 k2 .byte (1 : Int32) [(.int 0)] (.int 0)) (p2_ne : a0 ≠ a2) (p3_g : n0 ≤ a2) (hc_0 : ¬ ((255 : Int32) < c0)) :
    MetFree l (⟨"java/lang/StringUTF16", "compress", "([CI[BII)I"⟩ : MethodName) (head1 (Jvm.Cond.code (⟨"java/lang/StringUTF16", "compress", "([CI[BII)I"⟩ : MethodName) jdk_52_method_21_code 7 (some .int) :: ws) ({ frames := 0, cells := 0, slots := 0, locals := 0 } : Room)) (fun a U => a = #[(.ref a0), (.int 0), (.ref a2), (.int 0), (.int 1)] ∧ Z.Warmed39 U.vm ∧ U.heap = h0) (fun _ _ _ _ _ => True) (fun _ U o U' => ∃ v L, o = .returned v ∧ Q_cmp1 Z a0 a2 c0 k0 k2 h0 n0 v U'.heap L ∧ FrameEnd U o U' L ({ frames := 0, cells := 0, slots := 0, locals := 0 } : Room).cells ({ frames := 0, cells := 0, slots := 0, locals := 0 } : Room).slots) := by
  refine MetFree.of_bodySF (plainFor_of_name pn_java_lang_StringUTF16) hisR ?_
  intro p e s m args below meth c s₁ Bd hml0 hP hK
  obtain ⟨rfl, hZ, hh⟩ := hP
  have hx := Bd.exec
  have hby := Bd.bytes
  have hml : c.maxLocals = 7 := hml0
  have hown : s.vm.findClass "java/lang/StringUTF16" = some m.cls := findClass_of_methodNamed Bd.named
  have hnm := (name_of_methodNamed Bd.named Bd.method).1
  have X0 : Stand p l e ({ frames := 0, cells := 0, slots := 0, locals := 0 } : Room) s m #[(.ref a0), (.int 0), (.ref a2), (.int 0), (.int 1)] below meth c s₁ [] 0 0 := Stand.of_body Bd
  have e0 : s₁.heap = h0 := by rw [← hh, Bd.state]; rfl
  have N0 := Fr.nil n0
  have pre0 : ∀ tz_, Steps p.tables e below (s₁.setTop (mkF m 0 #[.val (.ref a0), .val (.int 0), .val (.ref a2), .val (.int 0), .val (.int 1), .unset, .unset] [])) tz_ → Steps p.tables e below (s₁.setTop (entryFrame m #[(.ref a0), (.int 0), (.ref a2), (.int 0), (.int 1)] 7)) tz_ := fun tz_ kz_ => castTop (ef_cmp1 m a0 a2) kz_
  have K0 : Keep h0 h0 [a2] := Keep.refl h0 [a2]
  obtain ⟨cl31, Ar31, qk31, qs31, qn31, qh31, qg31⟩ := id p0_A
  have hin31 : ¬ ((0 : Int32) < 0 ∨ cl31.slots.size ≤ ((0 : Int32)).toNatClampNeg) := inb_of qs31 ⟨by decide, by decide⟩
  have hat31 : cl31.slots[((0 : Int32)).toNatClampNeg]? = some (.int c0) := qh31.at hin31 rfl
  obtain ⟨cl32, Ar32, qk32, qs32, qn32, qh32, qg32⟩ := id p1_A
  have hin32 : ¬ ((0 : Int32) < 0 ∨ cl32.slots.size ≤ ((0 : Int32)).toNatClampNeg) := inb_of qs32 ⟨by decide, by decide⟩
  obtain ⟨T33, h33, X33, e33, W33, st33⟩ := stB X0 hx hZ e0 Ar32 (j := (0 : Int32)) hin32 (g := (mkF m 31 #[.val (.ref a0), .val (.int 0), .val (.ref a2), .val (.int 0), .val (.int 1), .val (.int 0), .val (.int c0)] [(.int (c0.toInt8.toInt32)), (.int 0), (.ref a2)])) rfl rfl (hb hby d6_31)
  have V33 : Arv Z h33 a2 k2 .byte (1 : Int32) [(.int ((c0.toInt8.toInt32).toInt8.toInt32))] (.int 0) := Arv.set Ar32 qk32 qs32 qn32 qh32 qg32 (fits_nar_byte _) W33 0 rfl (Nat.le_of_ble_eq_true rfl)
  rw [own_b8] at V33
  have N33 := Fr.snoc X33 N0 p3_g
  have K34 := K0.wr W33 (Or.inl (List.mem_of_getElem? (i := 0) rfl))
  obtain ⟨fs, hrL, hrun, hended, hW, hsame⟩ := X33.leave (v := some (.int 1)) (fun h => by rw [Bd.returns] at h; cases h)
  refine ⟨_, _, pre0 _ ?_, hrun, hended, _, _, rfl, ?_, ⟨_, rfl⟩, hW, hsame.mono (by decide) (by decide)⟩
  · show Steps p.tables e below (s₁.setTop (mkF m 0 #[.val (.ref a0), .val (.int 0), .val (.ref a2), .val (.int 0), .val (.int 1), .unset, .unset] [])) _
    refine XS.iconst X0.here hx rfl (hb hby d6_0) ?_
    refine XS.istore X0.here hx rfl (hb hby d6_1) rfl (l' := #[.val (.ref a0), .val (.int 0), .val (.ref a2), .val (.int 0), .val (.int 1), .val (.int 0), .unset]) rfl ?_
    refine XS.iload X0.here hx rfl (hb hby d6_3) rfl ?_
    show Steps p.tables e below (s₁.setTop (mkF m 5 #[.val (.ref a0), .val (.int 0), .val (.ref a2), .val (.int 0), .val (.int 1), .val (.int 0), .unset] [(.int 0)])) _
    refine XS.iload X0.here hx rfl (hb hby d6_5) rfl ?_
    show Steps p.tables e below (s₁.setTop (mkF m 7 #[.val (.ref a0), .val (.int 0), .val (.ref a2), .val (.int 0), .val (.int 1), .val (.int 0), .unset] [(.int 1), (.int 0)])) _
    refine XS.icmpNo X0.here hx rfl (hb hby d6_7) rfl (tlt (by decide : (0 : Int32) < (1 : Int32))).2.1 ?_
    refine XS.aloadN X0.here hx rfl (hb hby d6_10) rfl rfl ?_
    refine XS.iloadN X0.here hx rfl (hb hby d6_11) rfl ?_
    show Steps p.tables e below (s₁.setTop (mkF m 12 #[.val (.ref a0), .val (.int 0), .val (.ref a2), .val (.int 0), .val (.int 1), .val (.int 0), .unset] [(.int 0), (.ref a0)])) _
    refine X0.caload hx (j := (0 : Int32)) (v := (.int c0)) (by rw [e0]; exact Ar31.1) (State.isArrayOf_alike hZ.alike Ar31.2.1) Ar31.2.2 hin31 hat31 (g := (mkF m 12 #[.val (.ref a0), .val (.int 0), .val (.ref a2), .val (.int 0), .val (.int 1), .val (.int 0), .unset] [(.int 0), (.ref a0)])) rfl rfl (hb hby d6_12) _ ?_
    refine XS.istore X0.here hx rfl (hb hby d6_13) rfl (l' := #[.val (.ref a0), .val (.int 0), .val (.ref a2), .val (.int 0), .val (.int 1), .val (.int 0), .val (.int c0)]) rfl ?_
    refine XS.iload X0.here hx rfl (hb hby d6_15) rfl ?_
    refine XS.sipush X0.here hx rfl (hb hby d6_17) ?_
    show Steps p.tables e below (s₁.setTop (mkF m 20 #[.val (.ref a0), .val (.int 0), .val (.ref a2), .val (.int 0), .val (.int 1), .val (.int 0), .val (.int c0)] [(.int 255), (.int c0)])) _
    refine XS.icmpYes X0.here hx rfl (pc0 := 20) (pc' := 26) rfl (hb hby d6_20) rfl (flt hc_0).2.2.2 (by decide) (by decide) ?_
    refine XS.aloadN X0.here hx rfl (hb hby d6_26) rfl rfl ?_
    refine XS.iloadN X0.here hx rfl (hb hby d6_27) rfl ?_
    refine XS.iload X0.here hx rfl (hb hby d6_28) rfl ?_
    show Steps p.tables e below (s₁.setTop (mkF m 30 #[.val (.ref a0), .val (.int 0), .val (.ref a2), .val (.int 0), .val (.int 1), .val (.int 0), .val (.int c0)] [(.int c0), (.int 0), (.ref a2)])) _
    refine XS.i2b X0.here hx rfl (hb hby d6_30) rfl ?_
    show Steps p.tables e below (s₁.setTop (mkF m 31 #[.val (.ref a0), .val (.int 0), .val (.ref a2), .val (.int 0), .val (.int 1), .val (.int 0), .val (.int c0)] [(.int (c0.toInt8.toInt32)), (.int 0), (.ref a2)])) _
    refine st33 _ ?_
    show Steps p.tables e below (T33.setTop (mkF m 32 #[.val (.ref a0), .val (.int 0), .val (.ref a2), .val (.int 0), .val (.int 1), .val (.int 0), .val (.int c0)] [])) _
    refine XS.iinc X33.here hx rfl (hb hby d6_32) rfl (l' := #[.val (.ref a0), .val (.int 1), .val (.ref a2), .val (.int 0), .val (.int 1), .val (.int 0), .val (.int c0)]) rfl ?_
    show Steps p.tables e below (T33.setTop (mkF m 35 #[.val (.ref a0), .val (.int 1), .val (.ref a2), .val (.int 0), .val (.int 1), .val (.int 0), .val (.int c0)] [])) _
    refine XS.iinc X33.here hx rfl (hb hby d6_35) rfl (l' := #[.val (.ref a0), .val (.int 1), .val (.ref a2), .val (.int 1), .val (.int 1), .val (.int 0), .val (.int c0)]) rfl ?_
    show Steps p.tables e below (T33.setTop (mkF m 38 #[.val (.ref a0), .val (.int 1), .val (.ref a2), .val (.int 1), .val (.int 1), .val (.int 0), .val (.int c0)] [])) _
    refine XS.iinc X33.here hx rfl (hb hby d6_38) rfl (l' := #[.val (.ref a0), .val (.int 1), .val (.ref a2), .val (.int 1), .val (.int 1), .val (.int 1), .val (.int c0)]) rfl ?_
    refine XS.goto X33.here hx rfl (pc0 := 41) (pc' := 3) rfl (hb hby d6_41) (by decide) (by decide) ?_
    refine XS.iload X33.here hx rfl (hb hby d6_3) rfl ?_
    refine XS.iload X33.here hx rfl (hb hby d6_5) rfl ?_
    show Steps p.tables e below (T33.setTop (mkF m 7 #[.val (.ref a0), .val (.int 1), .val (.ref a2), .val (.int 1), .val (.int 1), .val (.int 1), .val (.int c0)] [(.int 1), (.int 1)])) _
    refine XS.icmpYes X33.here hx rfl (pc0 := 7) (pc' := 44) rfl (hb hby d6_7) rfl (flt (by decide : ¬ ((1 : Int32) < (1 : Int32)))).2.1 (by decide) (by decide) ?_
    refine XS.iload X33.here hx rfl (hb hby d6_44) rfl ?_
    show Steps p.tables e below (T33.setTop (mkF m 46 #[.val (.ref a0), .val (.int 1), .val (.ref a2), .val (.int 1), .val (.int 1), .val (.int 1), .val (.int c0)] [(.int 1)])) _
    exact retI X33 hx Bd.returns (hb hby d6_46) hrL
  · show Q_cmp1 _ _ _ _ _ _ _ _ _  T33.heap _
    rw [e33]
    exact ⟨rfl, N33, K34, V33⟩
theorem d5_0 : decode jdk_52_method_16_code 0 = .ok (.iload_n 2, 1) := by decide +kernel
theorem d5_1 : decode jdk_52_method_16_code 1 = .ok (.newarray .byte, 2) := by decide +kernel
theorem d5_3 : decode jdk_52_method_16_code 3 = .ok (.astore_n 3, 1) := by decide +kernel
theorem d5_4 : decode jdk_52_method_16_code 4 = .ok (.aload_n 0, 1) := by decide +kernel
theorem d5_5 : decode jdk_52_method_16_code 5 = .ok (.iload_n 1, 1) := by decide +kernel
theorem d5_6 : decode jdk_52_method_16_code 6 = .ok (.aload_n 3, 1) := by decide +kernel
theorem d5_7 : decode jdk_52_method_16_code 7 = .ok (.iconst 0, 1) := by decide +kernel
theorem d5_8 : decode jdk_52_method_16_code 8 = .ok (.iload_n 2, 1) := by decide +kernel
theorem d5_9 : decode jdk_52_method_16_code 9 = .ok (.invokestatic 115, 3) := by decide +kernel
theorem pd_5 : parseMethodDescriptor "([CI[BII)I" = some ⟨[(.array .char), .int, (.array .byte), .int, .int], some .int⟩ := by decide +kernel
theorem d5_12 : decode jdk_52_method_16_code 12 = .ok (.istore 4, 2) := by decide +kernel
theorem d5_14 : decode jdk_52_method_16_code 14 = .ok (.iload 4, 2) := by decide +kernel
theorem d5_16 : decode jdk_52_method_16_code 16 = .ok (.iload_n 2, 1) := by decide +kernel
theorem d5_17 : decode jdk_52_method_16_code 17 = .ok (.if_icmp .eq 40, 3) := by decide +kernel
theorem d5_57 : decode jdk_52_method_16_code 57 = .ok (.aload_n 3, 1) := by decide +kernel
theorem d5_58 : decode jdk_52_method_16_code 58 = .ok (.areturn, 1) := by decide +kernel
theorem ef_cps1 (m : MethodId) (a0 : Addr) : entryFrame m #[(.ref a0), (.int 0), (.int 1)] 6 = mkF m 0 #[.val (.ref a0), .val (.int 0), .val (.int 1), .unset, .unset, .unset] [] := by first | (simp [entryFrame, mkF, argsToLocals, Value.category]; done) | rfl
def Q_cps1 (Z : State) (a0 : Addr) (c0 : Int32) (k0 : ClassId) (h0 : Heap) (n0 : Nat) (v : Option Value) (h : Heap) (L : List Loc) : Prop := ∃ b : Addr, ∃ kb : ClassId, v = some (.ref b) ∧ Fr n0 L ∧ Keep h0 h [] ∧ h0.size ≤ b ∧ Arv Z h b kb .byte (1 : Int32) [(.int (c0.toInt8.toInt32))] (.int 0)
set_option maxRecDepth 65536 in
set_option maxHeartbeats 40000000 in
theorem cps1 (l : Launch) (Z : State) (av0 : Array Value) (hw : ∀ d ∈ tables_1, d.before av0 Z = true) (ws : List Jvm.Cond) (a0 : Addr) (c0 : Int32) (k0 : ClassId) (h0 : Heap) (n0 : Nat) (Z0 : n0 ≤ h0.size) (p0_A : Arv Z h0 a0 k0 .char (1 : Int32) [(.int c0)] (.int 0)) (hc_0 : ¬ ((255 : Int32) < c0)) :
    MetFree l (⟨"java/lang/StringUTF16", "compress", "([CII)[B"⟩ : MethodName) (head1 (Jvm.Cond.code (⟨"java/lang/StringUTF16", "compress", "([CII)[B"⟩ : MethodName) jdk_52_method_16_code 6 (some (.array .byte)) :: ws) ({ frames := 1, cells := 1, slots := 1, locals := 18 } : Room)) (fun a U => a = #[(.ref a0), (.int 0), (.int 1)] ∧ Z.Warmed39 U.vm ∧ U.heap = h0) (fun _ _ _ _ _ => True) (fun _ U o U' => ∃ v L, o = .returned v ∧ Q_cps1 Z a0 c0 k0 h0 n0 v U'.heap L ∧ FrameEnd U o U' L ({ frames := 1, cells := 1, slots := 1, locals := 18 } : Room).cells ({ frames := 1, cells := 1, slots := 1, locals := 18 } : Room).slots) := by
  refine MetFree.of_bodySF (plainFor_of_name pn_java_lang_StringUTF16) hisR ?_
  intro p e s m args below meth c s₁ Bd hml0 hP hK
  obtain ⟨rfl, hZ, hh⟩ := hP
  have hx := Bd.exec
  have hby := Bd.bytes
  have hml : c.maxLocals = 6 := hml0
  have hown : s.vm.findClass "java/lang/StringUTF16" = some m.cls := findClass_of_methodNamed Bd.named
  have hnm := (name_of_methodNamed Bd.named Bd.method).1
  have X0 : Stand p l e ({ frames := 1, cells := 1, slots := 1, locals := 18 } : Room) s m #[(.ref a0), (.int 0), (.int 1)] below meth c s₁ [] 0 0 := Stand.of_body Bd
  have e0 : s₁.heap = h0 := by rw [← hh, Bd.state]; rfl
  have N0 := Fr.nil n0
  have pre0 : ∀ tz_, Steps p.tables e below (s₁.setTop (mkF m 0 #[.val (.ref a0), .val (.int 0), .val (.int 1), .unset, .unset, .unset] [])) tz_ → Steps p.tables e below (s₁.setTop (entryFrame m #[(.ref a0), (.int 0), (.int 1)] 6)) tz_ := fun tz_ kz_ => castTop (ef_cps1 m a0) kz_
  have K0 : Keep h0 h0 [] := Keep.refl h0 []
  obtain ⟨T31, h31, k31, X31, e31, E31, A31, st31⟩ := newP X0 hx hZ (hw _ (List.mem_of_getElem? (i := 23) rfl)) e0 (g := (mkF m 1 #[.val (.ref a0), .val (.int 0), .val (.int 1), .unset, .unset, .unset] [(.int 1)])) rfl (hb hby d5_1) rfl (by decide) (cap := 1) (by decide) (by decide) (by decide) (by decide)
  obtain ⟨b31, q31⟩ : ∃ z, z = h0.size := ⟨_, rfl⟩
  rw [← q31] at A31 st31
  have g_b31 : n0 ≤ b31 := Nat.le_trans (Nat.le_trans Z0 K0.1) (Nat.le_of_eq q31.symm)
  have sz_b31 : h0.size ≤ b31 := Nat.le_trans K0.1 (Nat.le_of_eq q31.symm)
  have V31 : Arv Z h31 b31 k31 .byte (1 : Int32) [(.int 0)] (.int 0) := (Arv.new A31 (by decide)).pad (pad_rep [] (.int 0) 1)
  have K32 := K0.ext E31
  have f33 := (p0_A.ext E31)
  have ne34 : a0 ≠ b31 := (Nat.ne_of_lt (Nat.lt_of_lt_of_le p0_A.lt (Nat.le_of_eq q31.symm)))
  -- pc 9: StringUTF16.compress
  obtain ⟨_, _, ⟨T35, L35, k35, n35⟩, -, X35, ⟨Lc35, hQ35, l35, y35, z35⟩, st35⟩ := Jvm.LawKit.callS X31 hx (y := (⟨"java/lang/StringUTF16", "compress", "([CI[BII)I"⟩ : MethodName)) hown (mvT hZ (hw _ (List.mem_of_getElem? (i := 24) rfl))) (mvT hZ (hw _ (List.mem_of_getElem? (i := 25) rfl))) (mvT hZ (hw _ (List.mem_of_getElem? (i := 21) rfl))) (mvT hZ (hw _ (List.mem_of_getElem? (i := 26) rfl))) (by decide) (backOf (W := 0) (cmp1 l Z av0 hw [] a0 b31 c0 k0 k31 h31 n0 (Nat.le_trans Z0 K32.1) f33 V31 ne34 g_b31 (hc_0 : ¬ ((255 : Int32) < c0))) hZ (hw _ (List.mem_of_getElem? (i := 26) rfl)) (hw _ (List.mem_of_getElem? (i := 21) rfl)) (by decide) (by decide)) (g := (mkF m 9 #[.val (.ref a0), .val (.int 0), .val (.int 1), .val (.ref b31), .unset, .unset] [(.int 1), (.int 0), (.ref b31), (.int 0), (.ref a0)])) rfl (by rw [hml]; rfl) (argsL := [(.ref a0), (.int 0), (.ref b31), (.int 0), (.int 1)]) (rest := []) (lenOf pd_5 rfl) rfl (by show 2 * 0 + _ ≤ _; exact Nat.le_of_eq rfl) (hb hby d5_9) (fun vmx hWx => ⟨rfl, e31, (by decide : 1 + 0 ≤ _), (by decide : 1 + 0 ≤ _)⟩)
  dsimp only [Pt.U, Pt.locs, Pt.cells, Pt.slots] at X35 l35 y35 z35 st35 hQ35
  subst l35 y35 z35
  obtain ⟨rv35, Nq35, Kq35, u35_0⟩ := hQ35
  subst rv35
  have N35 := Fr.app N0 Nq35
  have K36 := K32.trans Kq35 (allS (Or.inr sz_b31) all0)
  obtain ⟨fs, hrL, hrun, hended, hW, hsame⟩ := X35.leave (v := some (.ref b31)) (fun h => by rw [Bd.returns] at h; cases h)
  refine ⟨_, _, pre0 _ ?_, hrun, hended, _, _, rfl, ?_, ⟨_, rfl⟩, hW, hsame.mono (by decide) (by decide)⟩
  · show Steps p.tables e below (s₁.setTop (mkF m 0 #[.val (.ref a0), .val (.int 0), .val (.int 1), .unset, .unset, .unset] [])) _
    refine XS.iloadN X0.here hx rfl (hb hby d5_0) rfl ?_
    show Steps p.tables e below (s₁.setTop (mkF m 1 #[.val (.ref a0), .val (.int 0), .val (.int 1), .unset, .unset, .unset] [(.int 1)])) _
    refine st31 _ ?_
    refine XS.astoreN X31.here hx rfl (hb hby d5_3) rfl rfl (l' := #[.val (.ref a0), .val (.int 0), .val (.int 1), .val (.ref b31), .unset, .unset]) rfl ?_
    show Steps p.tables e below (T31.setTop (mkF m 4 #[.val (.ref a0), .val (.int 0), .val (.int 1), .val (.ref b31), .unset, .unset] [])) _
    refine XS.aloadN X31.here hx rfl (hb hby d5_4) rfl rfl ?_
    refine XS.iloadN X31.here hx rfl (hb hby d5_5) rfl ?_
    refine XS.aloadN X31.here hx rfl (hb hby d5_6) rfl rfl ?_
    refine XS.iconst X31.here hx rfl (hb hby d5_7) ?_
    show Steps p.tables e below (T31.setTop (mkF m 8 #[.val (.ref a0), .val (.int 0), .val (.int 1), .val (.ref b31), .unset, .unset] [(.int 0), (.ref b31), (.int 0), (.ref a0)])) _
    refine XS.iloadN X31.here hx rfl (hb hby d5_8) rfl ?_
    show Steps p.tables e below (T31.setTop (mkF m 9 #[.val (.ref a0), .val (.int 0), .val (.int 1), .val (.ref b31), .unset, .unset] [(.int 1), (.int 0), (.ref b31), (.int 0), (.ref a0)])) _
    refine st35 _ ?_
    refine XS.istore X35.here hx rfl (hb hby d5_12) rfl (l' := #[.val (.ref a0), .val (.int 0), .val (.int 1), .val (.ref b31), .val (.int 1), .unset]) rfl ?_
    refine XS.iload X35.here hx rfl (hb hby d5_14) rfl ?_
    show Steps p.tables e below (T35.setTop (mkF m 16 #[.val (.ref a0), .val (.int 0), .val (.int 1), .val (.ref b31), .val (.int 1), .unset] [(.int 1)])) _
    refine XS.iloadN X35.here hx rfl (hb hby d5_16) rfl ?_
    show Steps p.tables e below (T35.setTop (mkF m 17 #[.val (.ref a0), .val (.int 0), .val (.int 1), .val (.ref b31), .val (.int 1), .unset] [(.int 1), (.int 1)])) _
    refine XS.icmpYes X35.here hx rfl (pc0 := 17) (pc' := 57) rfl (hb hby d5_17) rfl (teq (by decide : (1 : Int32) = (1 : Int32))).1 (by decide) (by decide) ?_
    refine XS.aloadN X35.here hx rfl (hb hby d5_57) rfl rfl ?_
    show Steps p.tables e below (T35.setTop (mkF m 58 #[.val (.ref a0), .val (.int 0), .val (.int 1), .val (.ref b31), .val (.int 1), .unset] [(.ref b31)])) _
    exact retOut X35 hx Bd.returns rfl (Or.inr (Or.inr (Or.inr (Or.inr ⟨rfl, rfl, rfl⟩)))) (hb hby d5_58) hrL
  · show Q_cps1 _ _ _ _ _ _ _  T35.heap _
    exact ⟨b31, k31, rfl, N35, K36, sz_b31, u35_0⟩
theorem d7_0 : decode jdk_52_method_15_code 0 = .ok (.iload_n 1, 1) := by decide +kernel
theorem d7_1 : decode jdk_52_method_15_code 1 = .ok (.aload_n 0, 1) := by decide +kernel
theorem d7_2 : decode jdk_52_method_15_code 2 = .ok (.arraylength, 1) := by decide +kernel
theorem d7_3 : decode jdk_52_method_15_code 3 = .ok (.isub, 1) := by decide +kernel
theorem d7_4 : decode jdk_52_method_15_code 4 = .ok (.bipush 31, 2) := by decide +kernel
theorem d7_6 : decode jdk_52_method_15_code 6 = .ok (.iushr, 1) := by decide +kernel
theorem d7_7 : decode jdk_52_method_15_code 7 = .ok (.i2b, 1) := by decide +kernel
theorem d7_8 : decode jdk_52_method_15_code 8 = .ok (.ireturn, 1) := by decide +kernel
theorem ef_cfl1 (m : MethodId) (a0 : Addr) : entryFrame m #[(.ref a0), (.int 1)] 2 = mkF m 0 #[.val (.ref a0), .val (.int 1)] [] := by first | (simp [entryFrame, mkF, argsToLocals, Value.category]; done) | rfl
def Q_cfl1 (Z : State) (a0 : Addr) (vs : List Value) (k0 : ClassId) (h0 : Heap) (n0 : Nat) (v : Option Value) (h : Heap) (L : List Loc) : Prop := v = some (.int 0) ∧ Fr n0 L ∧ h = h0
set_option maxRecDepth 65536 in
set_option maxHeartbeats 40000000 in
theorem cfl1 (l : Launch) (Z : State) (av0 : Array Value) (hw : ∀ d ∈ tables_1, d.before av0 Z = true) (ws : List Jvm.Cond) (a0 : Addr) (vs : List Value) (k0 : ClassId) (h0 : Heap) (n0 : Nat) (Z0 : n0 ≤ h0.size) (p0_A : Arv Z h0 a0 k0 .byte (1 : Int32) vs (.int 0)) :
    MetFree l (⟨"java/lang/StringUTF16", "coderFromArrayLen", "([BI)B"⟩ : MethodName) (head1 (Jvm.Cond.code (⟨"java/lang/StringUTF16", "coderFromArrayLen", "([BI)B"⟩ : MethodName) jdk_52_method_15_code 2 (some .byte) :: ws) ({ frames := 0, cells := 0, slots := 0, locals := 0 } : Room)) (fun a U => a = #[(.ref a0), (.int 1)] ∧ Z.Warmed39 U.vm ∧ U.heap = h0) (fun _ _ _ _ _ => True) (fun _ U o U' => ∃ v L, o = .returned v ∧ Q_cfl1 Z a0 vs k0 h0 n0 v U'.heap L ∧ FrameEnd U o U' L ({ frames := 0, cells := 0, slots := 0, locals := 0 } : Room).cells ({ frames := 0, cells := 0, slots := 0, locals := 0 } : Room).slots) := by
  refine MetFree.of_bodySF (plainFor_of_name pn_java_lang_StringUTF16) hisR ?_
  intro p e s m args below meth c s₁ Bd hml0 hP hK
  obtain ⟨rfl, hZ, hh⟩ := hP
  have hx := Bd.exec
  have hby := Bd.bytes
  have hml : c.maxLocals = 2 := hml0
  have hown : s.vm.findClass "java/lang/StringUTF16" = some m.cls := findClass_of_methodNamed Bd.named
  have hnm := (name_of_methodNamed Bd.named Bd.method).1
  have X0 : Stand p l e ({ frames := 0, cells := 0, slots := 0, locals := 0 } : Room) s m #[(.ref a0), (.int 1)] below meth c s₁ [] 0 0 := Stand.of_body Bd
  have e0 : s₁.heap = h0 := by rw [← hh, Bd.state]; rfl
  have N0 := Fr.nil n0
  have pre0 : ∀ tz_, Steps p.tables e below (s₁.setTop (mkF m 0 #[.val (.ref a0), .val (.int 1)] [])) tz_ → Steps p.tables e below (s₁.setTop (entryFrame m #[(.ref a0), (.int 1)] 2)) tz_ := fun tz_ kz_ => castTop (ef_cfl1 m a0) kz_
  obtain ⟨cl31, Ar31, -, qs31, qn31, -, -⟩ := id p0_A
  obtain ⟨fs, hrL, hrun, hended, hW, hsame⟩ := X0.leave (v := some (.int 0)) (fun h => by rw [Bd.returns] at h; cases h)
  refine ⟨_, _, pre0 _ ?_, hrun, hended, _, _, rfl, ?_, ⟨_, rfl⟩, hW, hsame.mono (by decide) (by decide)⟩
  · show Steps p.tables e below (s₁.setTop (mkF m 0 #[.val (.ref a0), .val (.int 1)] [])) _
    refine XS.iloadN X0.here hx rfl (hb hby d7_0) rfl ?_
    refine XS.aloadN X0.here hx rfl (hb hby d7_1) rfl rfl ?_
    show Steps p.tables e below (s₁.setTop (mkF m 2 #[.val (.ref a0), .val (.int 1)] [(.ref a0), (.int 1)])) _
    refine X0.arraylength hx (by rw [e0]; exact Ar31.1) (State.isArrayOf_alike hZ.alike Ar31.2.1) (g := (mkF m 2 #[.val (.ref a0), .val (.int 1)] [(.ref a0), (.int 1)])) rfl rfl (hb hby d7_2) _ ?_
    rw [len_of qs31 qn31]
    show Steps p.tables e below (s₁.setTop (mkF m 3 #[.val (.ref a0), .val (.int 1)] [(.int 1), (.int 1)])) _
    refine XS.isub X0.here hx rfl (hb hby d7_3) rfl ?_
    show Steps p.tables e below (s₁.setTop (mkF m 4 #[.val (.ref a0), .val (.int 1)] [(.int ((1 : Int32) - (1 : Int32)))])) _
    rw [show ((1 : Int32) - (1 : Int32)) = (0 : Int32) from by decide]
    refine XS.bipush X0.here hx rfl (hb hby d7_4) ?_
    show Steps p.tables e below (s₁.setTop (mkF m 6 #[.val (.ref a0), .val (.int 1)] [(.int 31), (.int 0)])) _
    refine XS.iushr X0.here hx rfl (hb hby d7_6) rfl ?_
    show Steps p.tables e below (s₁.setTop (mkF m 7 #[.val (.ref a0), .val (.int 1)] [(.int (((0 : Int32).toUInt32 >>> ((31 : Int32) &&& 31).toUInt32).toInt32))])) _
    rw [show (((0 : Int32).toUInt32 >>> ((31 : Int32) &&& 31).toUInt32).toInt32) = (0 : Int32) from by decide]
    show Steps p.tables e below (s₁.setTop (mkF m 7 #[.val (.ref a0), .val (.int 1)] [(.int 0)])) _
    refine XS.i2b X0.here hx rfl (hb hby d7_7) rfl ?_
    show Steps p.tables e below (s₁.setTop (mkF m 8 #[.val (.ref a0), .val (.int 1)] [(.int ((0 : Int32).toInt8.toInt32))])) _
    rw [show ((0 : Int32).toInt8.toInt32) = (0 : Int32) from by decide]
    show Steps p.tables e below (s₁.setTop (mkF m 8 #[.val (.ref a0), .val (.int 1)] [(.int 0)])) _
    exact retN X0 hx (t := .byte) Bd.returns (by simp) (hb hby d7_8) hrL
  · show Q_cfl1 _ _ _ _ _ _ _  s₁.heap _
    rw [e0]
    exact ⟨rfl, N0, rfl⟩
theorem d3_0 : decode jdk_42_method_149_code 0 = .ok (.aload_n 0, 1) := by decide +kernel
theorem d3_1 : decode jdk_42_method_149_code 1 = .ok (.invokespecial 1, 3) := by decide +kernel
theorem d3_4 : decode jdk_42_method_149_code 4 = .ok (.iload_n 3, 1) := by decide +kernel
theorem d3_5 : decode jdk_42_method_149_code 5 = .ok (.ifCond .ne 22, 3) := by decide +kernel
theorem d3_27 : decode jdk_42_method_149_code 27 = .ok (.getstatic 38, 3) := by decide +kernel
theorem d3_30 : decode jdk_42_method_149_code 30 = .ok (.ifCond .eq 28, 3) := by decide +kernel
theorem d3_33 : decode jdk_42_method_149_code 33 = .ok (.aload_n 1, 1) := by decide +kernel
theorem d3_34 : decode jdk_42_method_149_code 34 = .ok (.iload_n 2, 1) := by decide +kernel
theorem d3_35 : decode jdk_42_method_149_code 35 = .ok (.iload_n 3, 1) := by decide +kernel
theorem d3_36 : decode jdk_42_method_149_code 36 = .ok (.invokestatic 177, 3) := by decide +kernel
theorem pd_4 : parseMethodDescriptor "([CII)[B" = some ⟨[(.array .char), .int, .int], some (.array .byte)⟩ := by decide +kernel
theorem d3_39 : decode jdk_42_method_149_code 39 = .ok (.astore 5, 2) := by decide +kernel
theorem d3_41 : decode jdk_42_method_149_code 41 = .ok (.aload_n 0, 1) := by decide +kernel
theorem d3_42 : decode jdk_42_method_149_code 42 = .ok (.aload 5, 2) := by decide +kernel
theorem d3_44 : decode jdk_42_method_149_code 44 = .ok (.iload_n 3, 1) := by decide +kernel
theorem d3_45 : decode jdk_42_method_149_code 45 = .ok (.invokestatic 47, 3) := by decide +kernel
theorem pd_6 : parseMethodDescriptor "([BI)B" = some ⟨[(.array .byte), .int], some .byte⟩ := by decide +kernel
theorem d3_48 : decode jdk_42_method_149_code 48 = .ok (.putfield 15, 3) := by decide +kernel
theorem d3_51 : decode jdk_42_method_149_code 51 = .ok (.aload_n 0, 1) := by decide +kernel
theorem d3_52 : decode jdk_42_method_149_code 52 = .ok (.aload 5, 2) := by decide +kernel
theorem d3_54 : decode jdk_42_method_149_code 54 = .ok (.putfield 9, 3) := by decide +kernel
theorem d3_57 : decode jdk_42_method_149_code 57 = .ok (.return_, 1) := by decide +kernel
theorem pn_java_lang_String : plainName "java/lang/String" = true := by first | (simp [plainName, overriddenIn]; done) | decide +kernel
theorem ef_si1 (m : MethodId) (a0 : Addr) (a1 : Addr) : entryFrame m #[(.ref a0), (.ref a1), (.int 0), (.int 1), .null] 6 = mkF m 0 #[.val (.ref a0), .val (.ref a1), .val (.int 0), .val (.int 1), .val .null, .unset] [] := by first | (simp [entryFrame, mkF, argsToLocals, Value.category]; done) | rfl
def Q_si1 (Z : State) (a0 : Addr) (a1 : Addr) (c0 : Int32) (k0 : ClassId) (cs : Int32) (h0 : Heap) (n0 : Nat) (v : Option Value) (h : Heap) (L : List Loc) : Prop := ∃ b : Addr, ∃ kb : ClassId, v = none ∧ Fr n0 L ∧ Keep h0 h [a0] ∧ h0.size ≤ b ∧ Exa Z h a0 "java/lang/String" ∧ Fld Z h a0 "java/lang/String" "value" "[B" (.ref b) ∧ Fld Z h a0 "java/lang/String" "coder" "B" (.int 0) ∧ Arv Z h b kb .byte (1 : Int32) [(.int (c0.toInt8.toInt32))] (.int 0)
set_option maxRecDepth 65536 in
set_option maxHeartbeats 40000000 in
theorem si1 (l : Launch) (Z : State) (av0 : Array Value) (hw : ∀ d ∈ tables_1, d.before av0 Z = true) (ws : List Jvm.Cond) (a0 : Addr) (a1 : Addr) (c0 : Int32) (k0 : ClassId) (cs : Int32) (h0 : Heap) (n0 : Nat) (Z0 : n0 ≤ h0.size) (p0_O : Old Z n0 h0) (p1_S : Sta Z Z.heap "java/lang/String" "COMPACT_STRINGS" "Z" (.int cs)) (hcs : ¬ (cs = (0 : Int32))) (p3_E : Exa Z h0 a0 "java/lang/String") (p4_F : Fld Z h0 a0 "java/lang/String" "value" "[B" .null) (p5_F : Fld Z h0 a0 "java/lang/String" "coder" "B" (.int 0)) (p6_g : n0 ≤ a0) (p7_A : Arv Z h0 a1 k0 .char (1 : Int32) [(.int c0)] (.int 0)) (p8_ne : a0 ≠ a1) (hc_0 : ¬ ((255 : Int32) < c0)) :
    MetFree l (⟨"java/lang/String", "<init>", "([CIILjava/lang/Void;)V"⟩ : MethodName) (head1 (Jvm.Cond.code (⟨"java/lang/String", "<init>", "([CIILjava/lang/Void;)V"⟩ : MethodName) jdk_42_method_149_code 6 none :: ws) ({ frames := 2, cells := 1, slots := 1, locals := 35 } : Room)) (fun a U => a = #[(.ref a0), (.ref a1), (.int 0), (.int 1), .null] ∧ Z.Warmed39 U.vm ∧ U.heap = h0) (fun _ _ _ _ _ => True) (fun _ U o U' => ∃ v L, o = .returned v ∧ Q_si1 Z a0 a1 c0 k0 cs h0 n0 v U'.heap L ∧ FrameEnd U o U' L ({ frames := 2, cells := 1, slots := 1, locals := 35 } : Room).cells ({ frames := 2, cells := 1, slots := 1, locals := 35 } : Room).slots) := by
  refine MetFree.of_bodySF (plainFor_of_name pn_java_lang_String) hisR ?_
  intro p e s m args below meth c s₁ Bd hml0 hP hK
  obtain ⟨rfl, hZ, hh⟩ := hP
  have hx := Bd.exec
  have hby := Bd.bytes
  have hml : c.maxLocals = 6 := hml0
  have hown : s.vm.findClass "java/lang/String" = some m.cls := findClass_of_methodNamed Bd.named
  have hnm := (name_of_methodNamed Bd.named Bd.method).1
  have X0 : Stand p l e ({ frames := 2, cells := 1, slots := 1, locals := 35 } : Room) s m #[(.ref a0), (.ref a1), (.int 0), (.int 1), .null] below meth c s₁ [] 0 0 := Stand.of_body Bd
  have e0 : s₁.heap = h0 := by rw [← hh, Bd.state]; rfl
  have N0 := Fr.nil n0
  have pre0 : ∀ tz_, Steps p.tables e below (s₁.setTop (mkF m 0 #[.val (.ref a0), .val (.ref a1), .val (.int 0), .val (.int 1), .val .null, .unset] [])) tz_ → Steps p.tables e below (s₁.setTop (entryFrame m #[(.ref a0), (.ref a1), (.int 0), (.int 1), .null] 6)) tz_ := fun tz_ kz_ => castTop (ef_si1 m a0 a1) kz_
  have K0 : Keep h0 h0 [a0] := Keep.refl h0 [a0]
  obtain ⟨T31, X31, e31, st31⟩ := initO X0 hx hZ hown (hw _ (List.mem_of_getElem? (i := 15) rfl)) (hw _ (List.mem_of_getElem? (i := 16) rfl)) (hw _ (List.mem_of_getElem? (i := 17) rfl)) e0 (g := (mkF m 1 #[.val (.ref a0), .val (.ref a1), .val (.int 0), .val (.int 1), .val .null, .unset] [(.ref a0)])) rfl (by rw [hml]; rfl) rfl (hb hby d3_1) (by decide) (W := 0) (by show 2 * 0 + _ ≤ _; exact Nat.le_of_eq rfl) (by decide)
  obtain ⟨T32, X32, e32, st32⟩ := getS2 X31 hx hZ hown (host := "") (Or.inl (hw _ (List.mem_of_getElem? (i := 18) rfl))) Via.refl e31 (p1_S.ext p0_O.2) (g := (mkF m 27 #[.val (.ref a0), .val (.ref a1), .val (.int 0), .val (.int 1), .val .null, .unset] [])) rfl (hb hby d3_27)
  -- pc 36: StringUTF16.compress
  obtain ⟨_, _, ⟨T33, L33, k33, n33⟩, -, X33, ⟨Lc33, hQ33, l33, y33, z33⟩, st33⟩ := Jvm.LawKit.callS X32 hx (y := (⟨"java/lang/StringUTF16", "compress", "([CII)[B"⟩ : MethodName)) hown (mvT hZ (hw _ (List.mem_of_getElem? (i := 19) rfl))) (mvT hZ (hw _ (List.mem_of_getElem? (i := 20) rfl))) (mvT hZ (hw _ (List.mem_of_getElem? (i := 21) rfl))) (mvT hZ (hw _ (List.mem_of_getElem? (i := 22) rfl))) (by decide) (backOf (W := 0) (cps1 l Z av0 hw [] a1 c0 k0 h0 n0 (own_le p0_O) p7_A (hc_0 : ¬ ((255 : Int32) < c0))) hZ (hw _ (List.mem_of_getElem? (i := 22) rfl)) (hw _ (List.mem_of_getElem? (i := 21) rfl)) (by decide) (by decide)) (g := (mkF m 36 #[.val (.ref a0), .val (.ref a1), .val (.int 0), .val (.int 1), .val .null, .unset] [(.int 1), (.int 0), (.ref a1)])) rfl (by rw [hml]; rfl) (argsL := [(.ref a1), (.int 0), (.int 1)]) (rest := []) (lenOf pd_4 rfl) rfl (by show 2 * 0 + _ ≤ _; exact Nat.le_of_eq rfl) (hb hby d3_36) (fun vmx hWx => ⟨rfl, e32, (by decide : 0 + 1 ≤ _), (by decide : 0 + 1 ≤ _)⟩)
  dsimp only [Pt.U, Pt.locs, Pt.cells, Pt.slots] at X33 l33 y33 z33 st33 hQ33
  subst l33 y33 z33
  obtain ⟨b_33, kb_33, rv33, Nq33, Kq33, u33_0, u33_1⟩ := hQ33
  subst rv33
  have N33 := Fr.app N0 Nq33
  have g_b_33 : n0 ≤ b_33 := Nat.le_trans (own_le p0_O) u33_0
  have sz_b_33 : h0.size ≤ b_33 := Nat.le_trans K0.1 u33_0
  have K34 := K0.trans Kq33 all0
  have O34 := p0_O.keep Kq33 all0
  -- pc 45: StringUTF16.coderFromArrayLen
  obtain ⟨_, _, ⟨T35, L35, k35, n35⟩, -, X35, ⟨Lc35, hQ35, l35, y35, z35⟩, st35⟩ := Jvm.LawKit.callS X33 hx (y := (⟨"java/lang/StringUTF16", "coderFromArrayLen", "([BI)B"⟩ : MethodName)) hown (mvT hZ (hw _ (List.mem_of_getElem? (i := 27) rfl))) (mvT hZ (hw _ (List.mem_of_getElem? (i := 28) rfl))) (mvT hZ (hw _ (List.mem_of_getElem? (i := 21) rfl))) (mvT hZ (hw _ (List.mem_of_getElem? (i := 29) rfl))) (by decide) (backOf (W := 1) (cfl1 l Z av0 hw [] b_33 [(.int (c0.toInt8.toInt32))] kb_33 T33.heap n0 (own_le O34) u33_1) hZ (hw _ (List.mem_of_getElem? (i := 29) rfl)) (hw _ (List.mem_of_getElem? (i := 21) rfl)) (by decide) (by decide)) (g := (mkF m 45 #[.val (.ref a0), .val (.ref a1), .val (.int 0), .val (.int 1), .val .null, .val (.ref b_33)] [(.int 1), (.ref b_33), (.ref a0)])) rfl (by rw [hml]; rfl) (argsL := [(.ref b_33), (.int 1)]) (rest := [(.ref a0)]) (lenOf pd_6 rfl) rfl (by show 2 * 0 + _ ≤ _; exact Nat.le_of_eq rfl) (hb hby d3_45) (fun vmx hWx => ⟨rfl, rfl, (by decide : 1 + 0 ≤ _), (by decide : 1 + 0 ≤ _)⟩)
  dsimp only [Pt.U, Pt.locs, Pt.cells, Pt.slots] at X35 l35 y35 z35 st35 hQ35
  subst l35 y35 z35
  obtain ⟨rv35, Nq35, Kq35⟩ := hQ35
  subst rv35
  have N35 := Fr.app N33 Nq35
  have f36 := (p5_F.keep Kq33 nin0)
  have f37 := (p3_E.keep Kq33)
  obtain ⟨T38, h38, X38, e38, W38, st38⟩ := putF X35 hx hZ hown (host := "") (Or.inl (hw _ (List.mem_of_getElem? (i := 30) rfl))) Via.refl Kq35 f36 f37 (Or.inr ⟨(hw _ (List.mem_of_getElem? (i := 31) rfl)), rfl, hnm⟩) (hw _ (List.mem_of_getElem? (i := 6) rfl)) (ty := .byte) (by decide) rfl rfl (g := (mkF m 48 #[.val (.ref a0), .val (.ref a1), .val (.int 0), .val (.int 1), .val .null, .val (.ref b_33)] [(.int 0), (.ref a0)])) rfl rfl (hb hby d3_48)
  have Fw38 : Fld Z h38 a0 "java/lang/String" "coder" "B" (.int 0) := f36.same W38
  have N38 := Fr.snoc X38 N35 p6_g
  have K39 := K34.wr W38 (Or.inl (List.mem_of_getElem? (i := 0) rfl))
  have O39 := O34.wr W38 p6_g
  have f40 := ((p4_F.keep Kq33 nin0).other W38 (Or.inr (slot_ne (Or.inr (hw _ (List.mem_of_getElem? (i := 33) rfl))) (Or.inr (hw _ (List.mem_of_getElem? (i := 31) rfl))) (by decide) (t := (.array .byte)) (t' := .byte) (by decide) (by decide))))
  have f41 := (f37.wr W38)
  obtain ⟨T42, h42, X42, e42, W42, st42⟩ := putF X38 hx hZ hown (host := "") (Or.inl (hw _ (List.mem_of_getElem? (i := 32) rfl))) Via.refl e38 f40 f41 (Or.inr ⟨(hw _ (List.mem_of_getElem? (i := 33) rfl)), rfl, hnm⟩) (hw _ (List.mem_of_getElem? (i := 6) rfl)) (ty := (.array .byte)) (by decide) rfl rfl (g := (mkF m 54 #[.val (.ref a0), .val (.ref a1), .val (.int 0), .val (.int 1), .val .null, .val (.ref b_33)] [(.ref b_33), (.ref a0)])) rfl rfl (hb hby d3_54)
  have Fw42 : Fld Z h42 a0 "java/lang/String" "value" "[B" (.ref b_33) := f40.same W42
  have N42 := Fr.snoc X42 N38 p6_g
  have K43 := K39.wr W42 (Or.inl (List.mem_of_getElem? (i := 0) rfl))
  have O43 := O39.wr W42 p6_g
  obtain ⟨fs, hrL, hrun, hended, hW, hsame⟩ := X42.leave (v := none) (fun _ => rfl)
  have f44 := (f41.wr W42)
  have f45 := (Fw38.other W42 (Or.inr (slot_ne (Or.inr (hw _ (List.mem_of_getElem? (i := 31) rfl))) (Or.inr (hw _ (List.mem_of_getElem? (i := 33) rfl))) (by decide) (t := .byte) (t' := (.array .byte)) (by decide) (by decide))))
  have ne46 : b_33 ≠ a0 := (Ne.symm (Nat.ne_of_lt (Nat.lt_of_lt_of_le p3_E.lt u33_0)))
  have f47 := ((u33_1.other W38 ne46).other W42 ne46)
  refine ⟨_, _, pre0 _ ?_, hrun, hended, _, _, rfl, ?_, ⟨_, rfl⟩, hW, hsame.mono (by decide) (by decide)⟩
  · show Steps p.tables e below (s₁.setTop (mkF m 0 #[.val (.ref a0), .val (.ref a1), .val (.int 0), .val (.int 1), .val .null, .unset] [])) _
    refine XS.aloadN X0.here hx rfl (hb hby d3_0) rfl rfl ?_
    show Steps p.tables e below (s₁.setTop (mkF m 1 #[.val (.ref a0), .val (.ref a1), .val (.int 0), .val (.int 1), .val .null, .unset] [(.ref a0)])) _
    refine st31 _ ?_
    refine XS.iloadN X31.here hx rfl (hb hby d3_4) rfl ?_
    show Steps p.tables e below (T31.setTop (mkF m 5 #[.val (.ref a0), .val (.ref a1), .val (.int 0), .val (.int 1), .val .null, .unset] [(.int 1)])) _
    refine XS.ifYes X31.here hx rfl (pc0 := 5) (pc' := 27) rfl (hb hby d3_5) rfl ((if0 _ _).trans (feq (by decide : ¬ ((1 : Int32) = (0 : Int32)))).2) (by decide) (by decide) ?_
    show Steps p.tables e below (T31.setTop (mkF m 27 #[.val (.ref a0), .val (.ref a1), .val (.int 0), .val (.int 1), .val .null, .unset] [])) _
    refine st32 _ ?_
    show Steps p.tables e below (T32.setTop (mkF m 30 #[.val (.ref a0), .val (.ref a1), .val (.int 0), .val (.int 1), .val .null, .unset] [(.int cs)])) _
    refine XS.ifNo X32.here hx rfl (hb hby d3_30) rfl ((if0 _ _).trans (feq hcs).1) ?_
    refine XS.aloadN X32.here hx rfl (hb hby d3_33) rfl rfl ?_
    show Steps p.tables e below (T32.setTop (mkF m 34 #[.val (.ref a0), .val (.ref a1), .val (.int 0), .val (.int 1), .val .null, .unset] [(.ref a1)])) _
    refine XS.iloadN X32.here hx rfl (hb hby d3_34) rfl ?_
    refine XS.iloadN X32.here hx rfl (hb hby d3_35) rfl ?_
    show Steps p.tables e below (T32.setTop (mkF m 36 #[.val (.ref a0), .val (.ref a1), .val (.int 0), .val (.int 1), .val .null, .unset] [(.int 1), (.int 0), (.ref a1)])) _
    refine st33 _ ?_
    refine XS.astore X33.here hx rfl (hb hby d3_39) rfl rfl (l' := #[.val (.ref a0), .val (.ref a1), .val (.int 0), .val (.int 1), .val .null, .val (.ref b_33)]) rfl ?_
    show Steps p.tables e below (T33.setTop (mkF m 41 #[.val (.ref a0), .val (.ref a1), .val (.int 0), .val (.int 1), .val .null, .val (.ref b_33)] [])) _
    refine XS.aloadN X33.here hx rfl (hb hby d3_41) rfl rfl ?_
    refine XS.aload X33.here hx rfl (hb hby d3_42) rfl rfl ?_
    refine XS.iloadN X33.here hx rfl (hb hby d3_44) rfl ?_
    show Steps p.tables e below (T33.setTop (mkF m 45 #[.val (.ref a0), .val (.ref a1), .val (.int 0), .val (.int 1), .val .null, .val (.ref b_33)] [(.int 1), (.ref b_33), (.ref a0)])) _
    refine st35 _ ?_
    show Steps p.tables e below (T35.setTop (mkF m 48 #[.val (.ref a0), .val (.ref a1), .val (.int 0), .val (.int 1), .val .null, .val (.ref b_33)] [(.int 0), (.ref a0)])) _
    refine st38 _ ?_
    refine XS.aloadN X38.here hx rfl (hb hby d3_51) rfl rfl ?_
    refine XS.aload X38.here hx rfl (hb hby d3_52) rfl rfl ?_
    show Steps p.tables e below (T38.setTop (mkF m 54 #[.val (.ref a0), .val (.ref a1), .val (.int 0), .val (.int 1), .val .null, .val (.ref b_33)] [(.ref b_33), (.ref a0)])) _
    refine st42 _ ?_
    show Steps p.tables e below (T42.setTop (mkF m 57 #[.val (.ref a0), .val (.ref a1), .val (.int 0), .val (.int 1), .val .null, .val (.ref b_33)] [])) _
    exact X42.returnOut hx Bd.returns (hb hby d3_57) hrL
  · show Q_si1 _ _ _ _ _ _ _ _ _  T42.heap _
    rw [e42]
    exact ⟨b_33, kb_33, rfl, N42, K43, sz_b_33, f44, Fw42, f45, f47⟩
theorem d2_0 : decode jdk_42_method_3_code 0 = .ok (.aload_n 0, 1) := by decide +kernel
theorem d2_1 : decode jdk_42_method_3_code 1 = .ok (.aload_n 1, 1) := by decide +kernel
theorem d2_2 : decode jdk_42_method_3_code 2 = .ok (.iconst 0, 1) := by decide +kernel
theorem d2_3 : decode jdk_42_method_3_code 3 = .ok (.aload_n 1, 1) := by decide +kernel
theorem d2_4 : decode jdk_42_method_3_code 4 = .ok (.arraylength, 1) := by decide +kernel
theorem d2_5 : decode jdk_42_method_3_code 5 = .ok (.aconst_null, 1) := by decide +kernel
theorem d2_6 : decode jdk_42_method_3_code 6 = .ok (.invokespecial 27, 3) := by decide +kernel
theorem pd_2 : parseMethodDescriptor "([CIILjava/lang/Void;)V" = some ⟨[(.array .char), .int, .int, (.object "java/lang/Void")], none⟩ := by decide +kernel
theorem d2_9 : decode jdk_42_method_3_code 9 = .ok (.return_, 1) := by decide +kernel
theorem ef_sc1 (m : MethodId) (a0 : Addr) (a1 : Addr) : entryFrame m #[(.ref a0), (.ref a1)] 2 = mkF m 0 #[.val (.ref a0), .val (.ref a1)] [] := by first | (simp [entryFrame, mkF, argsToLocals, Value.category]; done) | rfl
def Q_sc1 (Z : State) (a0 : Addr) (a1 : Addr) (c0 : Int32) (k0 : ClassId) (cs : Int32) (h0 : Heap) (n0 : Nat) (v : Option Value) (h : Heap) (L : List Loc) : Prop := ∃ b : Addr, ∃ kb : ClassId, v = none ∧ Fr n0 L ∧ Keep h0 h [a0] ∧ h0.size ≤ b ∧ Exa Z h a0 "java/lang/String" ∧ Fld Z h a0 "java/lang/String" "value" "[B" (.ref b) ∧ Fld Z h a0 "java/lang/String" "coder" "B" (.int 0) ∧ Arv Z h b kb .byte (1 : Int32) [(.int (c0.toInt8.toInt32))] (.int 0)
set_option maxRecDepth 65536 in
set_option maxHeartbeats 40000000 in
theorem sc1 (l : Launch) (Z : State) (av0 : Array Value) (hw : ∀ d ∈ tables_1, d.before av0 Z = true) (ws : List Jvm.Cond) (a0 : Addr) (a1 : Addr) (c0 : Int32) (k0 : ClassId) (cs : Int32) (h0 : Heap) (n0 : Nat) (Z0 : n0 ≤ h0.size) (p0_O : Old Z n0 h0) (p1_S : Sta Z Z.heap "java/lang/String" "COMPACT_STRINGS" "Z" (.int cs)) (hcs : ¬ (cs = (0 : Int32))) (p3_E : Exa Z h0 a0 "java/lang/String") (p4_F : Fld Z h0 a0 "java/lang/String" "value" "[B" .null) (p5_F : Fld Z h0 a0 "java/lang/String" "coder" "B" (.int 0)) (p6_g : n0 ≤ a0) (p7_A : Arv Z h0 a1 k0 .char (1 : Int32) [(.int c0)] (.int 0)) (p8_ne : a0 ≠ a1) (hc_0 : ¬ ((255 : Int32) < c0)) :
    MetFree l (⟨"java/lang/String", "<init>", "([C)V"⟩ : MethodName) (head1 (Jvm.Cond.code (⟨"java/lang/String", "<init>", "([C)V"⟩ : MethodName) jdk_42_method_3_code 2 none :: ws) ({ frames := 3, cells := 1, slots := 1, locals := 52 } : Room)) (fun a U => a = #[(.ref a0), (.ref a1)] ∧ Z.Warmed39 U.vm ∧ U.heap = h0) (fun _ _ _ _ _ => True) (fun _ U o U' => ∃ v L, o = .returned v ∧ Q_sc1 Z a0 a1 c0 k0 cs h0 n0 v U'.heap L ∧ FrameEnd U o U' L ({ frames := 3, cells := 1, slots := 1, locals := 52 } : Room).cells ({ frames := 3, cells := 1, slots := 1, locals := 52 } : Room).slots) := by
  refine MetFree.of_bodySF (plainFor_of_name pn_java_lang_String) hisR ?_
  intro p e s m args below meth c s₁ Bd hml0 hP hK
  obtain ⟨rfl, hZ, hh⟩ := hP
  have hx := Bd.exec
  have hby := Bd.bytes
  have hml : c.maxLocals = 2 := hml0
  have hown : s.vm.findClass "java/lang/String" = some m.cls := findClass_of_methodNamed Bd.named
  have hnm := (name_of_methodNamed Bd.named Bd.method).1
  have X0 : Stand p l e ({ frames := 3, cells := 1, slots := 1, locals := 52 } : Room) s m #[(.ref a0), (.ref a1)] below meth c s₁ [] 0 0 := Stand.of_body Bd
  have e0 : s₁.heap = h0 := by rw [← hh, Bd.state]; rfl
  have N0 := Fr.nil n0
  have pre0 : ∀ tz_, Steps p.tables e below (s₁.setTop (mkF m 0 #[.val (.ref a0), .val (.ref a1)] [])) tz_ → Steps p.tables e below (s₁.setTop (entryFrame m #[(.ref a0), (.ref a1)] 2)) tz_ := fun tz_ kz_ => castTop (ef_sc1 m a0 a1) kz_
  have K0 : Keep h0 h0 [a0] := Keep.refl h0 [a0]
  obtain ⟨cl31, Ar31, -, qs31, qn31, -, -⟩ := id p7_A
  -- pc 6: String.init
  obtain ⟨_, _, ⟨T32, L32, k32, n32⟩, -, X32, ⟨Lc32, hQ32, l32, y32, z32⟩, st32⟩ := X0.specialBack hx (y := (⟨"java/lang/String", "<init>", "([CIILjava/lang/Void;)V"⟩ : MethodName)) rfl hown (mvT hZ (hw _ (List.mem_of_getElem? (i := 11) rfl))) (mvT hZ (hw _ (List.mem_of_getElem? (i := 12) rfl))) (mvT hZ (hw _ (List.mem_of_getElem? (i := 14) rfl))) (by decide) (backOf (W := 0) (si1 l Z av0 hw [] a0 a1 c0 k0 cs h0 n0 (own_le p0_O) p0_O p1_S (hcs : ¬ (cs = (0 : Int32))) p3_E p4_F p5_F p6_g p7_A p8_ne (hc_0 : ¬ ((255 : Int32) < c0))) hZ (hw _ (List.mem_of_getElem? (i := 14) rfl)) (hw _ (List.mem_of_getElem? (i := 7) rfl)) (by decide) (by decide)) (g := (mkF m 6 #[.val (.ref a0), .val (.ref a1)] [.null, (.int 1), (.int 0), (.ref a1), (.ref a0)])) rfl (by rw [hml]; rfl) (Steps.refl _) (a := a0) (argsL := [(.ref a1), (.int 0), (.int 1), .null]) (rest := []) (lenOf pd_2 rfl) rfl (by show 2 * 0 + _ ≤ _; exact Nat.le_of_eq rfl) (hb hby d2_6) (fun vmx hWx => ⟨rfl, e0, (by decide : 0 + 1 ≤ _), (by decide : 0 + 1 ≤ _)⟩)
  dsimp only [Pt.U, Pt.locs, Pt.cells, Pt.slots] at X32 l32 y32 z32 st32 hQ32
  subst l32 y32 z32
  obtain ⟨b_32, kb_32, rv32, Nq32, Kq32, u32_0, u32_1, u32_2, u32_3, u32_4⟩ := hQ32
  subst rv32
  have N32 := Fr.app N0 Nq32
  have g_b_32 : n0 ≤ b_32 := Nat.le_trans (own_le p0_O) u32_0
  have sz_b_32 : h0.size ≤ b_32 := Nat.le_trans K0.1 u32_0
  have K33 := K0.trans Kq32 (allS (Or.inl (List.mem_of_getElem? (i := 0) rfl)) all0)
  have O33 := p0_O.keep Kq32 (allS p6_g all0)
  obtain ⟨fs, hrL, hrun, hended, hW, hsame⟩ := X32.leave (v := none) (fun _ => rfl)
  refine ⟨_, _, pre0 _ ?_, hrun, hended, _, _, rfl, ?_, ⟨_, rfl⟩, hW, hsame.mono (by decide) (by decide)⟩
  · show Steps p.tables e below (s₁.setTop (mkF m 0 #[.val (.ref a0), .val (.ref a1)] [])) _
    refine XS.aloadN X0.here hx rfl (hb hby d2_0) rfl rfl ?_
    refine XS.aloadN X0.here hx rfl (hb hby d2_1) rfl rfl ?_
    refine XS.iconst X0.here hx rfl (hb hby d2_2) ?_
    show Steps p.tables e below (s₁.setTop (mkF m 3 #[.val (.ref a0), .val (.ref a1)] [(.int 0), (.ref a1), (.ref a0)])) _
    refine XS.aloadN X0.here hx rfl (hb hby d2_3) rfl rfl ?_
    show Steps p.tables e below (s₁.setTop (mkF m 4 #[.val (.ref a0), .val (.ref a1)] [(.ref a1), (.int 0), (.ref a1), (.ref a0)])) _
    refine X0.arraylength hx (by rw [e0]; exact Ar31.1) (State.isArrayOf_alike hZ.alike Ar31.2.1) (g := (mkF m 4 #[.val (.ref a0), .val (.ref a1)] [(.ref a1), (.int 0), (.ref a1), (.ref a0)])) rfl rfl (hb hby d2_4) _ ?_
    rw [len_of qs31 qn31]
    refine XS.aconstNull X0.here hx rfl (hb hby d2_5) ?_
    show Steps p.tables e below (s₁.setTop (mkF m 6 #[.val (.ref a0), .val (.ref a1)] [.null, (.int 1), (.int 0), (.ref a1), (.ref a0)])) _
    refine st32.trans ?_
    show Steps p.tables e below (T32.setTop (mkF m 9 #[.val (.ref a0), .val (.ref a1)] [])) _
    exact X32.returnOut hx Bd.returns (hb hby d2_9) hrL
  · show Q_sc1 _ _ _ _ _ _ _ _ _  T32.heap _
    exact ⟨b_32, kb_32, rfl, N32, K33, sz_b_32, u32_1, u32_2, u32_3, u32_4⟩
theorem ef_cmp2 (m : MethodId) (a0 : Addr) (a2 : Addr) : entryFrame m #[(.ref a0), (.int 0), (.ref a2), (.int 0), (.int 2)] 7 = mkF m 0 #[.val (.ref a0), .val (.int 0), .val (.ref a2), .val (.int 0), .val (.int 2), .unset, .unset] [] := by first | (simp [entryFrame, mkF, argsToLocals, Value.category]; done) | rfl
def Q_cmp2 (Z : State) (a0 : Addr) (a2 : Addr) (c0 : Int32) (c1 : Int32) (k0 : ClassId) (k2 : ClassId) (h0 : Heap) (n0 : Nat) (v : Option Value) (h : Heap) (L : List Loc) : Prop := v = some (.int 2) ∧ Fr n0 L ∧ Keep h0 h [a2] ∧ Arv Z h a2 k2 .byte (2 : Int32) [(.int (c0.toInt8.toInt32)), (.int (c1.toInt8.toInt32))] (.int 0)
set_option maxRecDepth 65536 in
set_option maxHeartbeats 40000000 in
theorem cmp2 (l : Launch) (Z : State) (av0 : Array Value) (hw : ∀ d ∈ tables_1, d.before av0 Z = true) (ws : List Jvm.Cond) (a0 : Addr) (a2 : Addr) (c0 : Int32) (c1 : Int32) (k0 : ClassId) (k2 : ClassId) (h0 : Heap) (n0 : Nat) (Z0 : n0 ≤ h0.size) (p0_A : Arv Z h0 a0 k0 .char (2 : Int32) [(.int c0), (.int c1)] (.int 0)) (p1_A : Arv Z h0 a2 k2 .byte (2 : Int32) [(.int 0), (.int 0)] (.int 0)) (p2_ne : a0 ≠ a2) (p3_g : n0 ≤ a2) (hc_0 : ¬ ((255 : Int32) < c0)) (hc_1 : ¬ ((255 : Int32) < c1)) :
    MetFree l (⟨"java/lang/StringUTF16", "compress", "([CI[BII)I"⟩ : MethodName) (head1 (Jvm.Cond.code (⟨"java/lang/StringUTF16", "compress", "([CI[BII)I"⟩ : MethodName) jdk_52_method_21_code 7 (some .int) :: ws) ({ frames := 0, cells := 0, slots := 0, locals := 0 } : Room)) (fun a U => a = #[(.ref a0), (.int 0), (.ref a2), (.int 0), (.int 2)] ∧ Z.Warmed39 U.vm ∧ U.heap = h0) (fun _ _ _ _ _ => True) (fun _ U o U' => ∃ v L, o = .returned v ∧ Q_cmp2 Z a0 a2 c0 c1 k0 k2 h0 n0 v U'.heap L ∧ FrameEnd U o U' L ({ frames := 0, cells := 0, slots := 0, locals := 0 } : Room).cells ({ frames := 0, cells := 0, slots := 0, locals := 0 } : Room).slots) := by
  refine MetFree.of_bodySF (plainFor_of_name pn_java_lang_StringUTF16) hisR ?_
  intro p e s m args below meth c s₁ Bd hml0 hP hK
  obtain ⟨rfl, hZ, hh⟩ := hP
  have hx := Bd.exec
  have hby := Bd.bytes
  have hml : c.maxLocals = 7 := hml0
  have hown : s.vm.findClass "java/lang/StringUTF16" = some m.cls := findClass_of_methodNamed Bd.named
  have hnm := (name_of_methodNamed Bd.named Bd.method).1
  have X0 : Stand p l e ({ frames := 0, cells := 0, slots := 0, locals := 0 } : Room) s m #[(.ref a0), (.int 0), (.ref a2), (.int 0), (.int 2)] below meth c s₁ [] 0 0 := Stand.of_body Bd
  have e0 : s₁.heap = h0 := by rw [← hh, Bd.state]; rfl
  have N0 := Fr.nil n0
  have pre0 : ∀ tz_, Steps p.tables e below (s₁.setTop (mkF m 0 #[.val (.ref a0), .val (.int 0), .val (.ref a2), .val (.int 0), .val (.int 2), .unset, .unset] [])) tz_ → Steps p.tables e below (s₁.setTop (entryFrame m #[(.ref a0), (.int 0), (.ref a2), (.int 0), (.int 2)] 7)) tz_ := fun tz_ kz_ => castTop (ef_cmp2 m a0 a2) kz_
  have K0 : Keep h0 h0 [a2] := Keep.refl h0 [a2]
  obtain ⟨cl31, Ar31, qk31, qs31, qn31, qh31, qg31⟩ := id p0_A
  have hin31 : ¬ ((0 : Int32) < 0 ∨ cl31.slots.size ≤ ((0 : Int32)).toNatClampNeg) := inb_of qs31 ⟨by decide, by decide⟩
  have hat31 : cl31.slots[((0 : Int32)).toNatClampNeg]? = some (.int c0) := qh31.at hin31 rfl
  obtain ⟨cl32, Ar32, qk32, qs32, qn32, qh32, qg32⟩ := id p1_A
  have hin32 : ¬ ((0 : Int32) < 0 ∨ cl32.slots.size ≤ ((0 : Int32)).toNatClampNeg) := inb_of qs32 ⟨by decide, by decide⟩
  obtain ⟨T33, h33, X33, e33, W33, st33⟩ := stB X0 hx hZ e0 Ar32 (j := (0 : Int32)) hin32 (g := (mkF m 31 #[.val (.ref a0), .val (.int 0), .val (.ref a2), .val (.int 0), .val (.int 2), .val (.int 0), .val (.int c0)] [(.int (c0.toInt8.toInt32)), (.int 0), (.ref a2)])) rfl rfl (hb hby d6_31)
  have V33 : Arv Z h33 a2 k2 .byte (2 : Int32) [(.int ((c0.toInt8.toInt32).toInt8.toInt32)), (.int 0)] (.int 0) := Arv.set Ar32 qk32 qs32 qn32 qh32 qg32 (fits_nar_byte _) W33 0 rfl (Nat.le_of_ble_eq_true rfl)
  rw [own_b8] at V33
  have N33 := Fr.snoc X33 N0 p3_g
  have K34 := K0.wr W33 (Or.inl (List.mem_of_getElem? (i := 0) rfl))
  have f35 := (p0_A.other W33 p2_ne)
  obtain ⟨cl36, Ar36, qk36, qs36, qn36, qh36, qg36⟩ := id f35
  have hin36 : ¬ ((1 : Int32) < 0 ∨ cl36.slots.size ≤ ((1 : Int32)).toNatClampNeg) := inb_of qs36 ⟨by decide, by decide⟩
  have hat36 : cl36.slots[((1 : Int32)).toNatClampNeg]? = some (.int c1) := qh36.at hin36 rfl
  obtain ⟨cl37, Ar37, qk37, qs37, qn37, qh37, qg37⟩ := id V33
  have hin37 : ¬ ((1 : Int32) < 0 ∨ cl37.slots.size ≤ ((1 : Int32)).toNatClampNeg) := inb_of qs37 ⟨by decide, by decide⟩
  obtain ⟨T38, h38, X38, e38, W38, st38⟩ := stB X33 hx hZ e33 Ar37 (j := (1 : Int32)) hin37 (g := (mkF m 31 #[.val (.ref a0), .val (.int 1), .val (.ref a2), .val (.int 1), .val (.int 2), .val (.int 1), .val (.int c1)] [(.int (c1.toInt8.toInt32)), (.int 1), (.ref a2)])) rfl rfl (hb hby d6_31)
  have V38 : Arv Z h38 a2 k2 .byte (2 : Int32) [(.int (c0.toInt8.toInt32)), (.int ((c1.toInt8.toInt32).toInt8.toInt32))] (.int 0) := Arv.set Ar37 qk37 qs37 qn37 qh37 qg37 (fits_nar_byte _) W38 1 rfl (Nat.le_of_ble_eq_true rfl)
  rw [own_b8] at V38
  have N38 := Fr.snoc X38 N33 p3_g
  have K39 := K34.wr W38 (Or.inl (List.mem_of_getElem? (i := 0) rfl))
  obtain ⟨fs, hrL, hrun, hended, hW, hsame⟩ := X38.leave (v := some (.int 2)) (fun h => by rw [Bd.returns] at h; cases h)
  refine ⟨_, _, pre0 _ ?_, hrun, hended, _, _, rfl, ?_, ⟨_, rfl⟩, hW, hsame.mono (by decide) (by decide)⟩
  · show Steps p.tables e below (s₁.setTop (mkF m 0 #[.val (.ref a0), .val (.int 0), .val (.ref a2), .val (.int 0), .val (.int 2), .unset, .unset] [])) _
    refine XS.iconst X0.here hx rfl (hb hby d6_0) ?_
    refine XS.istore X0.here hx rfl (hb hby d6_1) rfl (l' := #[.val (.ref a0), .val (.int 0), .val (.ref a2), .val (.int 0), .val (.int 2), .val (.int 0), .unset]) rfl ?_
    refine XS.iload X0.here hx rfl (hb hby d6_3) rfl ?_
    show Steps p.tables e below (s₁.setTop (mkF m 5 #[.val (.ref a0), .val (.int 0), .val (.ref a2), .val (.int 0), .val (.int 2), .val (.int 0), .unset] [(.int 0)])) _
    refine XS.iload X0.here hx rfl (hb hby d6_5) rfl ?_
    show Steps p.tables e below (s₁.setTop (mkF m 7 #[.val (.ref a0), .val (.int 0), .val (.ref a2), .val (.int 0), .val (.int 2), .val (.int 0), .unset] [(.int 2), (.int 0)])) _
    refine XS.icmpNo X0.here hx rfl (hb hby d6_7) rfl (tlt (by decide : (0 : Int32) < (2 : Int32))).2.1 ?_
    refine XS.aloadN X0.here hx rfl (hb hby d6_10) rfl rfl ?_
    refine XS.iloadN X0.here hx rfl (hb hby d6_11) rfl ?_
    show Steps p.tables e below (s₁.setTop (mkF m 12 #[.val (.ref a0), .val (.int 0), .val (.ref a2), .val (.int 0), .val (.int 2), .val (.int 0), .unset] [(.int 0), (.ref a0)])) _
    refine X0.caload hx (j := (0 : Int32)) (v := (.int c0)) (by rw [e0]; exact Ar31.1) (State.isArrayOf_alike hZ.alike Ar31.2.1) Ar31.2.2 hin31 hat31 (g := (mkF m 12 #[.val (.ref a0), .val (.int 0), .val (.ref a2), .val (.int 0), .val (.int 2), .val (.int 0), .unset] [(.int 0), (.ref a0)])) rfl rfl (hb hby d6_12) _ ?_
    refine XS.istore X0.here hx rfl (hb hby d6_13) rfl (l' := #[.val (.ref a0), .val (.int 0), .val (.ref a2), .val (.int 0), .val (.int 2), .val (.int 0), .val (.int c0)]) rfl ?_
    refine XS.iload X0.here hx rfl (hb hby d6_15) rfl ?_
    refine XS.sipush X0.here hx rfl (hb hby d6_17) ?_
    show Steps p.tables e below (s₁.setTop (mkF m 20 #[.val (.ref a0), .val (.int 0), .val (.ref a2), .val (.int 0), .val (.int 2), .val (.int 0), .val (.int c0)] [(.int 255), (.int c0)])) _
    refine XS.icmpYes X0.here hx rfl (pc0 := 20) (pc' := 26) rfl (hb hby d6_20) rfl (flt hc_0).2.2.2 (by decide) (by decide) ?_
    refine XS.aloadN X0.here hx rfl (hb hby d6_26) rfl rfl ?_
    refine XS.iloadN X0.here hx rfl (hb hby d6_27) rfl ?_
    refine XS.iload X0.here hx rfl (hb hby d6_28) rfl ?_
    show Steps p.tables e below (s₁.setTop (mkF m 30 #[.val (.ref a0), .val (.int 0), .val (.ref a2), .val (.int 0), .val (.int 2), .val (.int 0), .val (.int c0)] [(.int c0), (.int 0), (.ref a2)])) _
    refine XS.i2b X0.here hx rfl (hb hby d6_30) rfl ?_
    show Steps p.tables e below (s₁.setTop (mkF m 31 #[.val (.ref a0), .val (.int 0), .val (.ref a2), .val (.int 0), .val (.int 2), .val (.int 0), .val (.int c0)] [(.int (c0.toInt8.toInt32)), (.int 0), (.ref a2)])) _
    refine st33 _ ?_
    show Steps p.tables e below (T33.setTop (mkF m 32 #[.val (.ref a0), .val (.int 0), .val (.ref a2), .val (.int 0), .val (.int 2), .val (.int 0), .val (.int c0)] [])) _
    refine XS.iinc X33.here hx rfl (hb hby d6_32) rfl (l' := #[.val (.ref a0), .val (.int 1), .val (.ref a2), .val (.int 0), .val (.int 2), .val (.int 0), .val (.int c0)]) rfl ?_
    show Steps p.tables e below (T33.setTop (mkF m 35 #[.val (.ref a0), .val (.int 1), .val (.ref a2), .val (.int 0), .val (.int 2), .val (.int 0), .val (.int c0)] [])) _
    refine XS.iinc X33.here hx rfl (hb hby d6_35) rfl (l' := #[.val (.ref a0), .val (.int 1), .val (.ref a2), .val (.int 1), .val (.int 2), .val (.int 0), .val (.int c0)]) rfl ?_
    show Steps p.tables e below (T33.setTop (mkF m 38 #[.val (.ref a0), .val (.int 1), .val (.ref a2), .val (.int 1), .val (.int 2), .val (.int 0), .val (.int c0)] [])) _
    refine XS.iinc X33.here hx rfl (hb hby d6_38) rfl (l' := #[.val (.ref a0), .val (.int 1), .val (.ref a2), .val (.int 1), .val (.int 2), .val (.int 1), .val (.int c0)]) rfl ?_
    refine XS.goto X33.here hx rfl (pc0 := 41) (pc' := 3) rfl (hb hby d6_41) (by decide) (by decide) ?_
    refine XS.iload X33.here hx rfl (hb hby d6_3) rfl ?_
    refine XS.iload X33.here hx rfl (hb hby d6_5) rfl ?_
    show Steps p.tables e below (T33.setTop (mkF m 7 #[.val (.ref a0), .val (.int 1), .val (.ref a2), .val (.int 1), .val (.int 2), .val (.int 1), .val (.int c0)] [(.int 2), (.int 1)])) _
    refine XS.icmpNo X33.here hx rfl (hb hby d6_7) rfl (tlt (by decide : (1 : Int32) < (2 : Int32))).2.1 ?_
    refine XS.aloadN X33.here hx rfl (hb hby d6_10) rfl rfl ?_
    refine XS.iloadN X33.here hx rfl (hb hby d6_11) rfl ?_
    show Steps p.tables e below (T33.setTop (mkF m 12 #[.val (.ref a0), .val (.int 1), .val (.ref a2), .val (.int 1), .val (.int 2), .val (.int 1), .val (.int c0)] [(.int 1), (.ref a0)])) _
    refine X33.caload hx (j := (1 : Int32)) (v := (.int c1)) (by rw [e33]; exact Ar36.1) (State.isArrayOf_alike hZ.alike Ar36.2.1) Ar36.2.2 hin36 hat36 (g := (mkF m 12 #[.val (.ref a0), .val (.int 1), .val (.ref a2), .val (.int 1), .val (.int 2), .val (.int 1), .val (.int c0)] [(.int 1), (.ref a0)])) rfl rfl (hb hby d6_12) _ ?_
    show Steps p.tables e below (T33.setTop (mkF m 13 #[.val (.ref a0), .val (.int 1), .val (.ref a2), .val (.int 1), .val (.int 2), .val (.int 1), .val (.int c0)] [(.int c1)])) _
    refine XS.istore X33.here hx rfl (hb hby d6_13) rfl (l' := #[.val (.ref a0), .val (.int 1), .val (.ref a2), .val (.int 1), .val (.int 2), .val (.int 1), .val (.int c1)]) rfl ?_
    refine XS.iload X33.here hx rfl (hb hby d6_15) rfl ?_
    refine XS.sipush X33.here hx rfl (hb hby d6_17) ?_
    show Steps p.tables e below (T33.setTop (mkF m 20 #[.val (.ref a0), .val (.int 1), .val (.ref a2), .val (.int 1), .val (.int 2), .val (.int 1), .val (.int c1)] [(.int 255), (.int c1)])) _
    refine XS.icmpYes X33.here hx rfl (pc0 := 20) (pc' := 26) rfl (hb hby d6_20) rfl (flt hc_1).2.2.2 (by decide) (by decide) ?_
    show Steps p.tables e below (T33.setTop (mkF m 26 #[.val (.ref a0), .val (.int 1), .val (.ref a2), .val (.int 1), .val (.int 2), .val (.int 1), .val (.int c1)] [])) _
    refine XS.aloadN X33.here hx rfl (hb hby d6_26) rfl rfl ?_
    refine XS.iloadN X33.here hx rfl (hb hby d6_27) rfl ?_
    refine XS.iload X33.here hx rfl (hb hby d6_28) rfl ?_
    show Steps p.tables e below (T33.setTop (mkF m 30 #[.val (.ref a0), .val (.int 1), .val (.ref a2), .val (.int 1), .val (.int 2), .val (.int 1), .val (.int c1)] [(.int c1), (.int 1), (.ref a2)])) _
    refine XS.i2b X33.here hx rfl (hb hby d6_30) rfl ?_
    show Steps p.tables e below (T33.setTop (mkF m 31 #[.val (.ref a0), .val (.int 1), .val (.ref a2), .val (.int 1), .val (.int 2), .val (.int 1), .val (.int c1)] [(.int (c1.toInt8.toInt32)), (.int 1), (.ref a2)])) _
    refine st38 _ ?_
    show Steps p.tables e below (T38.setTop (mkF m 32 #[.val (.ref a0), .val (.int 1), .val (.ref a2), .val (.int 1), .val (.int 2), .val (.int 1), .val (.int c1)] [])) _
    refine XS.iinc X38.here hx rfl (hb hby d6_32) rfl (l' := #[.val (.ref a0), .val (.int 2), .val (.ref a2), .val (.int 1), .val (.int 2), .val (.int 1), .val (.int c1)]) rfl ?_
    show Steps p.tables e below (T38.setTop (mkF m 35 #[.val (.ref a0), .val (.int 2), .val (.ref a2), .val (.int 1), .val (.int 2), .val (.int 1), .val (.int c1)] [])) _
    refine XS.iinc X38.here hx rfl (hb hby d6_35) rfl (l' := #[.val (.ref a0), .val (.int 2), .val (.ref a2), .val (.int 2), .val (.int 2), .val (.int 1), .val (.int c1)]) rfl ?_
    show Steps p.tables e below (T38.setTop (mkF m 38 #[.val (.ref a0), .val (.int 2), .val (.ref a2), .val (.int 2), .val (.int 2), .val (.int 1), .val (.int c1)] [])) _
    refine XS.iinc X38.here hx rfl (hb hby d6_38) rfl (l' := #[.val (.ref a0), .val (.int 2), .val (.ref a2), .val (.int 2), .val (.int 2), .val (.int 2), .val (.int c1)]) rfl ?_
    show Steps p.tables e below (T38.setTop (mkF m 41 #[.val (.ref a0), .val (.int 2), .val (.ref a2), .val (.int 2), .val (.int 2), .val (.int 2), .val (.int c1)] [])) _
    refine XS.goto X38.here hx rfl (pc0 := 41) (pc' := 3) rfl (hb hby d6_41) (by decide) (by decide) ?_
    refine XS.iload X38.here hx rfl (hb hby d6_3) rfl ?_
    refine XS.iload X38.here hx rfl (hb hby d6_5) rfl ?_
    show Steps p.tables e below (T38.setTop (mkF m 7 #[.val (.ref a0), .val (.int 2), .val (.ref a2), .val (.int 2), .val (.int 2), .val (.int 2), .val (.int c1)] [(.int 2), (.int 2)])) _
    refine XS.icmpYes X38.here hx rfl (pc0 := 7) (pc' := 44) rfl (hb hby d6_7) rfl (flt (by decide : ¬ ((2 : Int32) < (2 : Int32)))).2.1 (by decide) (by decide) ?_
    show Steps p.tables e below (T38.setTop (mkF m 44 #[.val (.ref a0), .val (.int 2), .val (.ref a2), .val (.int 2), .val (.int 2), .val (.int 2), .val (.int c1)] [])) _
    refine XS.iload X38.here hx rfl (hb hby d6_44) rfl ?_
    show Steps p.tables e below (T38.setTop (mkF m 46 #[.val (.ref a0), .val (.int 2), .val (.ref a2), .val (.int 2), .val (.int 2), .val (.int 2), .val (.int c1)] [(.int 2)])) _
    exact retI X38 hx Bd.returns (hb hby d6_46) hrL
  · show Q_cmp2 _ _ _ _ _ _ _ _ _ _  T38.heap _
    rw [e38]
    exact ⟨rfl, N38, K39, V38⟩
theorem ef_cps2 (m : MethodId) (a0 : Addr) : entryFrame m #[(.ref a0), (.int 0), (.int 2)] 6 = mkF m 0 #[.val (.ref a0), .val (.int 0), .val (.int 2), .unset, .unset, .unset] [] := by first | (simp [entryFrame, mkF, argsToLocals, Value.category]; done) | rfl
def Q_cps2 (Z : State) (a0 : Addr) (c0 : Int32) (c1 : Int32) (k0 : ClassId) (h0 : Heap) (n0 : Nat) (v : Option Value) (h : Heap) (L : List Loc) : Prop := ∃ b : Addr, ∃ kb : ClassId, v = some (.ref b) ∧ Fr n0 L ∧ Keep h0 h [] ∧ h0.size ≤ b ∧ Arv Z h b kb .byte (2 : Int32) [(.int (c0.toInt8.toInt32)), (.int (c1.toInt8.toInt32))] (.int 0)
set_option maxRecDepth 65536 in
set_option maxHeartbeats 40000000 in
theorem cps2 (l : Launch) (Z : State) (av0 : Array Value) (hw : ∀ d ∈ tables_1, d.before av0 Z = true) (ws : List Jvm.Cond) (a0 : Addr) (c0 : Int32) (c1 : Int32) (k0 : ClassId) (h0 : Heap) (n0 : Nat) (Z0 : n0 ≤ h0.size) (p0_A : Arv Z h0 a0 k0 .char (2 : Int32) [(.int c0), (.int c1)] (.int 0)) (hc_0 : ¬ ((255 : Int32) < c0)) (hc_1 : ¬ ((255 : Int32) < c1)) :
    MetFree l (⟨"java/lang/StringUTF16", "compress", "([CII)[B"⟩ : MethodName) (head1 (Jvm.Cond.code (⟨"java/lang/StringUTF16", "compress", "([CII)[B"⟩ : MethodName) jdk_52_method_16_code 6 (some (.array .byte)) :: ws) ({ frames := 1, cells := 1, slots := 2, locals := 18 } : Room)) (fun a U => a = #[(.ref a0), (.int 0), (.int 2)] ∧ Z.Warmed39 U.vm ∧ U.heap = h0) (fun _ _ _ _ _ => True) (fun _ U o U' => ∃ v L, o = .returned v ∧ Q_cps2 Z a0 c0 c1 k0 h0 n0 v U'.heap L ∧ FrameEnd U o U' L ({ frames := 1, cells := 1, slots := 2, locals := 18 } : Room).cells ({ frames := 1, cells := 1, slots := 2, locals := 18 } : Room).slots) := by
  refine MetFree.of_bodySF (plainFor_of_name pn_java_lang_StringUTF16) hisR ?_
  intro p e s m args below meth c s₁ Bd hml0 hP hK
  obtain ⟨rfl, hZ, hh⟩ := hP
  have hx := Bd.exec
  have hby := Bd.bytes
  have hml : c.maxLocals = 6 := hml0
  have hown : s.vm.findClass "java/lang/StringUTF16" = some m.cls := findClass_of_methodNamed Bd.named
  have hnm := (name_of_methodNamed Bd.named Bd.method).1
  have X0 : Stand p l e ({ frames := 1, cells := 1, slots := 2, locals := 18 } : Room) s m #[(.ref a0), (.int 0), (.int 2)] below meth c s₁ [] 0 0 := Stand.of_body Bd
  have e0 : s₁.heap = h0 := by rw [← hh, Bd.state]; rfl
  have N0 := Fr.nil n0
  have pre0 : ∀ tz_, Steps p.tables e below (s₁.setTop (mkF m 0 #[.val (.ref a0), .val (.int 0), .val (.int 2), .unset, .unset, .unset] [])) tz_ → Steps p.tables e below (s₁.setTop (entryFrame m #[(.ref a0), (.int 0), (.int 2)] 6)) tz_ := fun tz_ kz_ => castTop (ef_cps2 m a0) kz_
  have K0 : Keep h0 h0 [] := Keep.refl h0 []
  obtain ⟨T31, h31, k31, X31, e31, E31, A31, st31⟩ := newP X0 hx hZ (hw _ (List.mem_of_getElem? (i := 23) rfl)) e0 (g := (mkF m 1 #[.val (.ref a0), .val (.int 0), .val (.int 2), .unset, .unset, .unset] [(.int 2)])) rfl (hb hby d5_1) rfl (by decide) (cap := 2) (by decide) (by decide) (by decide) (by decide)
  obtain ⟨b31, q31⟩ : ∃ z, z = h0.size := ⟨_, rfl⟩
  rw [← q31] at A31 st31
  have g_b31 : n0 ≤ b31 := Nat.le_trans (Nat.le_trans Z0 K0.1) (Nat.le_of_eq q31.symm)
  have sz_b31 : h0.size ≤ b31 := Nat.le_trans K0.1 (Nat.le_of_eq q31.symm)
  have V31 : Arv Z h31 b31 k31 .byte (2 : Int32) [(.int 0), (.int 0)] (.int 0) := (Arv.new A31 (by decide)).pad (pad_rep [] (.int 0) 2)
  have K32 := K0.ext E31
  have f33 := (p0_A.ext E31)
  have ne34 : a0 ≠ b31 := (Nat.ne_of_lt (Nat.lt_of_lt_of_le p0_A.lt (Nat.le_of_eq q31.symm)))
  -- pc 9: StringUTF16.compress
  obtain ⟨_, _, ⟨T35, L35, k35, n35⟩, -, X35, ⟨Lc35, hQ35, l35, y35, z35⟩, st35⟩ := Jvm.LawKit.callS X31 hx (y := (⟨"java/lang/StringUTF16", "compress", "([CI[BII)I"⟩ : MethodName)) hown (mvT hZ (hw _ (List.mem_of_getElem? (i := 24) rfl))) (mvT hZ (hw _ (List.mem_of_getElem? (i := 25) rfl))) (mvT hZ (hw _ (List.mem_of_getElem? (i := 21) rfl))) (mvT hZ (hw _ (List.mem_of_getElem? (i := 26) rfl))) (by decide) (backOf (W := 0) (cmp2 l Z av0 hw [] a0 b31 c0 c1 k0 k31 h31 n0 (Nat.le_trans Z0 K32.1) f33 V31 ne34 g_b31 (hc_0 : ¬ ((255 : Int32) < c0)) (hc_1 : ¬ ((255 : Int32) < c1))) hZ (hw _ (List.mem_of_getElem? (i := 26) rfl)) (hw _ (List.mem_of_getElem? (i := 21) rfl)) (by decide) (by decide)) (g := (mkF m 9 #[.val (.ref a0), .val (.int 0), .val (.int 2), .val (.ref b31), .unset, .unset] [(.int 2), (.int 0), (.ref b31), (.int 0), (.ref a0)])) rfl (by rw [hml]; rfl) (argsL := [(.ref a0), (.int 0), (.ref b31), (.int 0), (.int 2)]) (rest := []) (lenOf pd_5 rfl) rfl (by show 2 * 0 + _ ≤ _; exact Nat.le_of_eq rfl) (hb hby d5_9) (fun vmx hWx => ⟨rfl, e31, (by decide : 1 + 0 ≤ _), (by decide : 2 + 0 ≤ _)⟩)
  dsimp only [Pt.U, Pt.locs, Pt.cells, Pt.slots] at X35 l35 y35 z35 st35 hQ35
  subst l35 y35 z35
  obtain ⟨rv35, Nq35, Kq35, u35_0⟩ := hQ35
  subst rv35
  have N35 := Fr.app N0 Nq35
  have K36 := K32.trans Kq35 (allS (Or.inr sz_b31) all0)
  obtain ⟨fs, hrL, hrun, hended, hW, hsame⟩ := X35.leave (v := some (.ref b31)) (fun h => by rw [Bd.returns] at h; cases h)
  refine ⟨_, _, pre0 _ ?_, hrun, hended, _, _, rfl, ?_, ⟨_, rfl⟩, hW, hsame.mono (by decide) (by decide)⟩
  · show Steps p.tables e below (s₁.setTop (mkF m 0 #[.val (.ref a0), .val (.int 0), .val (.int 2), .unset, .unset, .unset] [])) _
    refine XS.iloadN X0.here hx rfl (hb hby d5_0) rfl ?_
    show Steps p.tables e below (s₁.setTop (mkF m 1 #[.val (.ref a0), .val (.int 0), .val (.int 2), .unset, .unset, .unset] [(.int 2)])) _
    refine st31 _ ?_
    refine XS.astoreN X31.here hx rfl (hb hby d5_3) rfl rfl (l' := #[.val (.ref a0), .val (.int 0), .val (.int 2), .val (.ref b31), .unset, .unset]) rfl ?_
    show Steps p.tables e below (T31.setTop (mkF m 4 #[.val (.ref a0), .val (.int 0), .val (.int 2), .val (.ref b31), .unset, .unset] [])) _
    refine XS.aloadN X31.here hx rfl (hb hby d5_4) rfl rfl ?_
    refine XS.iloadN X31.here hx rfl (hb hby d5_5) rfl ?_
    refine XS.aloadN X31.here hx rfl (hb hby d5_6) rfl rfl ?_
    refine XS.iconst X31.here hx rfl (hb hby d5_7) ?_
    show Steps p.tables e below (T31.setTop (mkF m 8 #[.val (.ref a0), .val (.int 0), .val (.int 2), .val (.ref b31), .unset, .unset] [(.int 0), (.ref b31), (.int 0), (.ref a0)])) _
    refine XS.iloadN X31.here hx rfl (hb hby d5_8) rfl ?_
    show Steps p.tables e below (T31.setTop (mkF m 9 #[.val (.ref a0), .val (.int 0), .val (.int 2), .val (.ref b31), .unset, .unset] [(.int 2), (.int 0), (.ref b31), (.int 0), (.ref a0)])) _
    refine st35 _ ?_
    refine XS.istore X35.here hx rfl (hb hby d5_12) rfl (l' := #[.val (.ref a0), .val (.int 0), .val (.int 2), .val (.ref b31), .val (.int 2), .unset]) rfl ?_
    refine XS.iload X35.here hx rfl (hb hby d5_14) rfl ?_
    show Steps p.tables e below (T35.setTop (mkF m 16 #[.val (.ref a0), .val (.int 0), .val (.int 2), .val (.ref b31), .val (.int 2), .unset] [(.int 2)])) _
    refine XS.iloadN X35.here hx rfl (hb hby d5_16) rfl ?_
    show Steps p.tables e below (T35.setTop (mkF m 17 #[.val (.ref a0), .val (.int 0), .val (.int 2), .val (.ref b31), .val (.int 2), .unset] [(.int 2), (.int 2)])) _
    refine XS.icmpYes X35.here hx rfl (pc0 := 17) (pc' := 57) rfl (hb hby d5_17) rfl (teq (by decide : (2 : Int32) = (2 : Int32))).1 (by decide) (by decide) ?_
    refine XS.aloadN X35.here hx rfl (hb hby d5_57) rfl rfl ?_
    show Steps p.tables e below (T35.setTop (mkF m 58 #[.val (.ref a0), .val (.int 0), .val (.int 2), .val (.ref b31), .val (.int 2), .unset] [(.ref b31)])) _
    exact retOut X35 hx Bd.returns rfl (Or.inr (Or.inr (Or.inr (Or.inr ⟨rfl, rfl, rfl⟩)))) (hb hby d5_58) hrL
  · show Q_cps2 _ _ _ _ _ _ _ _  T35.heap _
    exact ⟨b31, k31, rfl, N35, K36, sz_b31, u35_0⟩
theorem ef_cfl2 (m : MethodId) (a0 : Addr) : entryFrame m #[(.ref a0), (.int 2)] 2 = mkF m 0 #[.val (.ref a0), .val (.int 2)] [] := by first | (simp [entryFrame, mkF, argsToLocals, Value.category]; done) | rfl
def Q_cfl2 (Z : State) (a0 : Addr) (vs : List Value) (k0 : ClassId) (h0 : Heap) (n0 : Nat) (v : Option Value) (h : Heap) (L : List Loc) : Prop := v = some (.int 0) ∧ Fr n0 L ∧ h = h0
set_option maxRecDepth 65536 in
set_option maxHeartbeats 40000000 in
theorem cfl2 (l : Launch) (Z : State) (av0 : Array Value) (hw : ∀ d ∈ tables_1, d.before av0 Z = true) (ws : List Jvm.Cond) (a0 : Addr) (vs : List Value) (k0 : ClassId) (h0 : Heap) (n0 : Nat) (Z0 : n0 ≤ h0.size) (p0_A : Arv Z h0 a0 k0 .byte (2 : Int32) vs (.int 0)) :
    MetFree l (⟨"java/lang/StringUTF16", "coderFromArrayLen", "([BI)B"⟩ : MethodName) (head1 (Jvm.Cond.code (⟨"java/lang/StringUTF16", "coderFromArrayLen", "([BI)B"⟩ : MethodName) jdk_52_method_15_code 2 (some .byte) :: ws) ({ frames := 0, cells := 0, slots := 0, locals := 0 } : Room)) (fun a U => a = #[(.ref a0), (.int 2)] ∧ Z.Warmed39 U.vm ∧ U.heap = h0) (fun _ _ _ _ _ => True) (fun _ U o U' => ∃ v L, o = .returned v ∧ Q_cfl2 Z a0 vs k0 h0 n0 v U'.heap L ∧ FrameEnd U o U' L ({ frames := 0, cells := 0, slots := 0, locals := 0 } : Room).cells ({ frames := 0, cells := 0, slots := 0, locals := 0 } : Room).slots) := by
  refine MetFree.of_bodySF (plainFor_of_name pn_java_lang_StringUTF16) hisR ?_
  intro p e s m args below meth c s₁ Bd hml0 hP hK
  obtain ⟨rfl, hZ, hh⟩ := hP
  have hx := Bd.exec
  have hby := Bd.bytes
  have hml : c.maxLocals = 2 := hml0
  have hown : s.vm.findClass "java/lang/StringUTF16" = some m.cls := findClass_of_methodNamed Bd.named
  have hnm := (name_of_methodNamed Bd.named Bd.method).1
  have X0 : Stand p l e ({ frames := 0, cells := 0, slots := 0, locals := 0 } : Room) s m #[(.ref a0), (.int 2)] below meth c s₁ [] 0 0 := Stand.of_body Bd
  have e0 : s₁.heap = h0 := by rw [← hh, Bd.state]; rfl
  have N0 := Fr.nil n0
  have pre0 : ∀ tz_, Steps p.tables e below (s₁.setTop (mkF m 0 #[.val (.ref a0), .val (.int 2)] [])) tz_ → Steps p.tables e below (s₁.setTop (entryFrame m #[(.ref a0), (.int 2)] 2)) tz_ := fun tz_ kz_ => castTop (ef_cfl2 m a0) kz_
  obtain ⟨cl31, Ar31, -, qs31, qn31, -, -⟩ := id p0_A
  obtain ⟨fs, hrL, hrun, hended, hW, hsame⟩ := X0.leave (v := some (.int 0)) (fun h => by rw [Bd.returns] at h; cases h)
  refine ⟨_, _, pre0 _ ?_, hrun, hended, _, _, rfl, ?_, ⟨_, rfl⟩, hW, hsame.mono (by decide) (by decide)⟩
  · show Steps p.tables e below (s₁.setTop (mkF m 0 #[.val (.ref a0), .val (.int 2)] [])) _
    refine XS.iloadN X0.here hx rfl (hb hby d7_0) rfl ?_
    refine XS.aloadN X0.here hx rfl (hb hby d7_1) rfl rfl ?_
    show Steps p.tables e below (s₁.setTop (mkF m 2 #[.val (.ref a0), .val (.int 2)] [(.ref a0), (.int 2)])) _
    refine X0.arraylength hx (by rw [e0]; exact Ar31.1) (State.isArrayOf_alike hZ.alike Ar31.2.1) (g := (mkF m 2 #[.val (.ref a0), .val (.int 2)] [(.ref a0), (.int 2)])) rfl rfl (hb hby d7_2) _ ?_
    rw [len_of qs31 qn31]
    show Steps p.tables e below (s₁.setTop (mkF m 3 #[.val (.ref a0), .val (.int 2)] [(.int 2), (.int 2)])) _
    refine XS.isub X0.here hx rfl (hb hby d7_3) rfl ?_
    show Steps p.tables e below (s₁.setTop (mkF m 4 #[.val (.ref a0), .val (.int 2)] [(.int ((2 : Int32) - (2 : Int32)))])) _
    rw [show ((2 : Int32) - (2 : Int32)) = (0 : Int32) from by decide]
    refine XS.bipush X0.here hx rfl (hb hby d7_4) ?_
    show Steps p.tables e below (s₁.setTop (mkF m 6 #[.val (.ref a0), .val (.int 2)] [(.int 31), (.int 0)])) _
    refine XS.iushr X0.here hx rfl (hb hby d7_6) rfl ?_
    show Steps p.tables e below (s₁.setTop (mkF m 7 #[.val (.ref a0), .val (.int 2)] [(.int (((0 : Int32).toUInt32 >>> ((31 : Int32) &&& 31).toUInt32).toInt32))])) _
    rw [show (((0 : Int32).toUInt32 >>> ((31 : Int32) &&& 31).toUInt32).toInt32) = (0 : Int32) from by decide]
    show Steps p.tables e below (s₁.setTop (mkF m 7 #[.val (.ref a0), .val (.int 2)] [(.int 0)])) _
    refine XS.i2b X0.here hx rfl (hb hby d7_7) rfl ?_
    show Steps p.tables e below (s₁.setTop (mkF m 8 #[.val (.ref a0), .val (.int 2)] [(.int ((0 : Int32).toInt8.toInt32))])) _
    rw [show ((0 : Int32).toInt8.toInt32) = (0 : Int32) from by decide]
    show Steps p.tables e below (s₁.setTop (mkF m 8 #[.val (.ref a0), .val (.int 2)] [(.int 0)])) _
    exact retN X0 hx (t := .byte) Bd.returns (by simp) (hb hby d7_8) hrL
  · show Q_cfl2 _ _ _ _ _ _ _  s₁.heap _
    rw [e0]
    exact ⟨rfl, N0, rfl⟩
theorem ef_si2 (m : MethodId) (a0 : Addr) (a1 : Addr) : entryFrame m #[(.ref a0), (.ref a1), (.int 0), (.int 2), .null] 6 = mkF m 0 #[.val (.ref a0), .val (.ref a1), .val (.int 0), .val (.int 2), .val .null, .unset] [] := by first | (simp [entryFrame, mkF, argsToLocals, Value.category]; done) | rfl
def Q_si2 (Z : State) (a0 : Addr) (a1 : Addr) (c0 : Int32) (c1 : Int32) (k0 : ClassId) (cs : Int32) (h0 : Heap) (n0 : Nat) (v : Option Value) (h : Heap) (L : List Loc) : Prop := ∃ b : Addr, ∃ kb : ClassId, v = none ∧ Fr n0 L ∧ Keep h0 h [a0] ∧ h0.size ≤ b ∧ Exa Z h a0 "java/lang/String" ∧ Fld Z h a0 "java/lang/String" "value" "[B" (.ref b) ∧ Fld Z h a0 "java/lang/String" "coder" "B" (.int 0) ∧ Arv Z h b kb .byte (2 : Int32) [(.int (c0.toInt8.toInt32)), (.int (c1.toInt8.toInt32))] (.int 0)
set_option maxRecDepth 65536 in
set_option maxHeartbeats 40000000 in
theorem si2 (l : Launch) (Z : State) (av0 : Array Value) (hw : ∀ d ∈ tables_1, d.before av0 Z = true) (ws : List Jvm.Cond) (a0 : Addr) (a1 : Addr) (c0 : Int32) (c1 : Int32) (k0 : ClassId) (cs : Int32) (h0 : Heap) (n0 : Nat) (Z0 : n0 ≤ h0.size) (p0_O : Old Z n0 h0) (p1_S : Sta Z Z.heap "java/lang/String" "COMPACT_STRINGS" "Z" (.int cs)) (hcs : ¬ (cs = (0 : Int32))) (p3_E : Exa Z h0 a0 "java/lang/String") (p4_F : Fld Z h0 a0 "java/lang/String" "value" "[B" .null) (p5_F : Fld Z h0 a0 "java/lang/String" "coder" "B" (.int 0)) (p6_g : n0 ≤ a0) (p7_A : Arv Z h0 a1 k0 .char (2 : Int32) [(.int c0), (.int c1)] (.int 0)) (p8_ne : a0 ≠ a1) (hc_0 : ¬ ((255 : Int32) < c0)) (hc_1 : ¬ ((255 : Int32) < c1)) :
    MetFree l (⟨"java/lang/String", "<init>", "([CIILjava/lang/Void;)V"⟩ : MethodName) (head1 (Jvm.Cond.code (⟨"java/lang/String", "<init>", "([CIILjava/lang/Void;)V"⟩ : MethodName) jdk_42_method_149_code 6 none :: ws) ({ frames := 2, cells := 1, slots := 2, locals := 35 } : Room)) (fun a U => a = #[(.ref a0), (.ref a1), (.int 0), (.int 2), .null] ∧ Z.Warmed39 U.vm ∧ U.heap = h0) (fun _ _ _ _ _ => True) (fun _ U o U' => ∃ v L, o = .returned v ∧ Q_si2 Z a0 a1 c0 c1 k0 cs h0 n0 v U'.heap L ∧ FrameEnd U o U' L ({ frames := 2, cells := 1, slots := 2, locals := 35 } : Room).cells ({ frames := 2, cells := 1, slots := 2, locals := 35 } : Room).slots) := by
  refine MetFree.of_bodySF (plainFor_of_name pn_java_lang_String) hisR ?_
  intro p e s m args below meth c s₁ Bd hml0 hP hK
  obtain ⟨rfl, hZ, hh⟩ := hP
  have hx := Bd.exec
  have hby := Bd.bytes
  have hml : c.maxLocals = 6 := hml0
  have hown : s.vm.findClass "java/lang/String" = some m.cls := findClass_of_methodNamed Bd.named
  have hnm := (name_of_methodNamed Bd.named Bd.method).1
  have X0 : Stand p l e ({ frames := 2, cells := 1, slots := 2, locals := 35 } : Room) s m #[(.ref a0), (.ref a1), (.int 0), (.int 2), .null] below meth c s₁ [] 0 0 := Stand.of_body Bd
  have e0 : s₁.heap = h0 := by rw [← hh, Bd.state]; rfl
  have N0 := Fr.nil n0
  have pre0 : ∀ tz_, Steps p.tables e below (s₁.setTop (mkF m 0 #[.val (.ref a0), .val (.ref a1), .val (.int 0), .val (.int 2), .val .null, .unset] [])) tz_ → Steps p.tables e below (s₁.setTop (entryFrame m #[(.ref a0), (.ref a1), (.int 0), (.int 2), .null] 6)) tz_ := fun tz_ kz_ => castTop (ef_si2 m a0 a1) kz_
  have K0 : Keep h0 h0 [a0] := Keep.refl h0 [a0]
  obtain ⟨T31, X31, e31, st31⟩ := initO X0 hx hZ hown (hw _ (List.mem_of_getElem? (i := 15) rfl)) (hw _ (List.mem_of_getElem? (i := 16) rfl)) (hw _ (List.mem_of_getElem? (i := 17) rfl)) e0 (g := (mkF m 1 #[.val (.ref a0), .val (.ref a1), .val (.int 0), .val (.int 2), .val .null, .unset] [(.ref a0)])) rfl (by rw [hml]; rfl) rfl (hb hby d3_1) (by decide) (W := 0) (by show 2 * 0 + _ ≤ _; exact Nat.le_of_eq rfl) (by decide)
  obtain ⟨T32, X32, e32, st32⟩ := getS2 X31 hx hZ hown (host := "") (Or.inl (hw _ (List.mem_of_getElem? (i := 18) rfl))) Via.refl e31 (p1_S.ext p0_O.2) (g := (mkF m 27 #[.val (.ref a0), .val (.ref a1), .val (.int 0), .val (.int 2), .val .null, .unset] [])) rfl (hb hby d3_27)
  -- pc 36: StringUTF16.compress
  obtain ⟨_, _, ⟨T33, L33, k33, n33⟩, -, X33, ⟨Lc33, hQ33, l33, y33, z33⟩, st33⟩ := Jvm.LawKit.callS X32 hx (y := (⟨"java/lang/StringUTF16", "compress", "([CII)[B"⟩ : MethodName)) hown (mvT hZ (hw _ (List.mem_of_getElem? (i := 19) rfl))) (mvT hZ (hw _ (List.mem_of_getElem? (i := 20) rfl))) (mvT hZ (hw _ (List.mem_of_getElem? (i := 21) rfl))) (mvT hZ (hw _ (List.mem_of_getElem? (i := 22) rfl))) (by decide) (backOf (W := 0) (cps2 l Z av0 hw [] a1 c0 c1 k0 h0 n0 (own_le p0_O) p7_A (hc_0 : ¬ ((255 : Int32) < c0)) (hc_1 : ¬ ((255 : Int32) < c1))) hZ (hw _ (List.mem_of_getElem? (i := 22) rfl)) (hw _ (List.mem_of_getElem? (i := 21) rfl)) (by decide) (by decide)) (g := (mkF m 36 #[.val (.ref a0), .val (.ref a1), .val (.int 0), .val (.int 2), .val .null, .unset] [(.int 2), (.int 0), (.ref a1)])) rfl (by rw [hml]; rfl) (argsL := [(.ref a1), (.int 0), (.int 2)]) (rest := []) (lenOf pd_4 rfl) rfl (by show 2 * 0 + _ ≤ _; exact Nat.le_of_eq rfl) (hb hby d3_36) (fun vmx hWx => ⟨rfl, e32, (by decide : 0 + 1 ≤ _), (by decide : 0 + 2 ≤ _)⟩)
  dsimp only [Pt.U, Pt.locs, Pt.cells, Pt.slots] at X33 l33 y33 z33 st33 hQ33
  subst l33 y33 z33
  obtain ⟨b_33, kb_33, rv33, Nq33, Kq33, u33_0, u33_1⟩ := hQ33
  subst rv33
  have N33 := Fr.app N0 Nq33
  have g_b_33 : n0 ≤ b_33 := Nat.le_trans (own_le p0_O) u33_0
  have sz_b_33 : h0.size ≤ b_33 := Nat.le_trans K0.1 u33_0
  have K34 := K0.trans Kq33 all0
  have O34 := p0_O.keep Kq33 all0
  -- pc 45: StringUTF16.coderFromArrayLen
  obtain ⟨_, _, ⟨T35, L35, k35, n35⟩, -, X35, ⟨Lc35, hQ35, l35, y35, z35⟩, st35⟩ := Jvm.LawKit.callS X33 hx (y := (⟨"java/lang/StringUTF16", "coderFromArrayLen", "([BI)B"⟩ : MethodName)) hown (mvT hZ (hw _ (List.mem_of_getElem? (i := 27) rfl))) (mvT hZ (hw _ (List.mem_of_getElem? (i := 28) rfl))) (mvT hZ (hw _ (List.mem_of_getElem? (i := 21) rfl))) (mvT hZ (hw _ (List.mem_of_getElem? (i := 29) rfl))) (by decide) (backOf (W := 1) (cfl2 l Z av0 hw [] b_33 [(.int (c0.toInt8.toInt32)), (.int (c1.toInt8.toInt32))] kb_33 T33.heap n0 (own_le O34) u33_1) hZ (hw _ (List.mem_of_getElem? (i := 29) rfl)) (hw _ (List.mem_of_getElem? (i := 21) rfl)) (by decide) (by decide)) (g := (mkF m 45 #[.val (.ref a0), .val (.ref a1), .val (.int 0), .val (.int 2), .val .null, .val (.ref b_33)] [(.int 2), (.ref b_33), (.ref a0)])) rfl (by rw [hml]; rfl) (argsL := [(.ref b_33), (.int 2)]) (rest := [(.ref a0)]) (lenOf pd_6 rfl) rfl (by show 2 * 0 + _ ≤ _; exact Nat.le_of_eq rfl) (hb hby d3_45) (fun vmx hWx => ⟨rfl, rfl, (by decide : 1 + 0 ≤ _), (by decide : 2 + 0 ≤ _)⟩)
  dsimp only [Pt.U, Pt.locs, Pt.cells, Pt.slots] at X35 l35 y35 z35 st35 hQ35
  subst l35 y35 z35
  obtain ⟨rv35, Nq35, Kq35⟩ := hQ35
  subst rv35
  have N35 := Fr.app N33 Nq35
  have f36 := (p5_F.keep Kq33 nin0)
  have f37 := (p3_E.keep Kq33)
  obtain ⟨T38, h38, X38, e38, W38, st38⟩ := putF X35 hx hZ hown (host := "") (Or.inl (hw _ (List.mem_of_getElem? (i := 30) rfl))) Via.refl Kq35 f36 f37 (Or.inr ⟨(hw _ (List.mem_of_getElem? (i := 31) rfl)), rfl, hnm⟩) (hw _ (List.mem_of_getElem? (i := 6) rfl)) (ty := .byte) (by decide) rfl rfl (g := (mkF m 48 #[.val (.ref a0), .val (.ref a1), .val (.int 0), .val (.int 2), .val .null, .val (.ref b_33)] [(.int 0), (.ref a0)])) rfl rfl (hb hby d3_48)
  have Fw38 : Fld Z h38 a0 "java/lang/String" "coder" "B" (.int 0) := f36.same W38
  have N38 := Fr.snoc X38 N35 p6_g
  have K39 := K34.wr W38 (Or.inl (List.mem_of_getElem? (i := 0) rfl))
  have O39 := O34.wr W38 p6_g
  have f40 := ((p4_F.keep Kq33 nin0).other W38 (Or.inr (slot_ne (Or.inr (hw _ (List.mem_of_getElem? (i := 33) rfl))) (Or.inr (hw _ (List.mem_of_getElem? (i := 31) rfl))) (by decide) (t := (.array .byte)) (t' := .byte) (by decide) (by decide))))
  have f41 := (f37.wr W38)
  obtain ⟨T42, h42, X42, e42, W42, st42⟩ := putF X38 hx hZ hown (host := "") (Or.inl (hw _ (List.mem_of_getElem? (i := 32) rfl))) Via.refl e38 f40 f41 (Or.inr ⟨(hw _ (List.mem_of_getElem? (i := 33) rfl)), rfl, hnm⟩) (hw _ (List.mem_of_getElem? (i := 6) rfl)) (ty := (.array .byte)) (by decide) rfl rfl (g := (mkF m 54 #[.val (.ref a0), .val (.ref a1), .val (.int 0), .val (.int 2), .val .null, .val (.ref b_33)] [(.ref b_33), (.ref a0)])) rfl rfl (hb hby d3_54)
  have Fw42 : Fld Z h42 a0 "java/lang/String" "value" "[B" (.ref b_33) := f40.same W42
  have N42 := Fr.snoc X42 N38 p6_g
  have K43 := K39.wr W42 (Or.inl (List.mem_of_getElem? (i := 0) rfl))
  have O43 := O39.wr W42 p6_g
  obtain ⟨fs, hrL, hrun, hended, hW, hsame⟩ := X42.leave (v := none) (fun _ => rfl)
  have f44 := (f41.wr W42)
  have f45 := (Fw38.other W42 (Or.inr (slot_ne (Or.inr (hw _ (List.mem_of_getElem? (i := 31) rfl))) (Or.inr (hw _ (List.mem_of_getElem? (i := 33) rfl))) (by decide) (t := .byte) (t' := (.array .byte)) (by decide) (by decide))))
  have ne46 : b_33 ≠ a0 := (Ne.symm (Nat.ne_of_lt (Nat.lt_of_lt_of_le p3_E.lt u33_0)))
  have f47 := ((u33_1.other W38 ne46).other W42 ne46)
  refine ⟨_, _, pre0 _ ?_, hrun, hended, _, _, rfl, ?_, ⟨_, rfl⟩, hW, hsame.mono (by decide) (by decide)⟩
  · show Steps p.tables e below (s₁.setTop (mkF m 0 #[.val (.ref a0), .val (.ref a1), .val (.int 0), .val (.int 2), .val .null, .unset] [])) _
    refine XS.aloadN X0.here hx rfl (hb hby d3_0) rfl rfl ?_
    show Steps p.tables e below (s₁.setTop (mkF m 1 #[.val (.ref a0), .val (.ref a1), .val (.int 0), .val (.int 2), .val .null, .unset] [(.ref a0)])) _
    refine st31 _ ?_
    refine XS.iloadN X31.here hx rfl (hb hby d3_4) rfl ?_
    show Steps p.tables e below (T31.setTop (mkF m 5 #[.val (.ref a0), .val (.ref a1), .val (.int 0), .val (.int 2), .val .null, .unset] [(.int 2)])) _
    refine XS.ifYes X31.here hx rfl (pc0 := 5) (pc' := 27) rfl (hb hby d3_5) rfl ((if0 _ _).trans (feq (by decide : ¬ ((2 : Int32) = (0 : Int32)))).2) (by decide) (by decide) ?_
    show Steps p.tables e below (T31.setTop (mkF m 27 #[.val (.ref a0), .val (.ref a1), .val (.int 0), .val (.int 2), .val .null, .unset] [])) _
    refine st32 _ ?_
    show Steps p.tables e below (T32.setTop (mkF m 30 #[.val (.ref a0), .val (.ref a1), .val (.int 0), .val (.int 2), .val .null, .unset] [(.int cs)])) _
    refine XS.ifNo X32.here hx rfl (hb hby d3_30) rfl ((if0 _ _).trans (feq hcs).1) ?_
    refine XS.aloadN X32.here hx rfl (hb hby d3_33) rfl rfl ?_
    show Steps p.tables e below (T32.setTop (mkF m 34 #[.val (.ref a0), .val (.ref a1), .val (.int 0), .val (.int 2), .val .null, .unset] [(.ref a1)])) _
    refine XS.iloadN X32.here hx rfl (hb hby d3_34) rfl ?_
    refine XS.iloadN X32.here hx rfl (hb hby d3_35) rfl ?_
    show Steps p.tables e below (T32.setTop (mkF m 36 #[.val (.ref a0), .val (.ref a1), .val (.int 0), .val (.int 2), .val .null, .unset] [(.int 2), (.int 0), (.ref a1)])) _
    refine st33 _ ?_
    refine XS.astore X33.here hx rfl (hb hby d3_39) rfl rfl (l' := #[.val (.ref a0), .val (.ref a1), .val (.int 0), .val (.int 2), .val .null, .val (.ref b_33)]) rfl ?_
    show Steps p.tables e below (T33.setTop (mkF m 41 #[.val (.ref a0), .val (.ref a1), .val (.int 0), .val (.int 2), .val .null, .val (.ref b_33)] [])) _
    refine XS.aloadN X33.here hx rfl (hb hby d3_41) rfl rfl ?_
    refine XS.aload X33.here hx rfl (hb hby d3_42) rfl rfl ?_
    refine XS.iloadN X33.here hx rfl (hb hby d3_44) rfl ?_
    show Steps p.tables e below (T33.setTop (mkF m 45 #[.val (.ref a0), .val (.ref a1), .val (.int 0), .val (.int 2), .val .null, .val (.ref b_33)] [(.int 2), (.ref b_33), (.ref a0)])) _
    refine st35 _ ?_
    show Steps p.tables e below (T35.setTop (mkF m 48 #[.val (.ref a0), .val (.ref a1), .val (.int 0), .val (.int 2), .val .null, .val (.ref b_33)] [(.int 0), (.ref a0)])) _
    refine st38 _ ?_
    refine XS.aloadN X38.here hx rfl (hb hby d3_51) rfl rfl ?_
    refine XS.aload X38.here hx rfl (hb hby d3_52) rfl rfl ?_
    show Steps p.tables e below (T38.setTop (mkF m 54 #[.val (.ref a0), .val (.ref a1), .val (.int 0), .val (.int 2), .val .null, .val (.ref b_33)] [(.ref b_33), (.ref a0)])) _
    refine st42 _ ?_
    show Steps p.tables e below (T42.setTop (mkF m 57 #[.val (.ref a0), .val (.ref a1), .val (.int 0), .val (.int 2), .val .null, .val (.ref b_33)] [])) _
    exact X42.returnOut hx Bd.returns (hb hby d3_57) hrL
  · show Q_si2 _ _ _ _ _ _ _ _ _ _  T42.heap _
    rw [e42]
    exact ⟨b_33, kb_33, rfl, N42, K43, sz_b_33, f44, Fw42, f45, f47⟩
theorem ef_sc2 (m : MethodId) (a0 : Addr) (a1 : Addr) : entryFrame m #[(.ref a0), (.ref a1)] 2 = mkF m 0 #[.val (.ref a0), .val (.ref a1)] [] := by first | (simp [entryFrame, mkF, argsToLocals, Value.category]; done) | rfl
def Q_sc2 (Z : State) (a0 : Addr) (a1 : Addr) (c0 : Int32) (c1 : Int32) (k0 : ClassId) (cs : Int32) (h0 : Heap) (n0 : Nat) (v : Option Value) (h : Heap) (L : List Loc) : Prop := ∃ b : Addr, ∃ kb : ClassId, v = none ∧ Fr n0 L ∧ Keep h0 h [a0] ∧ h0.size ≤ b ∧ Exa Z h a0 "java/lang/String" ∧ Fld Z h a0 "java/lang/String" "value" "[B" (.ref b) ∧ Fld Z h a0 "java/lang/String" "coder" "B" (.int 0) ∧ Arv Z h b kb .byte (2 : Int32) [(.int (c0.toInt8.toInt32)), (.int (c1.toInt8.toInt32))] (.int 0)
set_option maxRecDepth 65536 in
set_option maxHeartbeats 40000000 in
theorem sc2 (l : Launch) (Z : State) (av0 : Array Value) (hw : ∀ d ∈ tables_1, d.before av0 Z = true) (ws : List Jvm.Cond) (a0 : Addr) (a1 : Addr) (c0 : Int32) (c1 : Int32) (k0 : ClassId) (cs : Int32) (h0 : Heap) (n0 : Nat) (Z0 : n0 ≤ h0.size) (p0_O : Old Z n0 h0) (p1_S : Sta Z Z.heap "java/lang/String" "COMPACT_STRINGS" "Z" (.int cs)) (hcs : ¬ (cs = (0 : Int32))) (p3_E : Exa Z h0 a0 "java/lang/String") (p4_F : Fld Z h0 a0 "java/lang/String" "value" "[B" .null) (p5_F : Fld Z h0 a0 "java/lang/String" "coder" "B" (.int 0)) (p6_g : n0 ≤ a0) (p7_A : Arv Z h0 a1 k0 .char (2 : Int32) [(.int c0), (.int c1)] (.int 0)) (p8_ne : a0 ≠ a1) (hc_0 : ¬ ((255 : Int32) < c0)) (hc_1 : ¬ ((255 : Int32) < c1)) :
    MetFree l (⟨"java/lang/String", "<init>", "([C)V"⟩ : MethodName) (head1 (Jvm.Cond.code (⟨"java/lang/String", "<init>", "([C)V"⟩ : MethodName) jdk_42_method_3_code 2 none :: ws) ({ frames := 3, cells := 1, slots := 2, locals := 52 } : Room)) (fun a U => a = #[(.ref a0), (.ref a1)] ∧ Z.Warmed39 U.vm ∧ U.heap = h0) (fun _ _ _ _ _ => True) (fun _ U o U' => ∃ v L, o = .returned v ∧ Q_sc2 Z a0 a1 c0 c1 k0 cs h0 n0 v U'.heap L ∧ FrameEnd U o U' L ({ frames := 3, cells := 1, slots := 2, locals := 52 } : Room).cells ({ frames := 3, cells := 1, slots := 2, locals := 52 } : Room).slots) := by
  refine MetFree.of_bodySF (plainFor_of_name pn_java_lang_String) hisR ?_
  intro p e s m args below meth c s₁ Bd hml0 hP hK
  obtain ⟨rfl, hZ, hh⟩ := hP
  have hx := Bd.exec
  have hby := Bd.bytes
  have hml : c.maxLocals = 2 := hml0
  have hown : s.vm.findClass "java/lang/String" = some m.cls := findClass_of_methodNamed Bd.named
  have hnm := (name_of_methodNamed Bd.named Bd.method).1
  have X0 : Stand p l e ({ frames := 3, cells := 1, slots := 2, locals := 52 } : Room) s m #[(.ref a0), (.ref a1)] below meth c s₁ [] 0 0 := Stand.of_body Bd
  have e0 : s₁.heap = h0 := by rw [← hh, Bd.state]; rfl
  have N0 := Fr.nil n0
  have pre0 : ∀ tz_, Steps p.tables e below (s₁.setTop (mkF m 0 #[.val (.ref a0), .val (.ref a1)] [])) tz_ → Steps p.tables e below (s₁.setTop (entryFrame m #[(.ref a0), (.ref a1)] 2)) tz_ := fun tz_ kz_ => castTop (ef_sc2 m a0 a1) kz_
  have K0 : Keep h0 h0 [a0] := Keep.refl h0 [a0]
  obtain ⟨cl31, Ar31, -, qs31, qn31, -, -⟩ := id p7_A
  -- pc 6: String.init
  obtain ⟨_, _, ⟨T32, L32, k32, n32⟩, -, X32, ⟨Lc32, hQ32, l32, y32, z32⟩, st32⟩ := X0.specialBack hx (y := (⟨"java/lang/String", "<init>", "([CIILjava/lang/Void;)V"⟩ : MethodName)) rfl hown (mvT hZ (hw _ (List.mem_of_getElem? (i := 11) rfl))) (mvT hZ (hw _ (List.mem_of_getElem? (i := 12) rfl))) (mvT hZ (hw _ (List.mem_of_getElem? (i := 14) rfl))) (by decide) (backOf (W := 0) (si2 l Z av0 hw [] a0 a1 c0 c1 k0 cs h0 n0 (own_le p0_O) p0_O p1_S (hcs : ¬ (cs = (0 : Int32))) p3_E p4_F p5_F p6_g p7_A p8_ne (hc_0 : ¬ ((255 : Int32) < c0)) (hc_1 : ¬ ((255 : Int32) < c1))) hZ (hw _ (List.mem_of_getElem? (i := 14) rfl)) (hw _ (List.mem_of_getElem? (i := 7) rfl)) (by decide) (by decide)) (g := (mkF m 6 #[.val (.ref a0), .val (.ref a1)] [.null, (.int 2), (.int 0), (.ref a1), (.ref a0)])) rfl (by rw [hml]; rfl) (Steps.refl _) (a := a0) (argsL := [(.ref a1), (.int 0), (.int 2), .null]) (rest := []) (lenOf pd_2 rfl) rfl (by show 2 * 0 + _ ≤ _; exact Nat.le_of_eq rfl) (hb hby d2_6) (fun vmx hWx => ⟨rfl, e0, (by decide : 0 + 1 ≤ _), (by decide : 0 + 2 ≤ _)⟩)
  dsimp only [Pt.U, Pt.locs, Pt.cells, Pt.slots] at X32 l32 y32 z32 st32 hQ32
  subst l32 y32 z32
  obtain ⟨b_32, kb_32, rv32, Nq32, Kq32, u32_0, u32_1, u32_2, u32_3, u32_4⟩ := hQ32
  subst rv32
  have N32 := Fr.app N0 Nq32
  have g_b_32 : n0 ≤ b_32 := Nat.le_trans (own_le p0_O) u32_0
  have sz_b_32 : h0.size ≤ b_32 := Nat.le_trans K0.1 u32_0
  have K33 := K0.trans Kq32 (allS (Or.inl (List.mem_of_getElem? (i := 0) rfl)) all0)
  have O33 := p0_O.keep Kq32 (allS p6_g all0)
  obtain ⟨fs, hrL, hrun, hended, hW, hsame⟩ := X32.leave (v := none) (fun _ => rfl)
  refine ⟨_, _, pre0 _ ?_, hrun, hended, _, _, rfl, ?_, ⟨_, rfl⟩, hW, hsame.mono (by decide) (by decide)⟩
  · show Steps p.tables e below (s₁.setTop (mkF m 0 #[.val (.ref a0), .val (.ref a1)] [])) _
    refine XS.aloadN X0.here hx rfl (hb hby d2_0) rfl rfl ?_
    refine XS.aloadN X0.here hx rfl (hb hby d2_1) rfl rfl ?_
    refine XS.iconst X0.here hx rfl (hb hby d2_2) ?_
    show Steps p.tables e below (s₁.setTop (mkF m 3 #[.val (.ref a0), .val (.ref a1)] [(.int 0), (.ref a1), (.ref a0)])) _
    refine XS.aloadN X0.here hx rfl (hb hby d2_3) rfl rfl ?_
    show Steps p.tables e below (s₁.setTop (mkF m 4 #[.val (.ref a0), .val (.ref a1)] [(.ref a1), (.int 0), (.ref a1), (.ref a0)])) _
    refine X0.arraylength hx (by rw [e0]; exact Ar31.1) (State.isArrayOf_alike hZ.alike Ar31.2.1) (g := (mkF m 4 #[.val (.ref a0), .val (.ref a1)] [(.ref a1), (.int 0), (.ref a1), (.ref a0)])) rfl rfl (hb hby d2_4) _ ?_
    rw [len_of qs31 qn31]
    refine XS.aconstNull X0.here hx rfl (hb hby d2_5) ?_
    show Steps p.tables e below (s₁.setTop (mkF m 6 #[.val (.ref a0), .val (.ref a1)] [.null, (.int 2), (.int 0), (.ref a1), (.ref a0)])) _
    refine st32.trans ?_
    show Steps p.tables e below (T32.setTop (mkF m 9 #[.val (.ref a0), .val (.ref a1)] [])) _
    exact X32.returnOut hx Bd.returns (hb hby d2_9) hrL
  · show Q_sc2 _ _ _ _ _ _ _ _ _ _  T32.heap _
    exact ⟨b_32, kb_32, rfl, N32, K33, sz_b_32, u32_1, u32_2, u32_3, u32_4⟩
theorem d1_0 : decode method_2_code 0 = .ok (.iload_n 1, 1) := by decide +kernel
theorem d1_1 : decode method_2_code 1 = .ok (.ifCond .eq 37, 3) := by decide +kernel
theorem d1_38 : decode method_2_code 38 = .ok (.iconst 1, 1) := by decide +kernel
theorem d1_39 : decode method_2_code 39 = .ok (.newarray .char, 2) := by decide +kernel
theorem d1_41 : decode method_2_code 41 = .ok (.astore_n 2, 1) := by decide +kernel
theorem d1_42 : decode method_2_code 42 = .ok (.aload_n 2, 1) := by decide +kernel
theorem d1_43 : decode method_2_code 43 = .ok (.iconst 0, 1) := by decide +kernel
theorem d1_44 : decode method_2_code 44 = .ok (.iload_n 0, 1) := by decide +kernel
theorem d1_45 : decode method_2_code 45 = .ok (.sipush 255, 3) := by decide +kernel
theorem d1_48 : decode method_2_code 48 = .ok (.iand, 1) := by decide +kernel
theorem d1_49 : decode method_2_code 49 = .ok (.i2c, 1) := by decide +kernel
theorem d1_50 : decode method_2_code 50 = .ok (.castore, 1) := by decide +kernel
theorem d1_51 : decode method_2_code 51 = .ok (.new 7, 3) := by decide +kernel
theorem d1_54 : decode method_2_code 54 = .ok (.dup, 1) := by decide +kernel
theorem d1_55 : decode method_2_code 55 = .ok (.aload_n 2, 1) := by decide +kernel
theorem d1_56 : decode method_2_code 56 = .ok (.invokespecial 9, 3) := by decide +kernel
theorem pd_1 : parseMethodDescriptor "([C)V" = some ⟨[(.array .char)], none⟩ := by decide +kernel
theorem d1_59 : decode method_2_code 59 = .ok (.areturn, 1) := by decide +kernel
theorem d1_4 : decode method_2_code 4 = .ok (.iconst 2, 1) := by decide +kernel
theorem d1_5 : decode method_2_code 5 = .ok (.newarray .char, 2) := by decide +kernel
theorem d1_7 : decode method_2_code 7 = .ok (.astore_n 2, 1) := by decide +kernel
theorem d1_8 : decode method_2_code 8 = .ok (.aload_n 2, 1) := by decide +kernel
theorem d1_9 : decode method_2_code 9 = .ok (.iconst 0, 1) := by decide +kernel
theorem d1_10 : decode method_2_code 10 = .ok (.iload_n 0, 1) := by decide +kernel
theorem d1_11 : decode method_2_code 11 = .ok (.sipush 255, 3) := by decide +kernel
theorem d1_14 : decode method_2_code 14 = .ok (.iand, 1) := by decide +kernel
theorem d1_15 : decode method_2_code 15 = .ok (.i2c, 1) := by decide +kernel
theorem d1_16 : decode method_2_code 16 = .ok (.castore, 1) := by decide +kernel
theorem d1_17 : decode method_2_code 17 = .ok (.aload_n 2, 1) := by decide +kernel
theorem d1_18 : decode method_2_code 18 = .ok (.iconst 1, 1) := by decide +kernel
theorem d1_19 : decode method_2_code 19 = .ok (.iload_n 0, 1) := by decide +kernel
theorem d1_20 : decode method_2_code 20 = .ok (.bipush 8, 2) := by decide +kernel
theorem d1_22 : decode method_2_code 22 = .ok (.iushr, 1) := by decide +kernel
theorem d1_23 : decode method_2_code 23 = .ok (.sipush 255, 3) := by decide +kernel
theorem d1_26 : decode method_2_code 26 = .ok (.iand, 1) := by decide +kernel
theorem d1_27 : decode method_2_code 27 = .ok (.i2c, 1) := by decide +kernel
theorem d1_28 : decode method_2_code 28 = .ok (.castore, 1) := by decide +kernel
theorem d1_29 : decode method_2_code 29 = .ok (.new 7, 3) := by decide +kernel
theorem d1_32 : decode method_2_code 32 = .ok (.dup, 1) := by decide +kernel
theorem d1_33 : decode method_2_code 33 = .ok (.aload_n 2, 1) := by decide +kernel
theorem d1_34 : decode method_2_code 34 = .ok (.invokespecial 9, 3) := by decide +kernel
theorem d1_37 : decode method_2_code 37 = .ok (.areturn, 1) := by decide +kernel
theorem pn_com_example_callee_callee_model_CallContextAcceptsStreamingPinLaw : plainName "com/example/callee/callee/model/CallContextAcceptsStreamingPinLaw" = true := by first | (simp [plainName, overriddenIn]; done) | decide +kernel
theorem ef_rm1 (m : MethodId) (i0 : Int32) (i1 : Int32) : entryFrame m #[(.int i0), (.int i1)] 3 = mkF m 0 #[.val (.int i0), .val (.int i1), .unset] [] := by first | (simp [entryFrame, mkF, argsToLocals, Value.category]; done) | rfl
def Q_rm1 (Z : State) (i0 : Int32) (i1 : Int32) (cs : Int32) (h0 : Heap) (n0 : Nat) (v : Option Value) (h : Heap) (L : List Loc) : Prop := ∃ b : Addr, v = some (.ref b) ∧ Fr n0 L ∧ Keep h0 h [] ∧ h0.size ≤ b
set_option maxRecDepth 65536 in
set_option maxHeartbeats 40000000 in
theorem rm1 (l : Launch) (Z : State) (av0 : Array Value) (hw : ∀ d ∈ tables_1, d.before av0 Z = true) (ws : List Jvm.Cond) (i0 : Int32) (i1 : Int32) (cs : Int32) (h0 : Heap) (n0 : Nat) (Z0 : n0 ≤ h0.size) (p0_O : Old Z n0 h0) (p1_S : Sta Z Z.heap "java/lang/String" "COMPACT_STRINGS" "Z" (.int cs)) (hcs : ¬ (cs = (0 : Int32))) :
    MetFree l (⟨"com/example/callee/callee/model/CallContextAcceptsStreamingPinLaw", "str", "(IZ)Ljava/lang/String;"⟩ : MethodName) (head1 (Jvm.Cond.code (⟨"com/example/callee/callee/model/CallContextAcceptsStreamingPinLaw", "str", "(IZ)Ljava/lang/String;"⟩ : MethodName) method_2_code 3 (some (.object "java/lang/String")) :: ws) ({ frames := 4, cells := 3, slots := 8, locals := 66 } : Room)) (fun a U => a = #[(.int i0), (.int i1)] ∧ Z.Warmed39 U.vm ∧ U.heap = h0) (fun _ _ _ _ _ => True) (fun _ U o U' => ∃ v L, o = .returned v ∧ Q_rm1 Z i0 i1 cs h0 n0 v U'.heap L ∧ FrameEnd U o U' L ({ frames := 4, cells := 3, slots := 8, locals := 66 } : Room).cells ({ frames := 4, cells := 3, slots := 8, locals := 66 } : Room).slots) := by
  refine MetFree.of_bodySF (plainFor_of_name pn_com_example_callee_callee_model_CallContextAcceptsStreamingPinLaw) hisR ?_
  intro p e s m args below meth c s₁ Bd hml0 hP hK
  obtain ⟨rfl, hZ, hh⟩ := hP
  have hx := Bd.exec
  have hby := Bd.bytes
  have hml : c.maxLocals = 3 := hml0
  have hown : s.vm.findClass "com/example/callee/callee/model/CallContextAcceptsStreamingPinLaw" = some m.cls := findClass_of_methodNamed Bd.named
  have hnm := (name_of_methodNamed Bd.named Bd.method).1
  have X0 : Stand p l e ({ frames := 4, cells := 3, slots := 8, locals := 66 } : Room) s m #[(.int i0), (.int i1)] below meth c s₁ [] 0 0 := Stand.of_body Bd
  have e0 : s₁.heap = h0 := by rw [← hh, Bd.state]; rfl
  have N0 := Fr.nil n0
  have pre0 : ∀ tz_, Steps p.tables e below (s₁.setTop (mkF m 0 #[.val (.int i0), .val (.int i1), .unset] [])) tz_ → Steps p.tables e below (s₁.setTop (entryFrame m #[(.int i0), (.int i1)] 3)) tz_ := fun tz_ kz_ => castTop (ef_rm1 m i0 i1) kz_
  have K0 : Keep h0 h0 [] := Keep.refl h0 []
  have pre31 : ∀ tz_, Steps p.tables e below (s₁.setTop (mkF m 1 #[.val (.int i0), .val (.int i1), .unset] [(.int i1)])) tz_ → Steps p.tables e below (s₁.setTop (entryFrame m #[(.int i0), (.int i1)] 3)) tz_ := fun tz_ kk => pre0 tz_ (by
    show Steps p.tables e below (s₁.setTop (mkF m 0 #[.val (.int i0), .val (.int i1), .unset] [])) _
    refine XS.iloadN X0.here hx rfl (hb hby d1_0) rfl ?_
    exact kk)
  by_cases hc32 : i1 = (0 : Int32)
  · skip
    obtain ⟨T33, h33, k33, X33, e33, E33, A33, st33⟩ := newP X0 hx hZ (hw _ (List.mem_of_getElem? (i := 4) rfl)) e0 (g := (mkF m 39 #[.val (.int i0), .val (.int i1), .unset] [(.int 1)])) rfl (hb hby d1_39) rfl (by decide) (cap := 1) (by decide) (by decide) (by decide) (by decide)
    obtain ⟨b33, q33⟩ : ∃ z, z = h0.size := ⟨_, rfl⟩
    rw [← q33] at A33 st33
    have g_b33 : n0 ≤ b33 := Nat.le_trans (own_le p0_O) (Nat.le_of_eq q33.symm)
    have sz_b33 : h0.size ≤ b33 := Nat.le_trans K0.1 (Nat.le_of_eq q33.symm)
    have V33 : Arv Z h33 b33 k33 .char (1 : Int32) [(.int 0)] (.int 0) := (Arv.new A33 (by decide)).pad (pad_rep [] (.int 0) 1)
    have K34 := K0.ext E33
    have O34 := p0_O.ext E33
    obtain ⟨cl35, Ar35, qk35, qs35, qn35, qh35, qg35⟩ := id V33
    have hin35 : ¬ ((0 : Int32) < 0 ∨ cl35.slots.size ≤ ((0 : Int32)).toNatClampNeg) := inb_of qs35 ⟨by decide, by decide⟩
    obtain ⟨T36, h36, X36, e36, W36, st36⟩ := stC X33 hx hZ e33 Ar35 (j := (0 : Int32)) hin35 (g := (mkF m 50 #[.val (.int i0), .val (.int i1), .val (.ref b33)] [(.int (i0 &&& (255 : Int32))), (.int 0), (.ref b33)])) rfl rfl (hb hby d1_50)
    have V36 : Arv Z h36 b33 k33 .char (1 : Int32) [(.int ((i0 &&& (255 : Int32)).toUInt32.toUInt16.toUInt32.toInt32))] (.int 0) := Arv.set Ar35 qk35 qs35 qn35 qh35 qg35 (fits_nar_char _) W36 0 rfl (Nat.le_of_ble_eq_true rfl)
    rw [i2c_mask] at V36
    have N36 := Fr.snoc X36 N0 g_b33
    have K37 := K34.wr W36 (Or.inr sz_b33)
    have O37 := O34.wr W36 g_b33
    obtain ⟨T38, h38, X38, e38, E38, A38, D38, -, st38⟩ := newO X36 hx hZ hown (hw _ (List.mem_of_getElem? (i := 5) rfl)) (hw _ (List.mem_of_getElem? (i := 6) rfl)) (hw _ (List.mem_of_getElem? (i := 7) rfl)) e36 (g := (mkF m 51 #[.val (.int i0), .val (.int i1), .val (.ref b33)] [])) rfl (hb hby d1_51) (by decide) (by decide)
    obtain ⟨b38, q38⟩ : ∃ z, z = h36.size := ⟨_, rfl⟩
    rw [← q38] at A38 D38 st38
    have g_b38 : n0 ≤ b38 := Nat.le_trans (own_le O37) (Nat.le_of_eq q38.symm)
    have sz_b38 : h0.size ≤ b38 := Nat.le_trans K37.1 (Nat.le_of_eq q38.symm)
    have K39 := K37.ext E38
    have O39 := O37.ext E38
    have F38_coder : Fld Z h38 b38 "java/lang/String" "coder" "B" (.int 0) := D38 (Or.inr (hw _ (List.mem_of_getElem? (i := 31) rfl))) (ty := .byte) (by decide)
    have F38_value : Fld Z h38 b38 "java/lang/String" "value" "[B" .null := D38 (Or.inr (hw _ (List.mem_of_getElem? (i := 33) rfl))) (ty := (.array .byte)) (by decide)
    have f40 := (V36.ext E38)
    have ne41 : b38 ≠ b33 := (Ne.symm (Nat.ne_of_lt (Nat.lt_of_lt_of_le V36.lt (Nat.le_of_eq q38.symm))))
    -- pc 56: String.init
    obtain ⟨_, _, ⟨T42, L42, k42, n42⟩, -, X42, ⟨Lc42, hQ42, l42, y42, z42⟩, st42⟩ := X38.specialBack hx (y := (⟨"java/lang/String", "<init>", "([C)V"⟩ : MethodName)) rfl hown (mvT hZ (hw _ (List.mem_of_getElem? (i := 8) rfl))) (mvT hZ (hw _ (List.mem_of_getElem? (i := 9) rfl))) (mvT hZ (hw _ (List.mem_of_getElem? (i := 10) rfl))) (by decide) (backOf (W := 1) (sc1 l Z av0 hw [] b38 b33 (i0 &&& (255 : Int32)) k33 cs h38 n0 (own_le O39) O39 p1_S (hcs : ¬ (cs = (0 : Int32))) A38 F38_value F38_coder g_b38 f40 ne41 (own_255 i0 : ¬ ((255 : Int32) < (i0 &&& (255 : Int32))))) hZ (hw _ (List.mem_of_getElem? (i := 10) rfl)) (hw _ (List.mem_of_getElem? (i := 7) rfl)) (by decide) (by decide)) (g := (mkF m 56 #[.val (.int i0), .val (.int i1), .val (.ref b33)] [(.ref b33), (.ref b38), (.ref b38)])) rfl (by rw [hml]; rfl) (Steps.refl _) (a := b38) (argsL := [(.ref b33)]) (rest := [(.ref b38)]) (lenOf pd_1 rfl) rfl (by show 2 * 0 + _ ≤ _; exact Nat.le_of_eq rfl) (hb hby d1_56) (fun vmx hWx => ⟨rfl, e38, (by decide : 2 + 1 ≤ _), (by decide : 5 + 1 ≤ _)⟩)
    dsimp only [Pt.U, Pt.locs, Pt.cells, Pt.slots] at X42 l42 y42 z42 st42 hQ42
    subst l42 y42 z42
    obtain ⟨b_42, kb_42, rv42, Nq42, Kq42, u42_0, u42_1, u42_2, u42_3, u42_4⟩ := hQ42
    subst rv42
    have N42 := Fr.app N36 Nq42
    have g_b_42 : n0 ≤ b_42 := Nat.le_trans (own_le O39) u42_0
    have sz_b_42 : h0.size ≤ b_42 := Nat.le_trans K39.1 u42_0
    have K43 := K39.trans Kq42 (allS (Or.inr sz_b38) all0)
    have O43 := O39.keep Kq42 (allS g_b38 all0)
    obtain ⟨fs, hrL, hrun, hended, hW, hsame⟩ := X42.leave (v := some (.ref b38)) (fun h => by rw [Bd.returns] at h; cases h)
    refine ⟨_, _, pre31 _ ?_, hrun, hended, _, _, rfl, ?_, ⟨_, rfl⟩, hW, hsame.mono (by decide) (by decide)⟩
    · show Steps p.tables e below (s₁.setTop (mkF m 1 #[.val (.int i0), .val (.int i1), .unset] [(.int i1)])) _
      refine XS.ifYes X0.here hx rfl (pc0 := 1) (pc' := 38) rfl (hb hby d1_1) rfl ((if0 _ _).trans (teq hc32).1) (by decide) (by decide) ?_
      refine XS.iconst X0.here hx rfl (hb hby d1_38) ?_
      show Steps p.tables e below (s₁.setTop (mkF m 39 #[.val (.int i0), .val (.int i1), .unset] [(.int 1)])) _
      refine st33 _ ?_
      refine XS.astoreN X33.here hx rfl (hb hby d1_41) rfl rfl (l' := #[.val (.int i0), .val (.int i1), .val (.ref b33)]) rfl ?_
      refine XS.aloadN X33.here hx rfl (hb hby d1_42) rfl rfl ?_
      refine XS.iconst X33.here hx rfl (hb hby d1_43) ?_
      show Steps p.tables e below (T33.setTop (mkF m 44 #[.val (.int i0), .val (.int i1), .val (.ref b33)] [(.int 0), (.ref b33)])) _
      refine XS.iloadN X33.here hx rfl (hb hby d1_44) rfl ?_
      refine XS.sipush X33.here hx rfl (hb hby d1_45) ?_
      show Steps p.tables e below (T33.setTop (mkF m 48 #[.val (.int i0), .val (.int i1), .val (.ref b33)] [(.int 255), (.int i0), (.int 0), (.ref b33)])) _
      refine XS.iand X33.here hx rfl (hb hby d1_48) rfl ?_
      show Steps p.tables e below (T33.setTop (mkF m 49 #[.val (.int i0), .val (.int i1), .val (.ref b33)] [(.int (i0 &&& (255 : Int32))), (.int 0), (.ref b33)])) _
      refine XS.i2c X33.here hx rfl (hb hby d1_49) rfl ?_
      show Steps p.tables e below (T33.setTop (mkF m 50 #[.val (.int i0), .val (.int i1), .val (.ref b33)] [(.int ((i0 &&& (255 : Int32)).toUInt32.toUInt16.toUInt32.toInt32)), (.int 0), (.ref b33)])) _
      rw [i2c_mask]
      show Steps p.tables e below (T33.setTop (mkF m 50 #[.val (.int i0), .val (.int i1), .val (.ref b33)] [(.int (i0 &&& (255 : Int32))), (.int 0), (.ref b33)])) _
      refine st36 _ ?_
      show Steps p.tables e below (T36.setTop (mkF m 51 #[.val (.int i0), .val (.int i1), .val (.ref b33)] [])) _
      refine st38 _ ?_
      refine XS.dup X38.here hx rfl (hb hby d1_54) rfl rfl ?_
      refine XS.aloadN X38.here hx rfl (hb hby d1_55) rfl rfl ?_
      show Steps p.tables e below (T38.setTop (mkF m 56 #[.val (.int i0), .val (.int i1), .val (.ref b33)] [(.ref b33), (.ref b38), (.ref b38)])) _
      refine st42.trans ?_
      show Steps p.tables e below (T42.setTop (mkF m 59 #[.val (.int i0), .val (.int i1), .val (.ref b33)] [(.ref b38)])) _
      exact retOut X42 hx Bd.returns rfl (Or.inr (Or.inr (Or.inr (Or.inr ⟨rfl, rfl, rfl⟩)))) (hb hby d1_59) hrL
    · show Q_rm1 _ _ _ _ _ _ _  T42.heap _
      exact ⟨b38, rfl, N42, K43, sz_b38⟩
  · skip
    obtain ⟨T44, h44, k44, X44, e44, E44, A44, st44⟩ := newP X0 hx hZ (hw _ (List.mem_of_getElem? (i := 4) rfl)) e0 (g := (mkF m 5 #[.val (.int i0), .val (.int i1), .unset] [(.int 2)])) rfl (hb hby d1_5) rfl (by decide) (cap := 2) (by decide) (by decide) (by decide) (by decide)
    obtain ⟨b44, q44⟩ : ∃ z, z = h0.size := ⟨_, rfl⟩
    rw [← q44] at A44 st44
    have g_b44 : n0 ≤ b44 := Nat.le_trans (own_le p0_O) (Nat.le_of_eq q44.symm)
    have sz_b44 : h0.size ≤ b44 := Nat.le_trans K0.1 (Nat.le_of_eq q44.symm)
    have V44 : Arv Z h44 b44 k44 .char (2 : Int32) [(.int 0), (.int 0)] (.int 0) := (Arv.new A44 (by decide)).pad (pad_rep [] (.int 0) 2)
    have K45 := K0.ext E44
    have O45 := p0_O.ext E44
    obtain ⟨cl46, Ar46, qk46, qs46, qn46, qh46, qg46⟩ := id V44
    have hin46 : ¬ ((0 : Int32) < 0 ∨ cl46.slots.size ≤ ((0 : Int32)).toNatClampNeg) := inb_of qs46 ⟨by decide, by decide⟩
    obtain ⟨T47, h47, X47, e47, W47, st47⟩ := stC X44 hx hZ e44 Ar46 (j := (0 : Int32)) hin46 (g := (mkF m 16 #[.val (.int i0), .val (.int i1), .val (.ref b44)] [(.int (i0 &&& (255 : Int32))), (.int 0), (.ref b44)])) rfl rfl (hb hby d1_16)
    have V47 : Arv Z h47 b44 k44 .char (2 : Int32) [(.int ((i0 &&& (255 : Int32)).toUInt32.toUInt16.toUInt32.toInt32)), (.int 0)] (.int 0) := Arv.set Ar46 qk46 qs46 qn46 qh46 qg46 (fits_nar_char _) W47 0 rfl (Nat.le_of_ble_eq_true rfl)
    rw [i2c_mask] at V47
    have N47 := Fr.snoc X47 N0 g_b44
    have K48 := K45.wr W47 (Or.inr sz_b44)
    have O48 := O45.wr W47 g_b44
    obtain ⟨cl49, Ar49, qk49, qs49, qn49, qh49, qg49⟩ := id V47
    have hin49 : ¬ ((1 : Int32) < 0 ∨ cl49.slots.size ≤ ((1 : Int32)).toNatClampNeg) := inb_of qs49 ⟨by decide, by decide⟩
    obtain ⟨T50, h50, X50, e50, W50, st50⟩ := stC X47 hx hZ e47 Ar49 (j := (1 : Int32)) hin49 (g := (mkF m 28 #[.val (.int i0), .val (.int i1), .val (.ref b44)] [(.int (((i0.toUInt32 >>> ((8 : Int32) &&& 31).toUInt32).toInt32) &&& (255 : Int32))), (.int 1), (.ref b44)])) rfl rfl (hb hby d1_28)
    have V50 : Arv Z h50 b44 k44 .char (2 : Int32) [(.int (i0 &&& (255 : Int32))), (.int ((((i0.toUInt32 >>> ((8 : Int32) &&& 31).toUInt32).toInt32) &&& (255 : Int32)).toUInt32.toUInt16.toUInt32.toInt32))] (.int 0) := Arv.set Ar49 qk49 qs49 qn49 qh49 qg49 (fits_nar_char _) W50 1 rfl (Nat.le_of_ble_eq_true rfl)
    rw [i2c_mask] at V50
    have N50 := Fr.snoc X50 N47 g_b44
    have K51 := K48.wr W50 (Or.inr sz_b44)
    have O51 := O48.wr W50 g_b44
    obtain ⟨T52, h52, X52, e52, E52, A52, D52, -, st52⟩ := newO X50 hx hZ hown (hw _ (List.mem_of_getElem? (i := 5) rfl)) (hw _ (List.mem_of_getElem? (i := 6) rfl)) (hw _ (List.mem_of_getElem? (i := 7) rfl)) e50 (g := (mkF m 29 #[.val (.int i0), .val (.int i1), .val (.ref b44)] [])) rfl (hb hby d1_29) (by decide) (by decide)
    obtain ⟨b52, q52⟩ : ∃ z, z = h50.size := ⟨_, rfl⟩
    rw [← q52] at A52 D52 st52
    have g_b52 : n0 ≤ b52 := Nat.le_trans (own_le O51) (Nat.le_of_eq q52.symm)
    have sz_b52 : h0.size ≤ b52 := Nat.le_trans K51.1 (Nat.le_of_eq q52.symm)
    have K53 := K51.ext E52
    have O53 := O51.ext E52
    have F52_coder : Fld Z h52 b52 "java/lang/String" "coder" "B" (.int 0) := D52 (Or.inr (hw _ (List.mem_of_getElem? (i := 31) rfl))) (ty := .byte) (by decide)
    have F52_value : Fld Z h52 b52 "java/lang/String" "value" "[B" .null := D52 (Or.inr (hw _ (List.mem_of_getElem? (i := 33) rfl))) (ty := (.array .byte)) (by decide)
    have f54 := (V50.ext E52)
    have ne55 : b52 ≠ b44 := (Ne.symm (Nat.ne_of_lt (Nat.lt_of_lt_of_le V50.lt (Nat.le_of_eq q52.symm))))
    -- pc 34: String.init
    obtain ⟨_, _, ⟨T56, L56, k56, n56⟩, -, X56, ⟨Lc56, hQ56, l56, y56, z56⟩, st56⟩ := X52.specialBack hx (y := (⟨"java/lang/String", "<init>", "([C)V"⟩ : MethodName)) rfl hown (mvT hZ (hw _ (List.mem_of_getElem? (i := 8) rfl))) (mvT hZ (hw _ (List.mem_of_getElem? (i := 9) rfl))) (mvT hZ (hw _ (List.mem_of_getElem? (i := 10) rfl))) (by decide) (backOf (W := 1) (sc2 l Z av0 hw [] b52 b44 (i0 &&& (255 : Int32)) (((i0.toUInt32 >>> ((8 : Int32) &&& 31).toUInt32).toInt32) &&& (255 : Int32)) k44 cs h52 n0 (own_le O53) O53 p1_S (hcs : ¬ (cs = (0 : Int32))) A52 F52_value F52_coder g_b52 f54 ne55 (own_255 i0 : ¬ ((255 : Int32) < (i0 &&& (255 : Int32)))) (own_255 ((i0.toUInt32 >>> ((8 : Int32) &&& 31).toUInt32).toInt32) : ¬ ((255 : Int32) < (((i0.toUInt32 >>> ((8 : Int32) &&& 31).toUInt32).toInt32) &&& (255 : Int32))))) hZ (hw _ (List.mem_of_getElem? (i := 10) rfl)) (hw _ (List.mem_of_getElem? (i := 7) rfl)) (by decide) (by decide)) (g := (mkF m 34 #[.val (.int i0), .val (.int i1), .val (.ref b44)] [(.ref b44), (.ref b52), (.ref b52)])) rfl (by rw [hml]; rfl) (Steps.refl _) (a := b52) (argsL := [(.ref b44)]) (rest := [(.ref b52)]) (lenOf pd_1 rfl) rfl (by show 2 * 0 + _ ≤ _; exact Nat.le_of_eq rfl) (hb hby d1_34) (fun vmx hWx => ⟨rfl, e52, (by decide : 2 + 1 ≤ _), (by decide : 6 + 2 ≤ _)⟩)
    dsimp only [Pt.U, Pt.locs, Pt.cells, Pt.slots] at X56 l56 y56 z56 st56 hQ56
    subst l56 y56 z56
    obtain ⟨b_56, kb_56, rv56, Nq56, Kq56, u56_0, u56_1, u56_2, u56_3, u56_4⟩ := hQ56
    subst rv56
    have N56 := Fr.app N50 Nq56
    have g_b_56 : n0 ≤ b_56 := Nat.le_trans (own_le O53) u56_0
    have sz_b_56 : h0.size ≤ b_56 := Nat.le_trans K53.1 u56_0
    have K57 := K53.trans Kq56 (allS (Or.inr sz_b52) all0)
    have O57 := O53.keep Kq56 (allS g_b52 all0)
    obtain ⟨fs, hrL, hrun, hended, hW, hsame⟩ := X56.leave (v := some (.ref b52)) (fun h => by rw [Bd.returns] at h; cases h)
    refine ⟨_, _, pre31 _ ?_, hrun, hended, _, _, rfl, ?_, ⟨_, rfl⟩, hW, hsame.mono (by decide) (by decide)⟩
    · show Steps p.tables e below (s₁.setTop (mkF m 1 #[.val (.int i0), .val (.int i1), .unset] [(.int i1)])) _
      refine XS.ifNo X0.here hx rfl (hb hby d1_1) rfl ((if0 _ _).trans (feq hc32).1) ?_
      refine XS.iconst X0.here hx rfl (hb hby d1_4) ?_
      show Steps p.tables e below (s₁.setTop (mkF m 5 #[.val (.int i0), .val (.int i1), .unset] [(.int 2)])) _
      refine st44 _ ?_
      show Steps p.tables e below (T44.setTop (mkF m 7 #[.val (.int i0), .val (.int i1), .unset] [(.ref b44)])) _
      refine XS.astoreN X44.here hx rfl (hb hby d1_7) rfl rfl (l' := #[.val (.int i0), .val (.int i1), .val (.ref b44)]) rfl ?_
      refine XS.aloadN X44.here hx rfl (hb hby d1_8) rfl rfl ?_
      refine XS.iconst X44.here hx rfl (hb hby d1_9) ?_
      refine XS.iloadN X44.here hx rfl (hb hby d1_10) rfl ?_
      show Steps p.tables e below (T44.setTop (mkF m 11 #[.val (.int i0), .val (.int i1), .val (.ref b44)] [(.int i0), (.int 0), (.ref b44)])) _
      refine XS.sipush X44.here hx rfl (hb hby d1_11) ?_
      show Steps p.tables e below (T44.setTop (mkF m 14 #[.val (.int i0), .val (.int i1), .val (.ref b44)] [(.int 255), (.int i0), (.int 0), (.ref b44)])) _
      refine XS.iand X44.here hx rfl (hb hby d1_14) rfl ?_
      show Steps p.tables e below (T44.setTop (mkF m 15 #[.val (.int i0), .val (.int i1), .val (.ref b44)] [(.int (i0 &&& (255 : Int32))), (.int 0), (.ref b44)])) _
      refine XS.i2c X44.here hx rfl (hb hby d1_15) rfl ?_
      show Steps p.tables e below (T44.setTop (mkF m 16 #[.val (.int i0), .val (.int i1), .val (.ref b44)] [(.int ((i0 &&& (255 : Int32)).toUInt32.toUInt16.toUInt32.toInt32)), (.int 0), (.ref b44)])) _
      rw [i2c_mask]
      show Steps p.tables e below (T44.setTop (mkF m 16 #[.val (.int i0), .val (.int i1), .val (.ref b44)] [(.int (i0 &&& (255 : Int32))), (.int 0), (.ref b44)])) _
      refine st47 _ ?_
      show Steps p.tables e below (T47.setTop (mkF m 17 #[.val (.int i0), .val (.int i1), .val (.ref b44)] [])) _
      refine XS.aloadN X47.here hx rfl (hb hby d1_17) rfl rfl ?_
      refine XS.iconst X47.here hx rfl (hb hby d1_18) ?_
      refine XS.iloadN X47.here hx rfl (hb hby d1_19) rfl ?_
      refine XS.bipush X47.here hx rfl (hb hby d1_20) ?_
      show Steps p.tables e below (T47.setTop (mkF m 22 #[.val (.int i0), .val (.int i1), .val (.ref b44)] [(.int 8), (.int i0), (.int 1), (.ref b44)])) _
      refine XS.iushr X47.here hx rfl (hb hby d1_22) rfl ?_
      refine XS.sipush X47.here hx rfl (hb hby d1_23) ?_
      show Steps p.tables e below (T47.setTop (mkF m 26 #[.val (.int i0), .val (.int i1), .val (.ref b44)] [(.int 255), (.int ((i0.toUInt32 >>> ((8 : Int32) &&& 31).toUInt32).toInt32)), (.int 1), (.ref b44)])) _
      refine XS.iand X47.here hx rfl (hb hby d1_26) rfl ?_
      show Steps p.tables e below (T47.setTop (mkF m 27 #[.val (.int i0), .val (.int i1), .val (.ref b44)] [(.int (((i0.toUInt32 >>> ((8 : Int32) &&& 31).toUInt32).toInt32) &&& (255 : Int32))), (.int 1), (.ref b44)])) _
      refine XS.i2c X47.here hx rfl (hb hby d1_27) rfl ?_
      show Steps p.tables e below (T47.setTop (mkF m 28 #[.val (.int i0), .val (.int i1), .val (.ref b44)] [(.int ((((i0.toUInt32 >>> ((8 : Int32) &&& 31).toUInt32).toInt32) &&& (255 : Int32)).toUInt32.toUInt16.toUInt32.toInt32)), (.int 1), (.ref b44)])) _
      rw [i2c_mask]
      show Steps p.tables e below (T47.setTop (mkF m 28 #[.val (.int i0), .val (.int i1), .val (.ref b44)] [(.int (((i0.toUInt32 >>> ((8 : Int32) &&& 31).toUInt32).toInt32) &&& (255 : Int32))), (.int 1), (.ref b44)])) _
      refine st50 _ ?_
      show Steps p.tables e below (T50.setTop (mkF m 29 #[.val (.int i0), .val (.int i1), .val (.ref b44)] [])) _
      refine st52 _ ?_
      refine XS.dup X52.here hx rfl (hb hby d1_32) rfl rfl ?_
      refine XS.aloadN X52.here hx rfl (hb hby d1_33) rfl rfl ?_
      show Steps p.tables e below (T52.setTop (mkF m 34 #[.val (.int i0), .val (.int i1), .val (.ref b44)] [(.ref b44), (.ref b52), (.ref b52)])) _
      refine st56.trans ?_
      show Steps p.tables e below (T56.setTop (mkF m 37 #[.val (.int i0), .val (.int i1), .val (.ref b44)] [(.ref b52)])) _
      exact retOut X56 hx Bd.returns rfl (Or.inr (Or.inr (Or.inr (Or.inr ⟨rfl, rfl, rfl⟩)))) (hb hby d1_37) hrL
    · show Q_rm1 _ _ _ _ _ _ _  T56.heap _
      exact ⟨b52, rfl, N56, K57, sz_b52⟩
theorem d9_0 : decode prog_16_method_2_code 0 = .ok (.aload_n 0, 1) := by decide +kernel
theorem d9_1 : decode prog_16_method_2_code 1 = .ok (.invokespecial 7, 3) := by decide +kernel
theorem d9_4 : decode prog_16_method_2_code 4 = .ok (.aload_n 0, 1) := by decide +kernel
theorem d9_5 : decode prog_16_method_2_code 5 = .ok (.aload_n 1, 1) := by decide +kernel
theorem d9_6 : decode prog_16_method_2_code 6 = .ok (.putfield 12, 3) := by decide +kernel
theorem d9_9 : decode prog_16_method_2_code 9 = .ok (.aload_n 0, 1) := by decide +kernel
theorem d9_10 : decode prog_16_method_2_code 10 = .ok (.aload_n 2, 1) := by decide +kernel
theorem d9_11 : decode prog_16_method_2_code 11 = .ok (.putfield 16, 3) := by decide +kernel
theorem d9_14 : decode prog_16_method_2_code 14 = .ok (.aload_n 0, 1) := by decide +kernel
theorem d9_15 : decode prog_16_method_2_code 15 = .ok (.aload_n 3, 1) := by decide +kernel
theorem d9_16 : decode prog_16_method_2_code 16 = .ok (.putfield 20, 3) := by decide +kernel
theorem d9_19 : decode prog_16_method_2_code 19 = .ok (.aload_n 0, 1) := by decide +kernel
theorem d9_20 : decode prog_16_method_2_code 20 = .ok (.aload 4, 2) := by decide +kernel
theorem d9_22 : decode prog_16_method_2_code 22 = .ok (.putfield 23, 3) := by decide +kernel
theorem d9_25 : decode prog_16_method_2_code 25 = .ok (.aload_n 0, 1) := by decide +kernel
theorem d9_26 : decode prog_16_method_2_code 26 = .ok (.aload 5, 2) := by decide +kernel
theorem d9_28 : decode prog_16_method_2_code 28 = .ok (.putfield 26, 3) := by decide +kernel
theorem d9_31 : decode prog_16_method_2_code 31 = .ok (.return_, 1) := by decide +kernel
theorem pn_com_example_callee_callee_model_CallContext : plainName "com/example/callee/callee/model/CallContext" = true := by first | (simp [plainName, overriddenIn]; done) | decide +kernel
theorem ef_ctx5 (m : MethodId) (a0 : Addr) (u1 : Value) (u3 : Value) (u4 : Value) (hr1 : u1.isRef = true) (hr3 : u3.isRef = true) (hr4 : u4.isRef = true) : entryFrame m #[(.ref a0), u1, .null, u3, u4, .null] 6 = mkF m 0 #[.val (.ref a0), .val u1, .val .null, .val u3, .val u4, .val .null] [] := by
  rcases own_refc hr1 with rfl | ⟨_, rfl⟩ <;> 
  rcases own_refc hr3 with rfl | ⟨_, rfl⟩ <;> 
  rcases own_refc hr4 with rfl | ⟨_, rfl⟩ <;> first | (simp [entryFrame, mkF, argsToLocals, Value.category]; done) | rfl
def Q_ctx5 (Z : State) (a0 : Addr) (u1 : Value) (u3 : Value) (u4 : Value) (h0 : Heap) (n0 : Nat) (v : Option Value) (h : Heap) (L : List Loc) : Prop := v = none ∧ Fr n0 L ∧ Keep h0 h [a0] ∧ Exa Z h a0 "com/example/callee/callee/model/CallContext" ∧ Fld Z h a0 "com/example/callee/callee/model/CallContext" "uid" "Ljava/lang/String;" u1 ∧ Fld Z h a0 "com/example/callee/callee/model/CallContext" "idTokenClaims" "Ljava/util/Map;" .null ∧ Fld Z h a0 "com/example/callee/callee/model/CallContext" "appId" "Ljava/lang/String;" u3 ∧ Fld Z h a0 "com/example/callee/callee/model/CallContext" "instanceIdToken" "Ljava/lang/String;" u4 ∧ Fld Z h a0 "com/example/callee/callee/model/CallContext" "stream" "Lcom/example/callee/callee/model/CallContext$Stream;" .null
set_option maxRecDepth 65536 in
set_option maxHeartbeats 40000000 in
theorem ctx5 (l : Launch) (Z : State) (av0 : Array Value) (hw : ∀ d ∈ tables_1, d.before av0 Z = true) (ws : List Jvm.Cond) (a0 : Addr) (u1 : Value) (u3 : Value) (u4 : Value) (h0 : Heap) (n0 : Nat) (Z0 : n0 ≤ h0.size) (p0_E : Exa Z h0 a0 "com/example/callee/callee/model/CallContext") (p1_g : n0 ≤ a0) (p2_F : Fld Z h0 a0 "com/example/callee/callee/model/CallContext" "uid" "Ljava/lang/String;" .null) (p3_F : Fld Z h0 a0 "com/example/callee/callee/model/CallContext" "idTokenClaims" "Ljava/util/Map;" .null) (p4_F : Fld Z h0 a0 "com/example/callee/callee/model/CallContext" "appId" "Ljava/lang/String;" .null) (p5_F : Fld Z h0 a0 "com/example/callee/callee/model/CallContext" "instanceIdToken" "Ljava/lang/String;" .null) (p6_F : Fld Z h0 a0 "com/example/callee/callee/model/CallContext" "stream" "Lcom/example/callee/callee/model/CallContext$Stream;" .null) (p7_r : u1.isRef = true) (p8_r : u3.isRef = true) (p9_r : u4.isRef = true) :
    MetFree l (⟨"com/example/callee/callee/model/CallContext", "<init>", "(Ljava/lang/String;Ljava/util/Map;Ljava/lang/String;Ljava/lang/String;Lcom/example/callee/callee/model/CallContext$Stream;)V"⟩ : MethodName) (head1 (Jvm.Cond.code (⟨"com/example/callee/callee/model/CallContext", "<init>", "(Ljava/lang/String;Ljava/util/Map;Ljava/lang/String;Ljava/lang/String;Lcom/example/callee/callee/model/CallContext$Stream;)V"⟩ : MethodName) prog_16_method_2_code 6 none :: ws) ({ frames := 1, cells := 0, slots := 0, locals := 12 } : Room)) (fun a U => a = #[(.ref a0), u1, .null, u3, u4, .null] ∧ Z.Warmed39 U.vm ∧ U.heap = h0) (fun _ _ _ _ _ => True) (fun _ U o U' => ∃ v L, o = .returned v ∧ Q_ctx5 Z a0 u1 u3 u4 h0 n0 v U'.heap L ∧ FrameEnd U o U' L ({ frames := 1, cells := 0, slots := 0, locals := 12 } : Room).cells ({ frames := 1, cells := 0, slots := 0, locals := 12 } : Room).slots) := by
  refine MetFree.of_bodySF (plainFor_of_name pn_com_example_callee_callee_model_CallContext) hisR ?_
  intro p e s m args below meth c s₁ Bd hml0 hP hK
  obtain ⟨rfl, hZ, hh⟩ := hP
  have hx := Bd.exec
  have hby := Bd.bytes
  have hml : c.maxLocals = 6 := hml0
  have hown : s.vm.findClass "com/example/callee/callee/model/CallContext" = some m.cls := findClass_of_methodNamed Bd.named
  have hnm := (name_of_methodNamed Bd.named Bd.method).1
  have X0 : Stand p l e ({ frames := 1, cells := 0, slots := 0, locals := 12 } : Room) s m #[(.ref a0), u1, .null, u3, u4, .null] below meth c s₁ [] 0 0 := Stand.of_body Bd
  have e0 : s₁.heap = h0 := by rw [← hh, Bd.state]; rfl
  have N0 := Fr.nil n0
  have pre0 : ∀ tz_, Steps p.tables e below (s₁.setTop (mkF m 0 #[.val (.ref a0), .val u1, .val .null, .val u3, .val u4, .val .null] [])) tz_ → Steps p.tables e below (s₁.setTop (entryFrame m #[(.ref a0), u1, .null, u3, u4, .null] 6)) tz_ := fun tz_ kz_ => castTop (ef_ctx5 m a0 u1 u3 u4 p7_r p8_r p9_r) kz_
  have K0 : Keep h0 h0 [a0] := Keep.refl h0 [a0]
  obtain ⟨T31, X31, e31, st31⟩ := initO X0 hx hZ hown (hw _ (List.mem_of_getElem? (i := 43) rfl)) (hw _ (List.mem_of_getElem? (i := 16) rfl)) (hw _ (List.mem_of_getElem? (i := 17) rfl)) e0 (g := (mkF m 1 #[.val (.ref a0), .val u1, .val .null, .val u3, .val u4, .val .null] [(.ref a0)])) rfl (by rw [hml]; rfl) rfl (hb hby d9_1) (by decide) (W := 0) (by show 2 * 0 + _ ≤ _; exact Nat.le_of_eq rfl) (by decide)
  obtain ⟨T32, h32, X32, e32, W32, st32⟩ := putF X31 hx hZ hown (host := "") (Or.inl (hw _ (List.mem_of_getElem? (i := 44) rfl))) Via.refl e31 p2_F p0_E (Or.inr ⟨(hw _ (List.mem_of_getElem? (i := 45) rfl)), rfl, hnm⟩) (hw _ (List.mem_of_getElem? (i := 35) rfl)) (ty := (.object "java/lang/String")) (by decide) (own_narR p7_r) (own_fitR rfl p7_r) (g := (mkF m 6 #[.val (.ref a0), .val u1, .val .null, .val u3, .val u4, .val .null] [u1, (.ref a0)])) rfl rfl (hb hby d9_6)
  have Fw32 : Fld Z h32 a0 "com/example/callee/callee/model/CallContext" "uid" "Ljava/lang/String;" u1 := p2_F.same W32
  have N32 := Fr.snoc X32 N0 p1_g
  have K33 := K0.wr W32 (Or.inl (List.mem_of_getElem? (i := 0) rfl))
  have f34 := (p3_F.other W32 (Or.inr (slot_ne (Or.inr (hw _ (List.mem_of_getElem? (i := 47) rfl))) (Or.inr (hw _ (List.mem_of_getElem? (i := 45) rfl))) (by decide) (t := (.object "java/util/Map")) (t' := (.object "java/lang/String")) (by decide) (by decide))))
  have f35 := (p0_E.wr W32)
  obtain ⟨T36, h36, X36, e36, W36, st36⟩ := putF X32 hx hZ hown (host := "") (Or.inl (hw _ (List.mem_of_getElem? (i := 46) rfl))) Via.refl e32 f34 f35 (Or.inr ⟨(hw _ (List.mem_of_getElem? (i := 47) rfl)), rfl, hnm⟩) (hw _ (List.mem_of_getElem? (i := 35) rfl)) (ty := (.object "java/util/Map")) (by decide) rfl rfl (g := (mkF m 11 #[.val (.ref a0), .val u1, .val .null, .val u3, .val u4, .val .null] [.null, (.ref a0)])) rfl rfl (hb hby d9_11)
  have Fw36 : Fld Z h36 a0 "com/example/callee/callee/model/CallContext" "idTokenClaims" "Ljava/util/Map;" .null := f34.same W36
  have N36 := Fr.snoc X36 N32 p1_g
  have K37 := K33.wr W36 (Or.inl (List.mem_of_getElem? (i := 0) rfl))
  have f38 := ((p4_F.other W32 (Or.inr (slot_ne (Or.inr (hw _ (List.mem_of_getElem? (i := 49) rfl))) (Or.inr (hw _ (List.mem_of_getElem? (i := 45) rfl))) (by decide) (t := (.object "java/lang/String")) (t' := (.object "java/lang/String")) (by decide) (by decide)))).other W36 (Or.inr (slot_ne (Or.inr (hw _ (List.mem_of_getElem? (i := 49) rfl))) (Or.inr (hw _ (List.mem_of_getElem? (i := 47) rfl))) (by decide) (t := (.object "java/lang/String")) (t' := (.object "java/util/Map")) (by decide) (by decide))))
  have f39 := (f35.wr W36)
  obtain ⟨T40, h40, X40, e40, W40, st40⟩ := putF X36 hx hZ hown (host := "") (Or.inl (hw _ (List.mem_of_getElem? (i := 48) rfl))) Via.refl e36 f38 f39 (Or.inr ⟨(hw _ (List.mem_of_getElem? (i := 49) rfl)), rfl, hnm⟩) (hw _ (List.mem_of_getElem? (i := 35) rfl)) (ty := (.object "java/lang/String")) (by decide) (own_narR p8_r) (own_fitR rfl p8_r) (g := (mkF m 16 #[.val (.ref a0), .val u1, .val .null, .val u3, .val u4, .val .null] [u3, (.ref a0)])) rfl rfl (hb hby d9_16)
  have Fw40 : Fld Z h40 a0 "com/example/callee/callee/model/CallContext" "appId" "Ljava/lang/String;" u3 := f38.same W40
  have N40 := Fr.snoc X40 N36 p1_g
  have K41 := K37.wr W40 (Or.inl (List.mem_of_getElem? (i := 0) rfl))
  have f42 := (((p5_F.other W32 (Or.inr (slot_ne (Or.inr (hw _ (List.mem_of_getElem? (i := 51) rfl))) (Or.inr (hw _ (List.mem_of_getElem? (i := 45) rfl))) (by decide) (t := (.object "java/lang/String")) (t' := (.object "java/lang/String")) (by decide) (by decide)))).other W36 (Or.inr (slot_ne (Or.inr (hw _ (List.mem_of_getElem? (i := 51) rfl))) (Or.inr (hw _ (List.mem_of_getElem? (i := 47) rfl))) (by decide) (t := (.object "java/lang/String")) (t' := (.object "java/util/Map")) (by decide) (by decide)))).other W40 (Or.inr (slot_ne (Or.inr (hw _ (List.mem_of_getElem? (i := 51) rfl))) (Or.inr (hw _ (List.mem_of_getElem? (i := 49) rfl))) (by decide) (t := (.object "java/lang/String")) (t' := (.object "java/lang/String")) (by decide) (by decide))))
  have f43 := (f39.wr W40)
  obtain ⟨T44, h44, X44, e44, W44, st44⟩ := putF X40 hx hZ hown (host := "") (Or.inl (hw _ (List.mem_of_getElem? (i := 50) rfl))) Via.refl e40 f42 f43 (Or.inr ⟨(hw _ (List.mem_of_getElem? (i := 51) rfl)), rfl, hnm⟩) (hw _ (List.mem_of_getElem? (i := 35) rfl)) (ty := (.object "java/lang/String")) (by decide) (own_narR p9_r) (own_fitR rfl p9_r) (g := (mkF m 22 #[.val (.ref a0), .val u1, .val .null, .val u3, .val u4, .val .null] [u4, (.ref a0)])) rfl rfl (hb hby d9_22)
  have Fw44 : Fld Z h44 a0 "com/example/callee/callee/model/CallContext" "instanceIdToken" "Ljava/lang/String;" u4 := f42.same W44
  have N44 := Fr.snoc X44 N40 p1_g
  have K45 := K41.wr W44 (Or.inl (List.mem_of_getElem? (i := 0) rfl))
  have f46 := ((((p6_F.other W32 (Or.inr (slot_ne (Or.inr (hw _ (List.mem_of_getElem? (i := 53) rfl))) (Or.inr (hw _ (List.mem_of_getElem? (i := 45) rfl))) (by decide) (t := (.object "com/example/callee/callee/model/CallContext$Stream")) (t' := (.object "java/lang/String")) (by decide) (by decide)))).other W36 (Or.inr (slot_ne (Or.inr (hw _ (List.mem_of_getElem? (i := 53) rfl))) (Or.inr (hw _ (List.mem_of_getElem? (i := 47) rfl))) (by decide) (t := (.object "com/example/callee/callee/model/CallContext$Stream")) (t' := (.object "java/util/Map")) (by decide) (by decide)))).other W40 (Or.inr (slot_ne (Or.inr (hw _ (List.mem_of_getElem? (i := 53) rfl))) (Or.inr (hw _ (List.mem_of_getElem? (i := 49) rfl))) (by decide) (t := (.object "com/example/callee/callee/model/CallContext$Stream")) (t' := (.object "java/lang/String")) (by decide) (by decide)))).other W44 (Or.inr (slot_ne (Or.inr (hw _ (List.mem_of_getElem? (i := 53) rfl))) (Or.inr (hw _ (List.mem_of_getElem? (i := 51) rfl))) (by decide) (t := (.object "com/example/callee/callee/model/CallContext$Stream")) (t' := (.object "java/lang/String")) (by decide) (by decide))))
  have f47 := (f43.wr W44)
  obtain ⟨T48, h48, X48, e48, W48, st48⟩ := putF X44 hx hZ hown (host := "") (Or.inl (hw _ (List.mem_of_getElem? (i := 52) rfl))) Via.refl e44 f46 f47 (Or.inr ⟨(hw _ (List.mem_of_getElem? (i := 53) rfl)), rfl, hnm⟩) (hw _ (List.mem_of_getElem? (i := 35) rfl)) (ty := (.object "com/example/callee/callee/model/CallContext$Stream")) (by decide) rfl rfl (g := (mkF m 28 #[.val (.ref a0), .val u1, .val .null, .val u3, .val u4, .val .null] [.null, (.ref a0)])) rfl rfl (hb hby d9_28)
  have Fw48 : Fld Z h48 a0 "com/example/callee/callee/model/CallContext" "stream" "Lcom/example/callee/callee/model/CallContext$Stream;" .null := f46.same W48
  have N48 := Fr.snoc X48 N44 p1_g
  have K49 := K45.wr W48 (Or.inl (List.mem_of_getElem? (i := 0) rfl))
  obtain ⟨fs, hrL, hrun, hended, hW, hsame⟩ := X48.leave (v := none) (fun _ => rfl)
  have f50 := (f47.wr W48)
  have f51 := ((((Fw32.other W36 (Or.inr (slot_ne (Or.inr (hw _ (List.mem_of_getElem? (i := 45) rfl))) (Or.inr (hw _ (List.mem_of_getElem? (i := 47) rfl))) (by decide) (t := (.object "java/lang/String")) (t' := (.object "java/util/Map")) (by decide) (by decide)))).other W40 (Or.inr (slot_ne (Or.inr (hw _ (List.mem_of_getElem? (i := 45) rfl))) (Or.inr (hw _ (List.mem_of_getElem? (i := 49) rfl))) (by decide) (t := (.object "java/lang/String")) (t' := (.object "java/lang/String")) (by decide) (by decide)))).other W44 (Or.inr (slot_ne (Or.inr (hw _ (List.mem_of_getElem? (i := 45) rfl))) (Or.inr (hw _ (List.mem_of_getElem? (i := 51) rfl))) (by decide) (t := (.object "java/lang/String")) (t' := (.object "java/lang/String")) (by decide) (by decide)))).other W48 (Or.inr (slot_ne (Or.inr (hw _ (List.mem_of_getElem? (i := 45) rfl))) (Or.inr (hw _ (List.mem_of_getElem? (i := 53) rfl))) (by decide) (t := (.object "java/lang/String")) (t' := (.object "com/example/callee/callee/model/CallContext$Stream")) (by decide) (by decide))))
  have f52 := (((Fw36.other W40 (Or.inr (slot_ne (Or.inr (hw _ (List.mem_of_getElem? (i := 47) rfl))) (Or.inr (hw _ (List.mem_of_getElem? (i := 49) rfl))) (by decide) (t := (.object "java/util/Map")) (t' := (.object "java/lang/String")) (by decide) (by decide)))).other W44 (Or.inr (slot_ne (Or.inr (hw _ (List.mem_of_getElem? (i := 47) rfl))) (Or.inr (hw _ (List.mem_of_getElem? (i := 51) rfl))) (by decide) (t := (.object "java/util/Map")) (t' := (.object "java/lang/String")) (by decide) (by decide)))).other W48 (Or.inr (slot_ne (Or.inr (hw _ (List.mem_of_getElem? (i := 47) rfl))) (Or.inr (hw _ (List.mem_of_getElem? (i := 53) rfl))) (by decide) (t := (.object "java/util/Map")) (t' := (.object "com/example/callee/callee/model/CallContext$Stream")) (by decide) (by decide))))
  have f53 := ((Fw40.other W44 (Or.inr (slot_ne (Or.inr (hw _ (List.mem_of_getElem? (i := 49) rfl))) (Or.inr (hw _ (List.mem_of_getElem? (i := 51) rfl))) (by decide) (t := (.object "java/lang/String")) (t' := (.object "java/lang/String")) (by decide) (by decide)))).other W48 (Or.inr (slot_ne (Or.inr (hw _ (List.mem_of_getElem? (i := 49) rfl))) (Or.inr (hw _ (List.mem_of_getElem? (i := 53) rfl))) (by decide) (t := (.object "java/lang/String")) (t' := (.object "com/example/callee/callee/model/CallContext$Stream")) (by decide) (by decide))))
  have f54 := (Fw44.other W48 (Or.inr (slot_ne (Or.inr (hw _ (List.mem_of_getElem? (i := 51) rfl))) (Or.inr (hw _ (List.mem_of_getElem? (i := 53) rfl))) (by decide) (t := (.object "java/lang/String")) (t' := (.object "com/example/callee/callee/model/CallContext$Stream")) (by decide) (by decide))))
  refine ⟨_, _, pre0 _ ?_, hrun, hended, _, _, rfl, ?_, ⟨_, rfl⟩, hW, hsame.mono (by decide) (by decide)⟩
  · show Steps p.tables e below (s₁.setTop (mkF m 0 #[.val (.ref a0), .val u1, .val .null, .val u3, .val u4, .val .null] [])) _
    refine XS.aloadN X0.here hx rfl (hb hby d9_0) rfl rfl ?_
    show Steps p.tables e below (s₁.setTop (mkF m 1 #[.val (.ref a0), .val u1, .val .null, .val u3, .val u4, .val .null] [(.ref a0)])) _
    refine st31 _ ?_
    refine XS.aloadN X31.here hx rfl (hb hby d9_4) rfl rfl ?_
    show Steps p.tables e below (T31.setTop (mkF m 5 #[.val (.ref a0), .val u1, .val .null, .val u3, .val u4, .val .null] [(.ref a0)])) _
    refine XS.aloadN X31.here hx rfl (hb hby d9_5) rfl p7_r ?_
    show Steps p.tables e below (T31.setTop (mkF m 6 #[.val (.ref a0), .val u1, .val .null, .val u3, .val u4, .val .null] [u1, (.ref a0)])) _
    refine st32 _ ?_
    refine XS.aloadN X32.here hx rfl (hb hby d9_9) rfl rfl ?_
    refine XS.aloadN X32.here hx rfl (hb hby d9_10) rfl rfl ?_
    show Steps p.tables e below (T32.setTop (mkF m 11 #[.val (.ref a0), .val u1, .val .null, .val u3, .val u4, .val .null] [.null, (.ref a0)])) _
    refine st36 _ ?_
    refine XS.aloadN X36.here hx rfl (hb hby d9_14) rfl rfl ?_
    refine XS.aloadN X36.here hx rfl (hb hby d9_15) rfl p8_r ?_
    show Steps p.tables e below (T36.setTop (mkF m 16 #[.val (.ref a0), .val u1, .val .null, .val u3, .val u4, .val .null] [u3, (.ref a0)])) _
    refine st40 _ ?_
    show Steps p.tables e below (T40.setTop (mkF m 19 #[.val (.ref a0), .val u1, .val .null, .val u3, .val u4, .val .null] [])) _
    refine XS.aloadN X40.here hx rfl (hb hby d9_19) rfl rfl ?_
    refine XS.aload X40.here hx rfl (hb hby d9_20) rfl p9_r ?_
    show Steps p.tables e below (T40.setTop (mkF m 22 #[.val (.ref a0), .val u1, .val .null, .val u3, .val u4, .val .null] [u4, (.ref a0)])) _
    refine st44 _ ?_
    refine XS.aloadN X44.here hx rfl (hb hby d9_25) rfl rfl ?_
    show Steps p.tables e below (T44.setTop (mkF m 26 #[.val (.ref a0), .val u1, .val .null, .val u3, .val u4, .val .null] [(.ref a0)])) _
    refine XS.aload X44.here hx rfl (hb hby d9_26) rfl rfl ?_
    show Steps p.tables e below (T44.setTop (mkF m 28 #[.val (.ref a0), .val u1, .val .null, .val u3, .val u4, .val .null] [.null, (.ref a0)])) _
    refine st48 _ ?_
    show Steps p.tables e below (T48.setTop (mkF m 31 #[.val (.ref a0), .val u1, .val .null, .val u3, .val u4, .val .null] [])) _
    exact X48.returnOut hx Bd.returns (hb hby d9_31) hrL
  · show Q_ctx5 _ _ _ _ _ _ _ _  T48.heap _
    rw [e48]
    exact ⟨rfl, N48, K49, f50, f51, f52, f53, f54, Fw48⟩
theorem d8_0 : decode prog_16_method_1_code 0 = .ok (.aload_n 0, 1) := by decide +kernel
theorem d8_1 : decode prog_16_method_1_code 1 = .ok (.aload_n 1, 1) := by decide +kernel
theorem d8_2 : decode prog_16_method_1_code 2 = .ok (.aload_n 2, 1) := by decide +kernel
theorem d8_3 : decode prog_16_method_1_code 3 = .ok (.aload_n 3, 1) := by decide +kernel
theorem d8_4 : decode prog_16_method_1_code 4 = .ok (.aload 4, 2) := by decide +kernel
theorem d8_6 : decode prog_16_method_1_code 6 = .ok (.aconst_null, 1) := by decide +kernel
theorem d8_7 : decode prog_16_method_1_code 7 = .ok (.invokespecial 1, 3) := by decide +kernel
theorem pd_8 : parseMethodDescriptor "(Ljava/lang/String;Ljava/util/Map;Ljava/lang/String;Ljava/lang/String;Lcom/example/callee/callee/model/CallContext$Stream;)V" = some ⟨[(.object "java/lang/String"), (.object "java/util/Map"), (.object "java/lang/String"), (.object "java/lang/String"), (.object "com/example/callee/callee/model/CallContext$Stream")], none⟩ := by decide +kernel
theorem d8_10 : decode prog_16_method_1_code 10 = .ok (.return_, 1) := by decide +kernel
theorem ef_ctx4 (m : MethodId) (a0 : Addr) (u1 : Value) (u3 : Value) (u4 : Value) (hr1 : u1.isRef = true) (hr3 : u3.isRef = true) (hr4 : u4.isRef = true) : entryFrame m #[(.ref a0), u1, .null, u3, u4] 5 = mkF m 0 #[.val (.ref a0), .val u1, .val .null, .val u3, .val u4] [] := by
  rcases own_refc hr1 with rfl | ⟨_, rfl⟩ <;> 
  rcases own_refc hr3 with rfl | ⟨_, rfl⟩ <;> 
  rcases own_refc hr4 with rfl | ⟨_, rfl⟩ <;> first | (simp [entryFrame, mkF, argsToLocals, Value.category]; done) | rfl
def Q_ctx4 (Z : State) (a0 : Addr) (u1 : Value) (u3 : Value) (u4 : Value) (h0 : Heap) (n0 : Nat) (v : Option Value) (h : Heap) (L : List Loc) : Prop := v = none ∧ Fr n0 L ∧ Keep h0 h [a0] ∧ Exa Z h a0 "com/example/callee/callee/model/CallContext" ∧ Fld Z h a0 "com/example/callee/callee/model/CallContext" "uid" "Ljava/lang/String;" u1 ∧ Fld Z h a0 "com/example/callee/callee/model/CallContext" "idTokenClaims" "Ljava/util/Map;" .null ∧ Fld Z h a0 "com/example/callee/callee/model/CallContext" "appId" "Ljava/lang/String;" u3 ∧ Fld Z h a0 "com/example/callee/callee/model/CallContext" "instanceIdToken" "Ljava/lang/String;" u4 ∧ Fld Z h a0 "com/example/callee/callee/model/CallContext" "stream" "Lcom/example/callee/callee/model/CallContext$Stream;" .null
set_option maxRecDepth 65536 in
set_option maxHeartbeats 40000000 in
theorem ctx4 (l : Launch) (Z : State) (av0 : Array Value) (hw : ∀ d ∈ tables_1, d.before av0 Z = true) (ws : List Jvm.Cond) (a0 : Addr) (u1 : Value) (u3 : Value) (u4 : Value) (h0 : Heap) (n0 : Nat) (Z0 : n0 ≤ h0.size) (p0_E : Exa Z h0 a0 "com/example/callee/callee/model/CallContext") (p1_g : n0 ≤ a0) (p2_F : Fld Z h0 a0 "com/example/callee/callee/model/CallContext" "uid" "Ljava/lang/String;" .null) (p3_F : Fld Z h0 a0 "com/example/callee/callee/model/CallContext" "idTokenClaims" "Ljava/util/Map;" .null) (p4_F : Fld Z h0 a0 "com/example/callee/callee/model/CallContext" "appId" "Ljava/lang/String;" .null) (p5_F : Fld Z h0 a0 "com/example/callee/callee/model/CallContext" "instanceIdToken" "Ljava/lang/String;" .null) (p6_F : Fld Z h0 a0 "com/example/callee/callee/model/CallContext" "stream" "Lcom/example/callee/callee/model/CallContext$Stream;" .null) (p7_r : u1.isRef = true) (p8_r : u3.isRef = true) (p9_r : u4.isRef = true) :
    MetFree l (⟨"com/example/callee/callee/model/CallContext", "<init>", "(Ljava/lang/String;Ljava/util/Map;Ljava/lang/String;Ljava/lang/String;)V"⟩ : MethodName) (head1 (Jvm.Cond.code (⟨"com/example/callee/callee/model/CallContext", "<init>", "(Ljava/lang/String;Ljava/util/Map;Ljava/lang/String;Ljava/lang/String;)V"⟩ : MethodName) prog_16_method_1_code 5 none :: ws) ({ frames := 2, cells := 0, slots := 0, locals := 29 } : Room)) (fun a U => a = #[(.ref a0), u1, .null, u3, u4] ∧ Z.Warmed39 U.vm ∧ U.heap = h0) (fun _ _ _ _ _ => True) (fun _ U o U' => ∃ v L, o = .returned v ∧ Q_ctx4 Z a0 u1 u3 u4 h0 n0 v U'.heap L ∧ FrameEnd U o U' L ({ frames := 2, cells := 0, slots := 0, locals := 29 } : Room).cells ({ frames := 2, cells := 0, slots := 0, locals := 29 } : Room).slots) := by
  refine MetFree.of_bodySF (plainFor_of_name pn_com_example_callee_callee_model_CallContext) hisR ?_
  intro p e s m args below meth c s₁ Bd hml0 hP hK
  obtain ⟨rfl, hZ, hh⟩ := hP
  have hx := Bd.exec
  have hby := Bd.bytes
  have hml : c.maxLocals = 5 := hml0
  have hown : s.vm.findClass "com/example/callee/callee/model/CallContext" = some m.cls := findClass_of_methodNamed Bd.named
  have hnm := (name_of_methodNamed Bd.named Bd.method).1
  have X0 : Stand p l e ({ frames := 2, cells := 0, slots := 0, locals := 29 } : Room) s m #[(.ref a0), u1, .null, u3, u4] below meth c s₁ [] 0 0 := Stand.of_body Bd
  have e0 : s₁.heap = h0 := by rw [← hh, Bd.state]; rfl
  have N0 := Fr.nil n0
  have pre0 : ∀ tz_, Steps p.tables e below (s₁.setTop (mkF m 0 #[.val (.ref a0), .val u1, .val .null, .val u3, .val u4] [])) tz_ → Steps p.tables e below (s₁.setTop (entryFrame m #[(.ref a0), u1, .null, u3, u4] 5)) tz_ := fun tz_ kz_ => castTop (ef_ctx4 m a0 u1 u3 u4 p7_r p8_r p9_r) kz_
  have K0 : Keep h0 h0 [a0] := Keep.refl h0 [a0]
  -- pc 7: CallContext.init
  obtain ⟨_, _, ⟨T31, L31, k31, n31⟩, -, X31, ⟨Lc31, hQ31, l31, y31, z31⟩, st31⟩ := X0.specialBack hx (y := (⟨"com/example/callee/callee/model/CallContext", "<init>", "(Ljava/lang/String;Ljava/util/Map;Ljava/lang/String;Ljava/lang/String;Lcom/example/callee/callee/model/CallContext$Stream;)V"⟩ : MethodName)) rfl hown (mvT hZ (hw _ (List.mem_of_getElem? (i := 40) rfl))) (mvT hZ (hw _ (List.mem_of_getElem? (i := 41) rfl))) (mvT hZ (hw _ (List.mem_of_getElem? (i := 42) rfl))) (by decide) (backOf (W := 0) (ctx5 l Z av0 hw [] a0 u1 u3 u4 h0 n0 (Nat.le_trans Z0 K0.1) p0_E p1_g p2_F p3_F p4_F p5_F p6_F p7_r p8_r p9_r) hZ (hw _ (List.mem_of_getElem? (i := 42) rfl)) (hw _ (List.mem_of_getElem? (i := 36) rfl)) (by decide) (by decide)) (g := (mkF m 7 #[.val (.ref a0), .val u1, .val .null, .val u3, .val u4] [.null, u4, u3, .null, u1, (.ref a0)])) rfl (by rw [hml]; rfl) (Steps.refl _) (a := a0) (argsL := [u1, .null, u3, u4, .null]) (rest := []) (lenOf pd_8 rfl) rfl (by show 2 * 0 + _ ≤ _; exact Nat.le_of_eq rfl) (hb hby d8_7) (fun vmx hWx => ⟨rfl, e0, (by decide : 0 + 0 ≤ _), (by decide : 0 + 0 ≤ _)⟩)
  dsimp only [Pt.U, Pt.locs, Pt.cells, Pt.slots] at X31 l31 y31 z31 st31 hQ31
  subst l31 y31 z31
  obtain ⟨rv31, Nq31, Kq31, u31_0, u31_1, u31_2, u31_3, u31_4, u31_5⟩ := hQ31
  subst rv31
  have N31 := Fr.app N0 Nq31
  have K32 := K0.trans Kq31 (allS (Or.inl (List.mem_of_getElem? (i := 0) rfl)) all0)
  obtain ⟨fs, hrL, hrun, hended, hW, hsame⟩ := X31.leave (v := none) (fun _ => rfl)
  refine ⟨_, _, pre0 _ ?_, hrun, hended, _, _, rfl, ?_, ⟨_, rfl⟩, hW, hsame.mono (by decide) (by decide)⟩
  · show Steps p.tables e below (s₁.setTop (mkF m 0 #[.val (.ref a0), .val u1, .val .null, .val u3, .val u4] [])) _
    refine XS.aloadN X0.here hx rfl (hb hby d8_0) rfl rfl ?_
    refine XS.aloadN X0.here hx rfl (hb hby d8_1) rfl p7_r ?_
    refine XS.aloadN X0.here hx rfl (hb hby d8_2) rfl rfl ?_
    show Steps p.tables e below (s₁.setTop (mkF m 3 #[.val (.ref a0), .val u1, .val .null, .val u3, .val u4] [.null, u1, (.ref a0)])) _
    refine XS.aloadN X0.here hx rfl (hb hby d8_3) rfl p8_r ?_
    refine XS.aload X0.here hx rfl (hb hby d8_4) rfl p9_r ?_
    refine XS.aconstNull X0.here hx rfl (hb hby d8_6) ?_
    show Steps p.tables e below (s₁.setTop (mkF m 7 #[.val (.ref a0), .val u1, .val .null, .val u3, .val u4] [.null, u4, u3, .null, u1, (.ref a0)])) _
    refine st31.trans ?_
    show Steps p.tables e below (T31.setTop (mkF m 10 #[.val (.ref a0), .val u1, .val .null, .val u3, .val u4] [])) _
    exact X31.returnOut hx Bd.returns (hb hby d8_10) hrL
  · show Q_ctx4 _ _ _ _ _ _ _ _  T31.heap _
    exact ⟨rfl, N31, K32, u31_0, u31_1, u31_2, u31_3, u31_4, u31_5⟩
theorem d10_0 : decode prog_16_method_7_code 0 = .ok (.aload_n 0, 1) := by decide +kernel
theorem d10_1 : decode prog_16_method_7_code 1 = .ok (.getfield 26, 3) := by decide +kernel
theorem d10_4 : decode prog_16_method_7_code 4 = .ok (.ifnull 7, 3) := by decide +kernel
theorem d10_11 : decode prog_16_method_7_code 11 = .ok (.iconst 0, 1) := by decide +kernel
theorem d10_12 : decode prog_16_method_7_code 12 = .ok (.ireturn, 1) := by decide +kernel
theorem ef_rm10 (m : MethodId) (a0 : Addr) : entryFrame m #[(.ref a0)] 1 = mkF m 0 #[.val (.ref a0)] [] := by first | (simp [entryFrame, mkF, argsToLocals, Value.category]; done) | rfl
def Q_rm10 (Z : State) (a0 : Addr) (h0 : Heap) (n0 : Nat) (v : Option Value) (h : Heap) (L : List Loc) : Prop := v = some (.int 0) ∧ Fr n0 L ∧ h = h0
set_option maxRecDepth 65536 in
set_option maxHeartbeats 40000000 in
theorem rm10 (l : Launch) (Z : State) (av0 : Array Value) (hw : ∀ d ∈ tables_1, d.before av0 Z = true) (ws : List Jvm.Cond) (a0 : Addr) (h0 : Heap) (n0 : Nat) (Z0 : n0 ≤ h0.size) (p0_F : Fld Z h0 a0 "com/example/callee/callee/model/CallContext" "stream" "Lcom/example/callee/callee/model/CallContext$Stream;" .null) :
    MetFree l (⟨"com/example/callee/callee/model/CallContext", "acceptsStreaming", "()Z"⟩ : MethodName) (head1 (Jvm.Cond.code (⟨"com/example/callee/callee/model/CallContext", "acceptsStreaming", "()Z"⟩ : MethodName) prog_16_method_7_code 1 (some .boolean) :: ws) ({ frames := 0, cells := 0, slots := 0, locals := 0 } : Room)) (fun a U => a = #[(.ref a0)] ∧ Z.Warmed39 U.vm ∧ U.heap = h0) (fun _ _ _ _ _ => True) (fun _ U o U' => ∃ v L, o = .returned v ∧ Q_rm10 Z a0 h0 n0 v U'.heap L ∧ FrameEnd U o U' L ({ frames := 0, cells := 0, slots := 0, locals := 0 } : Room).cells ({ frames := 0, cells := 0, slots := 0, locals := 0 } : Room).slots) := by
  refine MetFree.of_bodySF (plainFor_of_name pn_com_example_callee_callee_model_CallContext) hisR ?_
  intro p e s m args below meth c s₁ Bd hml0 hP hK
  obtain ⟨rfl, hZ, hh⟩ := hP
  have hx := Bd.exec
  have hby := Bd.bytes
  have hml : c.maxLocals = 1 := hml0
  have hown : s.vm.findClass "com/example/callee/callee/model/CallContext" = some m.cls := findClass_of_methodNamed Bd.named
  have hnm := (name_of_methodNamed Bd.named Bd.method).1
  have X0 : Stand p l e ({ frames := 0, cells := 0, slots := 0, locals := 0 } : Room) s m #[(.ref a0)] below meth c s₁ [] 0 0 := Stand.of_body Bd
  have e0 : s₁.heap = h0 := by rw [← hh, Bd.state]; rfl
  have N0 := Fr.nil n0
  have pre0 : ∀ tz_, Steps p.tables e below (s₁.setTop (mkF m 0 #[.val (.ref a0)] [])) tz_ → Steps p.tables e below (s₁.setTop (entryFrame m #[(.ref a0)] 1)) tz_ := fun tz_ kz_ => castTop (ef_rm10 m a0) kz_
  obtain ⟨T31, X31, e31, st31⟩ := getF X0 hx hZ hown (host := "") (Or.inl (hw _ (List.mem_of_getElem? (i := 52) rfl))) Via.refl e0 p0_F (g := (mkF m 1 #[.val (.ref a0)] [(.ref a0)])) rfl rfl (hb hby d10_1)
  obtain ⟨fs, hrL, hrun, hended, hW, hsame⟩ := X31.leave (v := some (.int 0)) (fun h => by rw [Bd.returns] at h; cases h)
  refine ⟨_, _, pre0 _ ?_, hrun, hended, _, _, rfl, ?_, ⟨_, rfl⟩, hW, hsame.mono (by decide) (by decide)⟩
  · show Steps p.tables e below (s₁.setTop (mkF m 0 #[.val (.ref a0)] [])) _
    refine XS.aloadN X0.here hx rfl (hb hby d10_0) rfl rfl ?_
    show Steps p.tables e below (s₁.setTop (mkF m 1 #[.val (.ref a0)] [(.ref a0)])) _
    refine st31 _ ?_
    show Steps p.tables e below (T31.setTop (mkF m 4 #[.val (.ref a0)] [.null])) _
    refine XS.ifnullYes X31.here hx rfl (pc0 := 4) (pc' := 11) rfl (hb hby d10_4) rfl (by decide) (by decide) ?_
    show Steps p.tables e below (T31.setTop (mkF m 11 #[.val (.ref a0)] [])) _
    refine XS.iconst X31.here hx rfl (hb hby d10_11) ?_
    show Steps p.tables e below (T31.setTop (mkF m 12 #[.val (.ref a0)] [(.int 0)])) _
    exact retN X31 hx (t := .boolean) Bd.returns (by simp) (hb hby d10_12) hrL
  · show Q_rm10 _ _ _ _ _  T31.heap _
    rw [e31]
    exact ⟨rfl, N0, rfl⟩
theorem d11_0 : decode prog_16_method_9_code 0 = .ok (.aload_n 0, 1) := by decide +kernel
theorem d11_1 : decode prog_16_method_9_code 1 = .ok (.getfield 26, 3) := by decide +kernel
theorem d11_4 : decode prog_16_method_9_code 4 = .ok (.ifnull 19, 3) := by decide +kernel
theorem d11_23 : decode prog_16_method_9_code 23 = .ok (.iconst 0, 1) := by decide +kernel
theorem d11_24 : decode prog_16_method_9_code 24 = .ok (.ireturn, 1) := by decide +kernel
theorem ef_rm11 (m : MethodId) (a0 : Addr) : entryFrame m #[(.ref a0)] 1 = mkF m 0 #[.val (.ref a0)] [] := by first | (simp [entryFrame, mkF, argsToLocals, Value.category]; done) | rfl
def Q_rm11 (Z : State) (a0 : Addr) (h0 : Heap) (n0 : Nat) (v : Option Value) (h : Heap) (L : List Loc) : Prop := v = some (.int 0) ∧ Fr n0 L ∧ h = h0
set_option maxRecDepth 65536 in
set_option maxHeartbeats 40000000 in
theorem rm11 (l : Launch) (Z : State) (av0 : Array Value) (hw : ∀ d ∈ tables_1, d.before av0 Z = true) (ws : List Jvm.Cond) (a0 : Addr) (h0 : Heap) (n0 : Nat) (Z0 : n0 ≤ h0.size) (p0_F : Fld Z h0 a0 "com/example/callee/callee/model/CallContext" "stream" "Lcom/example/callee/callee/model/CallContext$Stream;" .null) :
    MetFree l (⟨"com/example/callee/callee/model/CallContext", "callerGone", "()Z"⟩ : MethodName) (head1 (Jvm.Cond.code (⟨"com/example/callee/callee/model/CallContext", "callerGone", "()Z"⟩ : MethodName) prog_16_method_9_code 1 (some .boolean) :: ws) ({ frames := 0, cells := 0, slots := 0, locals := 0 } : Room)) (fun a U => a = #[(.ref a0)] ∧ Z.Warmed39 U.vm ∧ U.heap = h0) (fun _ _ _ _ _ => True) (fun _ U o U' => ∃ v L, o = .returned v ∧ Q_rm11 Z a0 h0 n0 v U'.heap L ∧ FrameEnd U o U' L ({ frames := 0, cells := 0, slots := 0, locals := 0 } : Room).cells ({ frames := 0, cells := 0, slots := 0, locals := 0 } : Room).slots) := by
  refine MetFree.of_bodySF (plainFor_of_name pn_com_example_callee_callee_model_CallContext) hisR ?_
  intro p e s m args below meth c s₁ Bd hml0 hP hK
  obtain ⟨rfl, hZ, hh⟩ := hP
  have hx := Bd.exec
  have hby := Bd.bytes
  have hml : c.maxLocals = 1 := hml0
  have hown : s.vm.findClass "com/example/callee/callee/model/CallContext" = some m.cls := findClass_of_methodNamed Bd.named
  have hnm := (name_of_methodNamed Bd.named Bd.method).1
  have X0 : Stand p l e ({ frames := 0, cells := 0, slots := 0, locals := 0 } : Room) s m #[(.ref a0)] below meth c s₁ [] 0 0 := Stand.of_body Bd
  have e0 : s₁.heap = h0 := by rw [← hh, Bd.state]; rfl
  have N0 := Fr.nil n0
  have pre0 : ∀ tz_, Steps p.tables e below (s₁.setTop (mkF m 0 #[.val (.ref a0)] [])) tz_ → Steps p.tables e below (s₁.setTop (entryFrame m #[(.ref a0)] 1)) tz_ := fun tz_ kz_ => castTop (ef_rm11 m a0) kz_
  obtain ⟨T31, X31, e31, st31⟩ := getF X0 hx hZ hown (host := "") (Or.inl (hw _ (List.mem_of_getElem? (i := 52) rfl))) Via.refl e0 p0_F (g := (mkF m 1 #[.val (.ref a0)] [(.ref a0)])) rfl rfl (hb hby d11_1)
  obtain ⟨fs, hrL, hrun, hended, hW, hsame⟩ := X31.leave (v := some (.int 0)) (fun h => by rw [Bd.returns] at h; cases h)
  refine ⟨_, _, pre0 _ ?_, hrun, hended, _, _, rfl, ?_, ⟨_, rfl⟩, hW, hsame.mono (by decide) (by decide)⟩
  · show Steps p.tables e below (s₁.setTop (mkF m 0 #[.val (.ref a0)] [])) _
    refine XS.aloadN X0.here hx rfl (hb hby d11_0) rfl rfl ?_
    show Steps p.tables e below (s₁.setTop (mkF m 1 #[.val (.ref a0)] [(.ref a0)])) _
    refine st31 _ ?_
    show Steps p.tables e below (T31.setTop (mkF m 4 #[.val (.ref a0)] [.null])) _
    refine XS.ifnullYes X31.here hx rfl (pc0 := 4) (pc' := 23) rfl (hb hby d11_4) rfl (by decide) (by decide) ?_
    show Steps p.tables e below (T31.setTop (mkF m 23 #[.val (.ref a0)] [])) _
    refine XS.iconst X31.here hx rfl (hb hby d11_23) ?_
    show Steps p.tables e below (T31.setTop (mkF m 24 #[.val (.ref a0)] [(.int 0)])) _
    exact retN X31 hx (t := .boolean) Bd.returns (by simp) (hb hby d11_24) hrL
  · show Q_rm11 _ _ _ _ _  T31.heap _
    rw [e31]
    exact ⟨rfl, N0, rfl⟩
theorem d12_0 : decode prog_16_method_8_code 0 = .ok (.aload_n 0, 1) := by decide +kernel
theorem d12_1 : decode prog_16_method_8_code 1 = .ok (.getfield 26, 3) := by decide +kernel
theorem d12_4 : decode prog_16_method_8_code 4 = .ok (.ifnull 20, 3) := by decide +kernel
theorem d12_24 : decode prog_16_method_8_code 24 = .ok (.iconst 0, 1) := by decide +kernel
theorem d12_25 : decode prog_16_method_8_code 25 = .ok (.ireturn, 1) := by decide +kernel
theorem ef_rm12 (m : MethodId) (a0 : Addr) (u1 : Value) (hr1 : u1.isRef = true) : entryFrame m #[(.ref a0), u1] 2 = mkF m 0 #[.val (.ref a0), .val u1] [] := by
  rcases own_refc hr1 with rfl | ⟨_, rfl⟩ <;> first | (simp [entryFrame, mkF, argsToLocals, Value.category]; done) | rfl
def Q_rm12 (Z : State) (a0 : Addr) (u1 : Value) (h0 : Heap) (n0 : Nat) (v : Option Value) (h : Heap) (L : List Loc) : Prop := v = some (.int 0) ∧ Fr n0 L ∧ h = h0
set_option maxRecDepth 65536 in
set_option maxHeartbeats 40000000 in
theorem rm12 (l : Launch) (Z : State) (av0 : Array Value) (hw : ∀ d ∈ tables_1, d.before av0 Z = true) (ws : List Jvm.Cond) (a0 : Addr) (u1 : Value) (h0 : Heap) (n0 : Nat) (Z0 : n0 ≤ h0.size) (p0_F : Fld Z h0 a0 "com/example/callee/callee/model/CallContext" "stream" "Lcom/example/callee/callee/model/CallContext$Stream;" .null) (p1_r : u1.isRef = true) :
    MetFree l (⟨"com/example/callee/callee/model/CallContext", "sendChunk", "(Ljava/lang/Object;)Z"⟩ : MethodName) (head1 (Jvm.Cond.code (⟨"com/example/callee/callee/model/CallContext", "sendChunk", "(Ljava/lang/Object;)Z"⟩ : MethodName) prog_16_method_8_code 2 (some .boolean) :: ws) ({ frames := 0, cells := 0, slots := 0, locals := 0 } : Room)) (fun a U => a = #[(.ref a0), u1] ∧ Z.Warmed39 U.vm ∧ U.heap = h0) (fun _ _ _ _ _ => True) (fun _ U o U' => ∃ v L, o = .returned v ∧ Q_rm12 Z a0 u1 h0 n0 v U'.heap L ∧ FrameEnd U o U' L ({ frames := 0, cells := 0, slots := 0, locals := 0 } : Room).cells ({ frames := 0, cells := 0, slots := 0, locals := 0 } : Room).slots) := by
  refine MetFree.of_bodySF (plainFor_of_name pn_com_example_callee_callee_model_CallContext) hisR ?_
  intro p e s m args below meth c s₁ Bd hml0 hP hK
  obtain ⟨rfl, hZ, hh⟩ := hP
  have hx := Bd.exec
  have hby := Bd.bytes
  have hml : c.maxLocals = 2 := hml0
  have hown : s.vm.findClass "com/example/callee/callee/model/CallContext" = some m.cls := findClass_of_methodNamed Bd.named
  have hnm := (name_of_methodNamed Bd.named Bd.method).1
  have X0 : Stand p l e ({ frames := 0, cells := 0, slots := 0, locals := 0 } : Room) s m #[(.ref a0), u1] below meth c s₁ [] 0 0 := Stand.of_body Bd
  have e0 : s₁.heap = h0 := by rw [← hh, Bd.state]; rfl
  have N0 := Fr.nil n0
  have pre0 : ∀ tz_, Steps p.tables e below (s₁.setTop (mkF m 0 #[.val (.ref a0), .val u1] [])) tz_ → Steps p.tables e below (s₁.setTop (entryFrame m #[(.ref a0), u1] 2)) tz_ := fun tz_ kz_ => castTop (ef_rm12 m a0 u1 p1_r) kz_
  obtain ⟨T31, X31, e31, st31⟩ := getF X0 hx hZ hown (host := "") (Or.inl (hw _ (List.mem_of_getElem? (i := 52) rfl))) Via.refl e0 p0_F (g := (mkF m 1 #[.val (.ref a0), .val u1] [(.ref a0)])) rfl rfl (hb hby d12_1)
  obtain ⟨fs, hrL, hrun, hended, hW, hsame⟩ := X31.leave (v := some (.int 0)) (fun h => by rw [Bd.returns] at h; cases h)
  refine ⟨_, _, pre0 _ ?_, hrun, hended, _, _, rfl, ?_, ⟨_, rfl⟩, hW, hsame.mono (by decide) (by decide)⟩
  · show Steps p.tables e below (s₁.setTop (mkF m 0 #[.val (.ref a0), .val u1] [])) _
    refine XS.aloadN X0.here hx rfl (hb hby d12_0) rfl rfl ?_
    show Steps p.tables e below (s₁.setTop (mkF m 1 #[.val (.ref a0), .val u1] [(.ref a0)])) _
    refine st31 _ ?_
    show Steps p.tables e below (T31.setTop (mkF m 4 #[.val (.ref a0), .val u1] [.null])) _
    refine XS.ifnullYes X31.here hx rfl (pc0 := 4) (pc' := 24) rfl (hb hby d12_4) rfl (by decide) (by decide) ?_
    show Steps p.tables e below (T31.setTop (mkF m 24 #[.val (.ref a0), .val u1] [])) _
    refine XS.iconst X31.here hx rfl (hb hby d12_24) ?_
    show Steps p.tables e below (T31.setTop (mkF m 25 #[.val (.ref a0), .val u1] [(.int 0)])) _
    exact retN X31 hx (t := .boolean) Bd.returns (by simp) (hb hby d12_25) hrL
  · show Q_rm12 _ _ _ _ _ _  T31.heap _
    rw [e31]
    exact ⟨rfl, N0, rfl⟩
theorem d13_0 : decode prog_16_method_3_code 0 = .ok (.aload_n 0, 1) := by decide +kernel
theorem d13_1 : decode prog_16_method_3_code 1 = .ok (.getfield 12, 3) := by decide +kernel
theorem d13_4 : decode prog_16_method_3_code 4 = .ok (.areturn, 1) := by decide +kernel
theorem ef_rm13 (m : MethodId) (a0 : Addr) : entryFrame m #[(.ref a0)] 1 = mkF m 0 #[.val (.ref a0)] [] := by first | (simp [entryFrame, mkF, argsToLocals, Value.category]; done) | rfl
def Q_rm13 (Z : State) (a0 : Addr) (u1 : Value) (h0 : Heap) (n0 : Nat) (v : Option Value) (h : Heap) (L : List Loc) : Prop := v = some u1 ∧ Fr n0 L ∧ h = h0
set_option maxRecDepth 65536 in
set_option maxHeartbeats 40000000 in
theorem rm13 (l : Launch) (Z : State) (av0 : Array Value) (hw : ∀ d ∈ tables_1, d.before av0 Z = true) (ws : List Jvm.Cond) (a0 : Addr) (u1 : Value) (h0 : Heap) (n0 : Nat) (Z0 : n0 ≤ h0.size) (p0_F : Fld Z h0 a0 "com/example/callee/callee/model/CallContext" "uid" "Ljava/lang/String;" u1) (p1_r : u1.isRef = true) :
    MetFree l (⟨"com/example/callee/callee/model/CallContext", "uid", "()Ljava/lang/String;"⟩ : MethodName) (head1 (Jvm.Cond.code (⟨"com/example/callee/callee/model/CallContext", "uid", "()Ljava/lang/String;"⟩ : MethodName) prog_16_method_3_code 1 (some (.object "java/lang/String")) :: ws) ({ frames := 0, cells := 0, slots := 0, locals := 0 } : Room)) (fun a U => a = #[(.ref a0)] ∧ Z.Warmed39 U.vm ∧ U.heap = h0) (fun _ _ _ _ _ => True) (fun _ U o U' => ∃ v L, o = .returned v ∧ Q_rm13 Z a0 u1 h0 n0 v U'.heap L ∧ FrameEnd U o U' L ({ frames := 0, cells := 0, slots := 0, locals := 0 } : Room).cells ({ frames := 0, cells := 0, slots := 0, locals := 0 } : Room).slots) := by
  refine MetFree.of_bodySF (plainFor_of_name pn_com_example_callee_callee_model_CallContext) hisR ?_
  intro p e s m args below meth c s₁ Bd hml0 hP hK
  obtain ⟨rfl, hZ, hh⟩ := hP
  have hx := Bd.exec
  have hby := Bd.bytes
  have hml : c.maxLocals = 1 := hml0
  have hown : s.vm.findClass "com/example/callee/callee/model/CallContext" = some m.cls := findClass_of_methodNamed Bd.named
  have hnm := (name_of_methodNamed Bd.named Bd.method).1
  have X0 : Stand p l e ({ frames := 0, cells := 0, slots := 0, locals := 0 } : Room) s m #[(.ref a0)] below meth c s₁ [] 0 0 := Stand.of_body Bd
  have e0 : s₁.heap = h0 := by rw [← hh, Bd.state]; rfl
  have N0 := Fr.nil n0
  have pre0 : ∀ tz_, Steps p.tables e below (s₁.setTop (mkF m 0 #[.val (.ref a0)] [])) tz_ → Steps p.tables e below (s₁.setTop (entryFrame m #[(.ref a0)] 1)) tz_ := fun tz_ kz_ => castTop (ef_rm13 m a0) kz_
  obtain ⟨T31, X31, e31, st31⟩ := getF X0 hx hZ hown (host := "") (Or.inl (hw _ (List.mem_of_getElem? (i := 44) rfl))) Via.refl e0 p0_F (g := (mkF m 1 #[.val (.ref a0)] [(.ref a0)])) rfl rfl (hb hby d13_1)
  obtain ⟨fs, hrL, hrun, hended, hW, hsame⟩ := X31.leave (v := some u1) (fun h => by rw [Bd.returns] at h; cases h)
  refine ⟨_, _, pre0 _ ?_, hrun, hended, _, _, rfl, ?_, ⟨_, rfl⟩, hW, hsame.mono (by decide) (by decide)⟩
  · show Steps p.tables e below (s₁.setTop (mkF m 0 #[.val (.ref a0)] [])) _
    refine XS.aloadN X0.here hx rfl (hb hby d13_0) rfl rfl ?_
    show Steps p.tables e below (s₁.setTop (mkF m 1 #[.val (.ref a0)] [(.ref a0)])) _
    refine st31 _ ?_
    show Steps p.tables e below (T31.setTop (mkF m 4 #[.val (.ref a0)] [u1])) _
    exact retOut X31 hx Bd.returns (own_narR p1_r) (Or.inr (Or.inr (Or.inr (Or.inr ⟨rfl, rfl, p1_r⟩)))) (hb hby d13_4) hrL
  · show Q_rm13 _ _ _ _ _ _  T31.heap _
    rw [e31]
    exact ⟨rfl, N0, rfl⟩
theorem d14_0 : decode prog_16_method_5_code 0 = .ok (.aload_n 0, 1) := by decide +kernel
theorem d14_1 : decode prog_16_method_5_code 1 = .ok (.getfield 20, 3) := by decide +kernel
theorem d14_4 : decode prog_16_method_5_code 4 = .ok (.areturn, 1) := by decide +kernel
theorem ef_rm14 (m : MethodId) (a0 : Addr) : entryFrame m #[(.ref a0)] 1 = mkF m 0 #[.val (.ref a0)] [] := by first | (simp [entryFrame, mkF, argsToLocals, Value.category]; done) | rfl
def Q_rm14 (Z : State) (a0 : Addr) (u1 : Value) (h0 : Heap) (n0 : Nat) (v : Option Value) (h : Heap) (L : List Loc) : Prop := v = some u1 ∧ Fr n0 L ∧ h = h0
set_option maxRecDepth 65536 in
set_option maxHeartbeats 40000000 in
theorem rm14 (l : Launch) (Z : State) (av0 : Array Value) (hw : ∀ d ∈ tables_1, d.before av0 Z = true) (ws : List Jvm.Cond) (a0 : Addr) (u1 : Value) (h0 : Heap) (n0 : Nat) (Z0 : n0 ≤ h0.size) (p0_F : Fld Z h0 a0 "com/example/callee/callee/model/CallContext" "appId" "Ljava/lang/String;" u1) (p1_r : u1.isRef = true) :
    MetFree l (⟨"com/example/callee/callee/model/CallContext", "appId", "()Ljava/lang/String;"⟩ : MethodName) (head1 (Jvm.Cond.code (⟨"com/example/callee/callee/model/CallContext", "appId", "()Ljava/lang/String;"⟩ : MethodName) prog_16_method_5_code 1 (some (.object "java/lang/String")) :: ws) ({ frames := 0, cells := 0, slots := 0, locals := 0 } : Room)) (fun a U => a = #[(.ref a0)] ∧ Z.Warmed39 U.vm ∧ U.heap = h0) (fun _ _ _ _ _ => True) (fun _ U o U' => ∃ v L, o = .returned v ∧ Q_rm14 Z a0 u1 h0 n0 v U'.heap L ∧ FrameEnd U o U' L ({ frames := 0, cells := 0, slots := 0, locals := 0 } : Room).cells ({ frames := 0, cells := 0, slots := 0, locals := 0 } : Room).slots) := by
  refine MetFree.of_bodySF (plainFor_of_name pn_com_example_callee_callee_model_CallContext) hisR ?_
  intro p e s m args below meth c s₁ Bd hml0 hP hK
  obtain ⟨rfl, hZ, hh⟩ := hP
  have hx := Bd.exec
  have hby := Bd.bytes
  have hml : c.maxLocals = 1 := hml0
  have hown : s.vm.findClass "com/example/callee/callee/model/CallContext" = some m.cls := findClass_of_methodNamed Bd.named
  have hnm := (name_of_methodNamed Bd.named Bd.method).1
  have X0 : Stand p l e ({ frames := 0, cells := 0, slots := 0, locals := 0 } : Room) s m #[(.ref a0)] below meth c s₁ [] 0 0 := Stand.of_body Bd
  have e0 : s₁.heap = h0 := by rw [← hh, Bd.state]; rfl
  have N0 := Fr.nil n0
  have pre0 : ∀ tz_, Steps p.tables e below (s₁.setTop (mkF m 0 #[.val (.ref a0)] [])) tz_ → Steps p.tables e below (s₁.setTop (entryFrame m #[(.ref a0)] 1)) tz_ := fun tz_ kz_ => castTop (ef_rm14 m a0) kz_
  obtain ⟨T31, X31, e31, st31⟩ := getF X0 hx hZ hown (host := "") (Or.inl (hw _ (List.mem_of_getElem? (i := 48) rfl))) Via.refl e0 p0_F (g := (mkF m 1 #[.val (.ref a0)] [(.ref a0)])) rfl rfl (hb hby d14_1)
  obtain ⟨fs, hrL, hrun, hended, hW, hsame⟩ := X31.leave (v := some u1) (fun h => by rw [Bd.returns] at h; cases h)
  refine ⟨_, _, pre0 _ ?_, hrun, hended, _, _, rfl, ?_, ⟨_, rfl⟩, hW, hsame.mono (by decide) (by decide)⟩
  · show Steps p.tables e below (s₁.setTop (mkF m 0 #[.val (.ref a0)] [])) _
    refine XS.aloadN X0.here hx rfl (hb hby d14_0) rfl rfl ?_
    show Steps p.tables e below (s₁.setTop (mkF m 1 #[.val (.ref a0)] [(.ref a0)])) _
    refine st31 _ ?_
    show Steps p.tables e below (T31.setTop (mkF m 4 #[.val (.ref a0)] [u1])) _
    exact retOut X31 hx Bd.returns (own_narR p1_r) (Or.inr (Or.inr (Or.inr (Or.inr ⟨rfl, rfl, p1_r⟩)))) (hb hby d14_4) hrL
  · show Q_rm14 _ _ _ _ _ _  T31.heap _
    rw [e31]
    exact ⟨rfl, N0, rfl⟩
theorem d15_0 : decode prog_16_method_6_code 0 = .ok (.aload_n 0, 1) := by decide +kernel
theorem d15_1 : decode prog_16_method_6_code 1 = .ok (.getfield 23, 3) := by decide +kernel
theorem d15_4 : decode prog_16_method_6_code 4 = .ok (.areturn, 1) := by decide +kernel
theorem ef_rm15 (m : MethodId) (a0 : Addr) : entryFrame m #[(.ref a0)] 1 = mkF m 0 #[.val (.ref a0)] [] := by first | (simp [entryFrame, mkF, argsToLocals, Value.category]; done) | rfl
def Q_rm15 (Z : State) (a0 : Addr) (u1 : Value) (h0 : Heap) (n0 : Nat) (v : Option Value) (h : Heap) (L : List Loc) : Prop := v = some u1 ∧ Fr n0 L ∧ h = h0
set_option maxRecDepth 65536 in
set_option maxHeartbeats 40000000 in
theorem rm15 (l : Launch) (Z : State) (av0 : Array Value) (hw : ∀ d ∈ tables_1, d.before av0 Z = true) (ws : List Jvm.Cond) (a0 : Addr) (u1 : Value) (h0 : Heap) (n0 : Nat) (Z0 : n0 ≤ h0.size) (p0_F : Fld Z h0 a0 "com/example/callee/callee/model/CallContext" "instanceIdToken" "Ljava/lang/String;" u1) (p1_r : u1.isRef = true) :
    MetFree l (⟨"com/example/callee/callee/model/CallContext", "instanceIdToken", "()Ljava/lang/String;"⟩ : MethodName) (head1 (Jvm.Cond.code (⟨"com/example/callee/callee/model/CallContext", "instanceIdToken", "()Ljava/lang/String;"⟩ : MethodName) prog_16_method_6_code 1 (some (.object "java/lang/String")) :: ws) ({ frames := 0, cells := 0, slots := 0, locals := 0 } : Room)) (fun a U => a = #[(.ref a0)] ∧ Z.Warmed39 U.vm ∧ U.heap = h0) (fun _ _ _ _ _ => True) (fun _ U o U' => ∃ v L, o = .returned v ∧ Q_rm15 Z a0 u1 h0 n0 v U'.heap L ∧ FrameEnd U o U' L ({ frames := 0, cells := 0, slots := 0, locals := 0 } : Room).cells ({ frames := 0, cells := 0, slots := 0, locals := 0 } : Room).slots) := by
  refine MetFree.of_bodySF (plainFor_of_name pn_com_example_callee_callee_model_CallContext) hisR ?_
  intro p e s m args below meth c s₁ Bd hml0 hP hK
  obtain ⟨rfl, hZ, hh⟩ := hP
  have hx := Bd.exec
  have hby := Bd.bytes
  have hml : c.maxLocals = 1 := hml0
  have hown : s.vm.findClass "com/example/callee/callee/model/CallContext" = some m.cls := findClass_of_methodNamed Bd.named
  have hnm := (name_of_methodNamed Bd.named Bd.method).1
  have X0 : Stand p l e ({ frames := 0, cells := 0, slots := 0, locals := 0 } : Room) s m #[(.ref a0)] below meth c s₁ [] 0 0 := Stand.of_body Bd
  have e0 : s₁.heap = h0 := by rw [← hh, Bd.state]; rfl
  have N0 := Fr.nil n0
  have pre0 : ∀ tz_, Steps p.tables e below (s₁.setTop (mkF m 0 #[.val (.ref a0)] [])) tz_ → Steps p.tables e below (s₁.setTop (entryFrame m #[(.ref a0)] 1)) tz_ := fun tz_ kz_ => castTop (ef_rm15 m a0) kz_
  obtain ⟨T31, X31, e31, st31⟩ := getF X0 hx hZ hown (host := "") (Or.inl (hw _ (List.mem_of_getElem? (i := 50) rfl))) Via.refl e0 p0_F (g := (mkF m 1 #[.val (.ref a0)] [(.ref a0)])) rfl rfl (hb hby d15_1)
  obtain ⟨fs, hrL, hrun, hended, hW, hsame⟩ := X31.leave (v := some u1) (fun h => by rw [Bd.returns] at h; cases h)
  refine ⟨_, _, pre0 _ ?_, hrun, hended, _, _, rfl, ?_, ⟨_, rfl⟩, hW, hsame.mono (by decide) (by decide)⟩
  · show Steps p.tables e below (s₁.setTop (mkF m 0 #[.val (.ref a0)] [])) _
    refine XS.aloadN X0.here hx rfl (hb hby d15_0) rfl rfl ?_
    show Steps p.tables e below (s₁.setTop (mkF m 1 #[.val (.ref a0)] [(.ref a0)])) _
    refine st31 _ ?_
    show Steps p.tables e below (T31.setTop (mkF m 4 #[.val (.ref a0)] [u1])) _
    exact retOut X31 hx Bd.returns (own_narR p1_r) (Or.inr (Or.inr (Or.inr (Or.inr ⟨rfl, rfl, p1_r⟩)))) (hb hby d15_4) hrL
  · show Q_rm15 _ _ _ _ _ _  T31.heap _
    rw [e31]
    exact ⟨rfl, N0, rfl⟩
theorem pd_0 : parseMethodDescriptor "(IZ)Ljava/lang/String;" = some ⟨[.int, .boolean], some (.object "java/lang/String")⟩ := by decide +kernel
theorem pd_7 : parseMethodDescriptor "(Ljava/lang/String;Ljava/util/Map;Ljava/lang/String;Ljava/lang/String;)V" = some ⟨[(.object "java/lang/String"), (.object "java/util/Map"), (.object "java/lang/String"), (.object "java/lang/String")], none⟩ := by decide +kernel
theorem pd_9 : parseMethodDescriptor "()Z" = some ⟨[], some .boolean⟩ := by decide +kernel
theorem pd_10 : parseMethodDescriptor "(Ljava/lang/Object;)Z" = some ⟨[(.object "java/lang/Object")], some .boolean⟩ := by decide +kernel
theorem pd_11 : parseMethodDescriptor "()Ljava/lang/String;" = some ⟨[], some (.object "java/lang/String")⟩ := by decide +kernel
theorem ef_rm0 (m : MethodId) (i0 : Int32) (i1 : Int32) (i2 : Int32) (i3 : Int32) : entryFrame m #[(.int i0), (.int i1), (.int i2), (.int i3)] maxLocals = mkF m 0 #[.val (.int i0), .val (.int i1), .val (.int i2), .val (.int i3), .unset, .unset, .unset, .unset, .unset, .unset, .unset, .unset, .unset, .unset] [] := by first | (simp [entryFrame, mkF, argsToLocals, Value.category, maxLocals]; done) | rfl
def Q_rm0 (Z : State) (i0 : Int32) (i1 : Int32) (i2 : Int32) (i3 : Int32) (cs : Int32) (h0 : Heap) (n0 : Nat) (v : Option Value) (h : Heap) (L : List Loc) : Prop := v = some (.int 1) ∧ Fr n0 L ∧ Keep h0 h []
set_option maxRecDepth 65536 in
set_option maxHeartbeats 40000000 in
theorem rm0 (l : Launch) (Z : State) (av0 : Array Value) (hw : ∀ d ∈ tables_1, d.before av0 Z = true) (ws : List Jvm.Cond) (i0 : Int32) (i1 : Int32) (i2 : Int32) (i3 : Int32) (cs : Int32) (h0 : Heap) (n0 : Nat) (Z0 : n0 ≤ h0.size) (p0_O : Old Z n0 h0) (p1_S : Sta Z Z.heap "java/lang/String" "COMPACT_STRINGS" "Z" (.int cs)) (hcs : ¬ (cs = (0 : Int32))) :
    MetFree l x (head1 (Jvm.Cond.code x code maxLocals ret :: ws) room_1) (fun a U => a = #[(.int i0), (.int i1), (.int i2), (.int i3)] ∧ Z.Warmed39 U.vm ∧ U.heap = h0) (fun _ _ _ _ _ => True) (fun _ U o U' => ∃ v L, o = .returned v ∧ Q_rm0 Z i0 i1 i2 i3 cs h0 n0 v U'.heap L ∧ FrameEnd U o U' L room_1.cells room_1.slots) := by
  refine MetFree.of_bodySF (plainFor_of_name pn_com_example_callee_callee_model_CallContextAcceptsStreamingPinLaw) hisR ?_
  intro p e s m args below meth c s₁ Bd hml0 hP hK
  obtain ⟨rfl, hZ, hh⟩ := hP
  have hx := Bd.exec
  have hby := Bd.bytes
  have hml : c.maxLocals = 14 := hml0
  have hown : s.vm.findClass "com/example/callee/callee/model/CallContextAcceptsStreamingPinLaw" = some m.cls := findClass_of_methodNamed Bd.named
  have hnm := (name_of_methodNamed Bd.named Bd.method).1
  have X0 : Stand p l e room_1 s m #[(.int i0), (.int i1), (.int i2), (.int i3)] below meth c s₁ [] 0 0 := Stand.of_body Bd
  have e0 : s₁.heap = h0 := by rw [← hh, Bd.state]; rfl
  have N0 := Fr.nil n0
  have pre0 : ∀ tz_, Steps p.tables e below (s₁.setTop (mkF m 0 #[.val (.int i0), .val (.int i1), .val (.int i2), .val (.int i3), .unset, .unset, .unset, .unset, .unset, .unset, .unset, .unset, .unset, .unset] [])) tz_ → Steps p.tables e below (s₁.setTop (entryFrame m #[(.int i0), (.int i1), (.int i2), (.int i3)] maxLocals)) tz_ := fun tz_ kz_ => castTop (ef_rm0 m i0 i1 i2 i3) kz_
  have K0 : Keep h0 h0 [] := Keep.refl h0 []
  refine cps (A := ∃ (tw : Int32) (T : State) (Lq : List Loc), Stand p l e room_1 s m #[(.int i0), (.int i1), (.int i2), (.int i3)] below meth c T Lq 0 0 ∧ Fr n0 Lq ∧ T.heap = h0 ∧ (∀ tz_, Steps p.tables e below (T.setTop (mkF m 12 #[.val (.int i0), .val (.int i1), .val (.int i2), .val (.int i3), .unset, .unset, .unset, .unset, .unset, .unset, .unset, .unset, .unset, .unset] [(.int tw)])) tz_ → Steps p.tables e below (s₁.setTop (entryFrame m #[(.int i0), (.int i1), (.int i2), (.int i3)] maxLocals)) tz_)) (fun tail31 => ?_) ?_
  · skip
    have pre32 : ∀ tz_, Steps p.tables e below (s₁.setTop (mkF m 4 #[.val (.int i0), .val (.int i1), .val (.int i2), .val (.int i3), .unset, .unset, .unset, .unset, .unset, .unset, .unset, .unset, .unset, .unset] [(.int (i3 &&& (8 : Int32)))])) tz_ → Steps p.tables e below (s₁.setTop (entryFrame m #[(.int i0), (.int i1), (.int i2), (.int i3)] maxLocals)) tz_ := fun tz_ kk => pre0 tz_ (by
      show Steps p.tables e below (s₁.setTop (mkF m 0 #[.val (.int i0), .val (.int i1), .val (.int i2), .val (.int i3), .unset, .unset, .unset, .unset, .unset, .unset, .unset, .unset, .unset, .unset] [])) _
      refine XS.iloadN X0.here hx rfl (hb hby at_0) rfl ?_
      refine XS.bipush X0.here hx rfl (hb hby at_1) ?_
      show Steps p.tables e below (s₁.setTop (mkF m 3 #[.val (.int i0), .val (.int i1), .val (.int i2), .val (.int i3), .unset, .unset, .unset, .unset, .unset, .unset, .unset, .unset, .unset, .unset] [(.int 8), (.int i3)])) _
      refine XS.iand X0.here hx rfl (hb hby at_3) rfl ?_
      exact kk)
    by_cases hc33 : (i3 &&& (8 : Int32)) = (0 : Int32)
    · skip
      have pre34 : ∀ tz_, Steps p.tables e below (s₁.setTop (mkF m 12 #[.val (.int i0), .val (.int i1), .val (.int i2), .val (.int i3), .unset, .unset, .unset, .unset, .unset, .unset, .unset, .unset, .unset, .unset] [(.int 0)])) tz_ → Steps p.tables e below (s₁.setTop (entryFrame m #[(.int i0), (.int i1), (.int i2), (.int i3)] maxLocals)) tz_ := fun tz_ kk => pre32 tz_ (by
        show Steps p.tables e below (s₁.setTop (mkF m 4 #[.val (.int i0), .val (.int i1), .val (.int i2), .val (.int i3), .unset, .unset, .unset, .unset, .unset, .unset, .unset, .unset, .unset, .unset] [(.int (i3 &&& (8 : Int32)))])) _
        refine XS.ifYes X0.here hx rfl (pc0 := 4) (pc' := 11) rfl (hb hby at_4) rfl ((if0 _ _).trans (teq hc33).1) (by decide) (by decide) ?_
        refine XS.iconst X0.here hx rfl (hb hby at_11) ?_
        exact kk)
      exact tail31 ⟨(0 : Int32), s₁, _, X0, N0, e0, pre34⟩
    · skip
      have pre35 : ∀ tz_, Steps p.tables e below (s₁.setTop (mkF m 12 #[.val (.int i0), .val (.int i1), .val (.int i2), .val (.int i3), .unset, .unset, .unset, .unset, .unset, .unset, .unset, .unset, .unset, .unset] [(.int 1)])) tz_ → Steps p.tables e below (s₁.setTop (entryFrame m #[(.int i0), (.int i1), (.int i2), (.int i3)] maxLocals)) tz_ := fun tz_ kk => pre32 tz_ (by
        show Steps p.tables e below (s₁.setTop (mkF m 4 #[.val (.int i0), .val (.int i1), .val (.int i2), .val (.int i3), .unset, .unset, .unset, .unset, .unset, .unset, .unset, .unset, .unset, .unset] [(.int (i3 &&& (8 : Int32)))])) _
        refine XS.ifNo X0.here hx rfl (hb hby at_4) rfl ((if0 _ _).trans (feq hc33).1) ?_
        refine XS.iconst X0.here hx rfl (hb hby at_7) ?_
        refine XS.goto X0.here hx rfl (pc0 := 8) (pc' := 12) rfl (hb hby at_8) (by decide) (by decide) ?_
        exact kk)
      exact tail31 ⟨(1 : Int32), s₁, _, X0, N0, e0, pre35⟩
  · skip
    rintro ⟨tw, T31, Lq31, X31, N31, e31, pre31⟩
    have pre36 : ∀ tz_, Steps p.tables e below (T31.setTop (mkF m 14 #[.val (.int i0), .val (.int i1), .val (.int i2), .val (.int i3), .val (.int tw), .unset, .unset, .unset, .unset, .unset, .unset, .unset, .unset, .unset] [])) tz_ → Steps p.tables e below (s₁.setTop (entryFrame m #[(.int i0), (.int i1), (.int i2), (.int i3)] maxLocals)) tz_ := fun tz_ kk => pre31 tz_ (by
      show Steps p.tables e below (T31.setTop (mkF m 12 #[.val (.int i0), .val (.int i1), .val (.int i2), .val (.int i3), .unset, .unset, .unset, .unset, .unset, .unset, .unset, .unset, .unset, .unset] [(.int tw)])) _
      refine XS.istore X31.here hx rfl (hb hby at_12) rfl (l' := #[.val (.int i0), .val (.int i1), .val (.int i2), .val (.int i3), .val (.int tw), .unset, .unset, .unset, .unset, .unset, .unset, .unset, .unset, .unset]) rfl ?_
      exact kk)
    refine cps (A := ∃ (u1 : Value) (T : State) (Lq : List Loc), Stand p l e room_1 s m #[(.int i0), (.int i1), (.int i2), (.int i3)] below meth c T Lq 3 8 ∧ Fr n0 Lq ∧ Keep h0 T.heap [] ∧ (∀ tz_, Steps p.tables e below (T.setTop (mkF m 30 #[.val (.int i0), .val (.int i1), .val (.int i2), .val (.int i3), .val (.int tw), .unset, .unset, .unset, .unset, .unset, .unset, .unset, .unset, .unset] [u1])) tz_ → Steps p.tables e below (s₁.setTop (entryFrame m #[(.int i0), (.int i1), (.int i2), (.int i3)] maxLocals)) tz_) ∧ (u1.isRef = true)) (fun tail37 => ?_) ?_
    · skip
      have pre38 : ∀ tz_, Steps p.tables e below (T31.setTop (mkF m 17 #[.val (.int i0), .val (.int i1), .val (.int i2), .val (.int i3), .val (.int tw), .unset, .unset, .unset, .unset, .unset, .unset, .unset, .unset, .unset] [(.int (i3 &&& (1 : Int32)))])) tz_ → Steps p.tables e below (s₁.setTop (entryFrame m #[(.int i0), (.int i1), (.int i2), (.int i3)] maxLocals)) tz_ := fun tz_ kk => pre36 tz_ (by
        show Steps p.tables e below (T31.setTop (mkF m 14 #[.val (.int i0), .val (.int i1), .val (.int i2), .val (.int i3), .val (.int tw), .unset, .unset, .unset, .unset, .unset, .unset, .unset, .unset, .unset] [])) _
        refine XS.iloadN X31.here hx rfl (hb hby at_14) rfl ?_
        refine XS.iconst X31.here hx rfl (hb hby at_15) ?_
        show Steps p.tables e below (T31.setTop (mkF m 16 #[.val (.int i0), .val (.int i1), .val (.int i2), .val (.int i3), .val (.int tw), .unset, .unset, .unset, .unset, .unset, .unset, .unset, .unset, .unset] [(.int 1), (.int i3)])) _
        refine XS.iand X31.here hx rfl (hb hby at_16) rfl ?_
        exact kk)
      by_cases hc39 : (i3 &&& (1 : Int32)) = (0 : Int32)
      · skip
        have pre40 : ∀ tz_, Steps p.tables e below (T31.setTop (mkF m 30 #[.val (.int i0), .val (.int i1), .val (.int i2), .val (.int i3), .val (.int tw), .unset, .unset, .unset, .unset, .unset, .unset, .unset, .unset, .unset] [.null])) tz_ → Steps p.tables e below (s₁.setTop (entryFrame m #[(.int i0), (.int i1), (.int i2), (.int i3)] maxLocals)) tz_ := fun tz_ kk => pre38 tz_ (by
          show Steps p.tables e below (T31.setTop (mkF m 17 #[.val (.int i0), .val (.int i1), .val (.int i2), .val (.int i3), .val (.int tw), .unset, .unset, .unset, .unset, .unset, .unset, .unset, .unset, .unset] [(.int (i3 &&& (1 : Int32)))])) _
          refine XS.ifYes X31.here hx rfl (pc0 := 17) (pc' := 29) rfl (hb hby at_17) rfl ((if0 _ _).trans (teq hc39).1) (by decide) (by decide) ?_
          refine XS.aconstNull X31.here hx rfl (hb hby at_29) ?_
          exact kk)
        exact tail37 ⟨.null, T31, _, X31.more (by decide) (by decide), N31, (by rw [e31]; exact (Keep.refl h0 [])), pre40, rfl⟩
      · skip
        -- pc 23: CallContextAcceptsStreamingPinLaw.str
        obtain ⟨_, _, ⟨T41, L41, k41, n41⟩, -, X41, ⟨Lc41, hQ41, l41, y41, z41⟩, st41⟩ := Jvm.LawKit.callS X31 hx (y := (⟨"com/example/callee/callee/model/CallContextAcceptsStreamingPinLaw", "str", "(IZ)Ljava/lang/String;"⟩ : MethodName)) hown (mvT hZ (hw _ (List.mem_of_getElem? (i := 0) rfl))) (mvT hZ (hw _ (List.mem_of_getElem? (i := 1) rfl))) (mvT hZ (hw _ (List.mem_of_getElem? (i := 2) rfl))) (mvT hZ (hw _ (List.mem_of_getElem? (i := 3) rfl))) (by decide) (backOf (W := 0) (rm1 l Z av0 hw [] i0 tw cs h0 n0 (own_le p0_O) p0_O p1_S (hcs : ¬ (cs = (0 : Int32)))) hZ (hw _ (List.mem_of_getElem? (i := 3) rfl)) (hw _ (List.mem_of_getElem? (i := 2) rfl)) (by decide) (by decide)) (g := (mkF m 23 #[.val (.int i0), .val (.int i1), .val (.int i2), .val (.int i3), .val (.int tw), .unset, .unset, .unset, .unset, .unset, .unset, .unset, .unset, .unset] [(.int tw), (.int i0)])) rfl (by rw [hml]; rfl) (argsL := [(.int i0), (.int tw)]) (rest := []) (lenOf pd_0 rfl) rfl (by show 2 * 0 + _ ≤ _; exact Nat.le_of_eq rfl) (hb hby at_23) (fun vmx hWx => ⟨rfl, e31, (by decide : 0 + 3 ≤ _), (by decide : 0 + 8 ≤ _)⟩)
        dsimp only [Pt.U, Pt.locs, Pt.cells, Pt.slots] at X41 l41 y41 z41 st41 hQ41
        subst l41 y41 z41
        obtain ⟨b_41, rv41, Nq41, Kq41, u41_0⟩ := hQ41
        subst rv41
        have N41 := Fr.app N31 Nq41
        have g_b_41 : n0 ≤ b_41 := Nat.le_trans (own_le p0_O) u41_0
        have sz_b_41 : h0.size ≤ b_41 := Nat.le_trans K0.1 u41_0
        have K42 := K0.trans Kq41 all0
        have O42 := p0_O.keep Kq41 all0
        have pre43 : ∀ tz_, Steps p.tables e below (T41.setTop (mkF m 30 #[.val (.int i0), .val (.int i1), .val (.int i2), .val (.int i3), .val (.int tw), .unset, .unset, .unset, .unset, .unset, .unset, .unset, .unset, .unset] [(.ref b_41)])) tz_ → Steps p.tables e below (s₁.setTop (entryFrame m #[(.int i0), (.int i1), (.int i2), (.int i3)] maxLocals)) tz_ := fun tz_ kk => pre38 tz_ (by
          show Steps p.tables e below (T31.setTop (mkF m 17 #[.val (.int i0), .val (.int i1), .val (.int i2), .val (.int i3), .val (.int tw), .unset, .unset, .unset, .unset, .unset, .unset, .unset, .unset, .unset] [(.int (i3 &&& (1 : Int32)))])) _
          refine XS.ifNo X31.here hx rfl (hb hby at_17) rfl ((if0 _ _).trans (feq hc39).1) ?_
          refine XS.iloadN X31.here hx rfl (hb hby at_20) rfl ?_
          refine XS.iload X31.here hx rfl (hb hby at_21) rfl ?_
          show Steps p.tables e below (T31.setTop (mkF m 23 #[.val (.int i0), .val (.int i1), .val (.int i2), .val (.int i3), .val (.int tw), .unset, .unset, .unset, .unset, .unset, .unset, .unset, .unset, .unset] [(.int tw), (.int i0)])) _
          refine st41 _ ?_
          refine XS.goto X41.here hx rfl (pc0 := 26) (pc' := 30) rfl (hb hby at_26) (by decide) (by decide) ?_
          exact kk)
        exact tail37 ⟨(.ref b_41), T41, _, X41.more (by decide) (by decide), N41, ((Keep.refl h0 []).trans Kq41 all0), pre43, rfl⟩
    · skip
      rintro ⟨u1, T37, Lq37, X37, N37, Kj37, pre37, j37_0⟩
      have K44 := K0.trans Kj37 all0
      have O44 := p0_O.keep Kj37 all0
      have pre45 : ∀ tz_, Steps p.tables e below (T37.setTop (mkF m 32 #[.val (.int i0), .val (.int i1), .val (.int i2), .val (.int i3), .val (.int tw), .val u1, .unset, .unset, .unset, .unset, .unset, .unset, .unset, .unset] [])) tz_ → Steps p.tables e below (s₁.setTop (entryFrame m #[(.int i0), (.int i1), (.int i2), (.int i3)] maxLocals)) tz_ := fun tz_ kk => pre37 tz_ (by
        show Steps p.tables e below (T37.setTop (mkF m 30 #[.val (.int i0), .val (.int i1), .val (.int i2), .val (.int i3), .val (.int tw), .unset, .unset, .unset, .unset, .unset, .unset, .unset, .unset, .unset] [u1])) _
        refine XS.astore X37.here hx rfl (hb hby at_30) rfl j37_0 (l' := #[.val (.int i0), .val (.int i1), .val (.int i2), .val (.int i3), .val (.int tw), .val u1, .unset, .unset, .unset, .unset, .unset, .unset, .unset, .unset]) (by rcases own_refc j37_0 with hh | ⟨_, hh⟩ <;> rw [hh] <;> rfl) ?_
        exact kk)
      refine cps (A := ∃ (u3 : Value) (T : State) (Lq : List Loc), Stand p l e room_1 s m #[(.int i0), (.int i1), (.int i2), (.int i3)] below meth c T Lq 6 16 ∧ Fr n0 Lq ∧ Keep T37.heap T.heap [] ∧ (∀ tz_, Steps p.tables e below (T.setTop (mkF m 48 #[.val (.int i0), .val (.int i1), .val (.int i2), .val (.int i3), .val (.int tw), .val u1, .unset, .unset, .unset, .unset, .unset, .unset, .unset, .unset] [u3])) tz_ → Steps p.tables e below (s₁.setTop (entryFrame m #[(.int i0), (.int i1), (.int i2), (.int i3)] maxLocals)) tz_) ∧ (u3.isRef = true)) (fun tail46 => ?_) ?_
      · skip
        have pre47 : ∀ tz_, Steps p.tables e below (T37.setTop (mkF m 35 #[.val (.int i0), .val (.int i1), .val (.int i2), .val (.int i3), .val (.int tw), .val u1, .unset, .unset, .unset, .unset, .unset, .unset, .unset, .unset] [(.int (i3 &&& (2 : Int32)))])) tz_ → Steps p.tables e below (s₁.setTop (entryFrame m #[(.int i0), (.int i1), (.int i2), (.int i3)] maxLocals)) tz_ := fun tz_ kk => pre45 tz_ (by
          show Steps p.tables e below (T37.setTop (mkF m 32 #[.val (.int i0), .val (.int i1), .val (.int i2), .val (.int i3), .val (.int tw), .val u1, .unset, .unset, .unset, .unset, .unset, .unset, .unset, .unset] [])) _
          refine XS.iloadN X37.here hx rfl (hb hby at_32) rfl ?_
          show Steps p.tables e below (T37.setTop (mkF m 33 #[.val (.int i0), .val (.int i1), .val (.int i2), .val (.int i3), .val (.int tw), .val u1, .unset, .unset, .unset, .unset, .unset, .unset, .unset, .unset] [(.int i3)])) _
          refine XS.iconst X37.here hx rfl (hb hby at_33) ?_
          show Steps p.tables e below (T37.setTop (mkF m 34 #[.val (.int i0), .val (.int i1), .val (.int i2), .val (.int i3), .val (.int tw), .val u1, .unset, .unset, .unset, .unset, .unset, .unset, .unset, .unset] [(.int 2), (.int i3)])) _
          refine XS.iand X37.here hx rfl (hb hby at_34) rfl ?_
          exact kk)
        by_cases hc48 : (i3 &&& (2 : Int32)) = (0 : Int32)
        · skip
          have pre49 : ∀ tz_, Steps p.tables e below (T37.setTop (mkF m 48 #[.val (.int i0), .val (.int i1), .val (.int i2), .val (.int i3), .val (.int tw), .val u1, .unset, .unset, .unset, .unset, .unset, .unset, .unset, .unset] [.null])) tz_ → Steps p.tables e below (s₁.setTop (entryFrame m #[(.int i0), (.int i1), (.int i2), (.int i3)] maxLocals)) tz_ := fun tz_ kk => pre47 tz_ (by
            show Steps p.tables e below (T37.setTop (mkF m 35 #[.val (.int i0), .val (.int i1), .val (.int i2), .val (.int i3), .val (.int tw), .val u1, .unset, .unset, .unset, .unset, .unset, .unset, .unset, .unset] [(.int (i3 &&& (2 : Int32)))])) _
            refine XS.ifYes X37.here hx rfl (pc0 := 35) (pc' := 47) rfl (hb hby at_35) rfl ((if0 _ _).trans (teq hc48).1) (by decide) (by decide) ?_
            refine XS.aconstNull X37.here hx rfl (hb hby at_47) ?_
            exact kk)
          exact tail46 ⟨.null, T37, _, X37.more (by decide) (by decide), N37, (Keep.refl T37.heap []), pre49, rfl⟩
        · skip
          -- pc 41: CallContextAcceptsStreamingPinLaw.str
          obtain ⟨_, _, ⟨T50, L50, k50, n50⟩, -, X50, ⟨Lc50, hQ50, l50, y50, z50⟩, st50⟩ := Jvm.LawKit.callS X37 hx (y := (⟨"com/example/callee/callee/model/CallContextAcceptsStreamingPinLaw", "str", "(IZ)Ljava/lang/String;"⟩ : MethodName)) hown (mvT hZ (hw _ (List.mem_of_getElem? (i := 0) rfl))) (mvT hZ (hw _ (List.mem_of_getElem? (i := 1) rfl))) (mvT hZ (hw _ (List.mem_of_getElem? (i := 2) rfl))) (mvT hZ (hw _ (List.mem_of_getElem? (i := 3) rfl))) (by decide) (backOf (W := 0) (rm1 l Z av0 hw [] i1 tw cs T37.heap n0 (own_le O44) O44 p1_S (hcs : ¬ (cs = (0 : Int32)))) hZ (hw _ (List.mem_of_getElem? (i := 3) rfl)) (hw _ (List.mem_of_getElem? (i := 2) rfl)) (by decide) (by decide)) (g := (mkF m 41 #[.val (.int i0), .val (.int i1), .val (.int i2), .val (.int i3), .val (.int tw), .val u1, .unset, .unset, .unset, .unset, .unset, .unset, .unset, .unset] [(.int tw), (.int i1)])) rfl (by rw [hml]; rfl) (argsL := [(.int i1), (.int tw)]) (rest := []) (lenOf pd_0 rfl) rfl (by show 2 * 0 + _ ≤ _; exact Nat.le_of_eq rfl) (hb hby at_41) (fun vmx hWx => ⟨rfl, rfl, (by decide : 3 + 3 ≤ _), (by decide : 8 + 8 ≤ _)⟩)
          dsimp only [Pt.U, Pt.locs, Pt.cells, Pt.slots] at X50 l50 y50 z50 st50 hQ50
          subst l50 y50 z50
          obtain ⟨b_50, rv50, Nq50, Kq50, u50_0⟩ := hQ50
          subst rv50
          have N50 := Fr.app N37 Nq50
          have g_b_50 : n0 ≤ b_50 := Nat.le_trans (own_le O44) u50_0
          have sz_b_50 : h0.size ≤ b_50 := Nat.le_trans K44.1 u50_0
          have K51 := K44.trans Kq50 all0
          have O51 := O44.keep Kq50 all0
          have pre52 : ∀ tz_, Steps p.tables e below (T50.setTop (mkF m 48 #[.val (.int i0), .val (.int i1), .val (.int i2), .val (.int i3), .val (.int tw), .val u1, .unset, .unset, .unset, .unset, .unset, .unset, .unset, .unset] [(.ref b_50)])) tz_ → Steps p.tables e below (s₁.setTop (entryFrame m #[(.int i0), (.int i1), (.int i2), (.int i3)] maxLocals)) tz_ := fun tz_ kk => pre47 tz_ (by
            show Steps p.tables e below (T37.setTop (mkF m 35 #[.val (.int i0), .val (.int i1), .val (.int i2), .val (.int i3), .val (.int tw), .val u1, .unset, .unset, .unset, .unset, .unset, .unset, .unset, .unset] [(.int (i3 &&& (2 : Int32)))])) _
            refine XS.ifNo X37.here hx rfl (hb hby at_35) rfl ((if0 _ _).trans (feq hc48).1) ?_
            show Steps p.tables e below (T37.setTop (mkF m 38 #[.val (.int i0), .val (.int i1), .val (.int i2), .val (.int i3), .val (.int tw), .val u1, .unset, .unset, .unset, .unset, .unset, .unset, .unset, .unset] [])) _
            refine XS.iloadN X37.here hx rfl (hb hby at_38) rfl ?_
            refine XS.iload X37.here hx rfl (hb hby at_39) rfl ?_
            show Steps p.tables e below (T37.setTop (mkF m 41 #[.val (.int i0), .val (.int i1), .val (.int i2), .val (.int i3), .val (.int tw), .val u1, .unset, .unset, .unset, .unset, .unset, .unset, .unset, .unset] [(.int tw), (.int i1)])) _
            refine st50 _ ?_
            refine XS.goto X50.here hx rfl (pc0 := 44) (pc' := 48) rfl (hb hby at_44) (by decide) (by decide) ?_
            exact kk)
          exact tail46 ⟨(.ref b_50), T50, _, X50.more (by decide) (by decide), N50, ((Keep.refl T37.heap []).trans Kq50 all0), pre52, rfl⟩
      · skip
        rintro ⟨u3, T46, Lq46, X46, N46, Kj46, pre46, j46_0⟩
        have K53 := K44.trans Kj46 all0
        have O53 := O44.keep Kj46 all0
        have pre54 : ∀ tz_, Steps p.tables e below (T46.setTop (mkF m 50 #[.val (.int i0), .val (.int i1), .val (.int i2), .val (.int i3), .val (.int tw), .val u1, .val u3, .unset, .unset, .unset, .unset, .unset, .unset, .unset] [])) tz_ → Steps p.tables e below (s₁.setTop (entryFrame m #[(.int i0), (.int i1), (.int i2), (.int i3)] maxLocals)) tz_ := fun tz_ kk => pre46 tz_ (by
          show Steps p.tables e below (T46.setTop (mkF m 48 #[.val (.int i0), .val (.int i1), .val (.int i2), .val (.int i3), .val (.int tw), .val u1, .unset, .unset, .unset, .unset, .unset, .unset, .unset, .unset] [u3])) _
          refine XS.astore X46.here hx rfl (hb hby at_48) rfl j46_0 (l' := #[.val (.int i0), .val (.int i1), .val (.int i2), .val (.int i3), .val (.int tw), .val u1, .val u3, .unset, .unset, .unset, .unset, .unset, .unset, .unset]) (by rcases own_refc j46_0 with hh | ⟨_, hh⟩ <;> rw [hh] <;> rfl) ?_
          exact kk)
        refine cps (A := ∃ (u4 : Value) (T : State) (Lq : List Loc), Stand p l e room_1 s m #[(.int i0), (.int i1), (.int i2), (.int i3)] below meth c T Lq 9 24 ∧ Fr n0 Lq ∧ Keep T46.heap T.heap [] ∧ (∀ tz_, Steps p.tables e below (T.setTop (mkF m 66 #[.val (.int i0), .val (.int i1), .val (.int i2), .val (.int i3), .val (.int tw), .val u1, .val u3, .unset, .unset, .unset, .unset, .unset, .unset, .unset] [u4])) tz_ → Steps p.tables e below (s₁.setTop (entryFrame m #[(.int i0), (.int i1), (.int i2), (.int i3)] maxLocals)) tz_) ∧ (u4.isRef = true)) (fun tail55 => ?_) ?_
        · skip
          have pre56 : ∀ tz_, Steps p.tables e below (T46.setTop (mkF m 53 #[.val (.int i0), .val (.int i1), .val (.int i2), .val (.int i3), .val (.int tw), .val u1, .val u3, .unset, .unset, .unset, .unset, .unset, .unset, .unset] [(.int (i3 &&& (4 : Int32)))])) tz_ → Steps p.tables e below (s₁.setTop (entryFrame m #[(.int i0), (.int i1), (.int i2), (.int i3)] maxLocals)) tz_ := fun tz_ kk => pre54 tz_ (by
            show Steps p.tables e below (T46.setTop (mkF m 50 #[.val (.int i0), .val (.int i1), .val (.int i2), .val (.int i3), .val (.int tw), .val u1, .val u3, .unset, .unset, .unset, .unset, .unset, .unset, .unset] [])) _
            refine XS.iloadN X46.here hx rfl (hb hby at_50) rfl ?_
            refine XS.iconst X46.here hx rfl (hb hby at_51) ?_
            show Steps p.tables e below (T46.setTop (mkF m 52 #[.val (.int i0), .val (.int i1), .val (.int i2), .val (.int i3), .val (.int tw), .val u1, .val u3, .unset, .unset, .unset, .unset, .unset, .unset, .unset] [(.int 4), (.int i3)])) _
            refine XS.iand X46.here hx rfl (hb hby at_52) rfl ?_
            exact kk)
          by_cases hc57 : (i3 &&& (4 : Int32)) = (0 : Int32)
          · skip
            have pre58 : ∀ tz_, Steps p.tables e below (T46.setTop (mkF m 66 #[.val (.int i0), .val (.int i1), .val (.int i2), .val (.int i3), .val (.int tw), .val u1, .val u3, .unset, .unset, .unset, .unset, .unset, .unset, .unset] [.null])) tz_ → Steps p.tables e below (s₁.setTop (entryFrame m #[(.int i0), (.int i1), (.int i2), (.int i3)] maxLocals)) tz_ := fun tz_ kk => pre56 tz_ (by
              show Steps p.tables e below (T46.setTop (mkF m 53 #[.val (.int i0), .val (.int i1), .val (.int i2), .val (.int i3), .val (.int tw), .val u1, .val u3, .unset, .unset, .unset, .unset, .unset, .unset, .unset] [(.int (i3 &&& (4 : Int32)))])) _
              refine XS.ifYes X46.here hx rfl (pc0 := 53) (pc' := 65) rfl (hb hby at_53) rfl ((if0 _ _).trans (teq hc57).1) (by decide) (by decide) ?_
              refine XS.aconstNull X46.here hx rfl (hb hby at_65) ?_
              exact kk)
            exact tail55 ⟨.null, T46, _, X46.more (by decide) (by decide), N46, (Keep.refl T46.heap []), pre58, rfl⟩
          · skip
            -- pc 59: CallContextAcceptsStreamingPinLaw.str
            obtain ⟨_, _, ⟨T59, L59, k59, n59⟩, -, X59, ⟨Lc59, hQ59, l59, y59, z59⟩, st59⟩ := Jvm.LawKit.callS X46 hx (y := (⟨"com/example/callee/callee/model/CallContextAcceptsStreamingPinLaw", "str", "(IZ)Ljava/lang/String;"⟩ : MethodName)) hown (mvT hZ (hw _ (List.mem_of_getElem? (i := 0) rfl))) (mvT hZ (hw _ (List.mem_of_getElem? (i := 1) rfl))) (mvT hZ (hw _ (List.mem_of_getElem? (i := 2) rfl))) (mvT hZ (hw _ (List.mem_of_getElem? (i := 3) rfl))) (by decide) (backOf (W := 0) (rm1 l Z av0 hw [] i2 tw cs T46.heap n0 (own_le O53) O53 p1_S (hcs : ¬ (cs = (0 : Int32)))) hZ (hw _ (List.mem_of_getElem? (i := 3) rfl)) (hw _ (List.mem_of_getElem? (i := 2) rfl)) (by decide) (by decide)) (g := (mkF m 59 #[.val (.int i0), .val (.int i1), .val (.int i2), .val (.int i3), .val (.int tw), .val u1, .val u3, .unset, .unset, .unset, .unset, .unset, .unset, .unset] [(.int tw), (.int i2)])) rfl (by rw [hml]; rfl) (argsL := [(.int i2), (.int tw)]) (rest := []) (lenOf pd_0 rfl) rfl (by show 2 * 0 + _ ≤ _; exact Nat.le_of_eq rfl) (hb hby at_59) (fun vmx hWx => ⟨rfl, rfl, (by decide : 6 + 3 ≤ _), (by decide : 16 + 8 ≤ _)⟩)
            dsimp only [Pt.U, Pt.locs, Pt.cells, Pt.slots] at X59 l59 y59 z59 st59 hQ59
            subst l59 y59 z59
            obtain ⟨b_59, rv59, Nq59, Kq59, u59_0⟩ := hQ59
            subst rv59
            have N59 := Fr.app N46 Nq59
            have g_b_59 : n0 ≤ b_59 := Nat.le_trans (own_le O53) u59_0
            have sz_b_59 : h0.size ≤ b_59 := Nat.le_trans K53.1 u59_0
            have K60 := K53.trans Kq59 all0
            have O60 := O53.keep Kq59 all0
            have pre61 : ∀ tz_, Steps p.tables e below (T59.setTop (mkF m 66 #[.val (.int i0), .val (.int i1), .val (.int i2), .val (.int i3), .val (.int tw), .val u1, .val u3, .unset, .unset, .unset, .unset, .unset, .unset, .unset] [(.ref b_59)])) tz_ → Steps p.tables e below (s₁.setTop (entryFrame m #[(.int i0), (.int i1), (.int i2), (.int i3)] maxLocals)) tz_ := fun tz_ kk => pre56 tz_ (by
              show Steps p.tables e below (T46.setTop (mkF m 53 #[.val (.int i0), .val (.int i1), .val (.int i2), .val (.int i3), .val (.int tw), .val u1, .val u3, .unset, .unset, .unset, .unset, .unset, .unset, .unset] [(.int (i3 &&& (4 : Int32)))])) _
              refine XS.ifNo X46.here hx rfl (hb hby at_53) rfl ((if0 _ _).trans (feq hc57).1) ?_
              refine XS.iloadN X46.here hx rfl (hb hby at_56) rfl ?_
              refine XS.iload X46.here hx rfl (hb hby at_57) rfl ?_
              show Steps p.tables e below (T46.setTop (mkF m 59 #[.val (.int i0), .val (.int i1), .val (.int i2), .val (.int i3), .val (.int tw), .val u1, .val u3, .unset, .unset, .unset, .unset, .unset, .unset, .unset] [(.int tw), (.int i2)])) _
              refine st59 _ ?_
              refine XS.goto X59.here hx rfl (pc0 := 62) (pc' := 66) rfl (hb hby at_62) (by decide) (by decide) ?_
              exact kk)
            exact tail55 ⟨(.ref b_59), T59, _, X59.more (by decide) (by decide), N59, ((Keep.refl T46.heap []).trans Kq59 all0), pre61, rfl⟩
        · skip
          rintro ⟨u4, T55, Lq55, X55, N55, Kj55, pre55, j55_0⟩
          have K62 := K53.trans Kj55 all0
          have O62 := O53.keep Kj55 all0
          obtain ⟨T63, h63, X63, e63, E63, A63, D63, -, st63⟩ := newO X55 hx hZ hown (hw _ (List.mem_of_getElem? (i := 34) rfl)) (hw _ (List.mem_of_getElem? (i := 35) rfl)) (hw _ (List.mem_of_getElem? (i := 36) rfl)) rfl (g := (mkF m 68 #[.val (.int i0), .val (.int i1), .val (.int i2), .val (.int i3), .val (.int tw), .val u1, .val u3, .val u4, .unset, .unset, .unset, .unset, .unset, .unset] [])) rfl (hb hby at_68) (by decide) (by decide)
          obtain ⟨b63, q63⟩ : ∃ z, z = T55.heap.size := ⟨_, rfl⟩
          rw [← q63] at A63 D63 st63
          have g_b63 : n0 ≤ b63 := Nat.le_trans (own_le O62) (Nat.le_of_eq q63.symm)
          have sz_b63 : h0.size ≤ b63 := Nat.le_trans K62.1 (Nat.le_of_eq q63.symm)
          have K64 := K62.ext E63
          have O64 := O62.ext E63
          have F63_uid : Fld Z h63 b63 "com/example/callee/callee/model/CallContext" "uid" "Ljava/lang/String;" .null := D63 (Or.inr (hw _ (List.mem_of_getElem? (i := 45) rfl))) (ty := (.object "java/lang/String")) (by decide)
          have F63_idTokenClaims : Fld Z h63 b63 "com/example/callee/callee/model/CallContext" "idTokenClaims" "Ljava/util/Map;" .null := D63 (Or.inr (hw _ (List.mem_of_getElem? (i := 47) rfl))) (ty := (.object "java/util/Map")) (by decide)
          have F63_appId : Fld Z h63 b63 "com/example/callee/callee/model/CallContext" "appId" "Ljava/lang/String;" .null := D63 (Or.inr (hw _ (List.mem_of_getElem? (i := 49) rfl))) (ty := (.object "java/lang/String")) (by decide)
          have F63_instanceIdToken : Fld Z h63 b63 "com/example/callee/callee/model/CallContext" "instanceIdToken" "Ljava/lang/String;" .null := D63 (Or.inr (hw _ (List.mem_of_getElem? (i := 51) rfl))) (ty := (.object "java/lang/String")) (by decide)
          have F63_stream : Fld Z h63 b63 "com/example/callee/callee/model/CallContext" "stream" "Lcom/example/callee/callee/model/CallContext$Stream;" .null := D63 (Or.inr (hw _ (List.mem_of_getElem? (i := 53) rfl))) (ty := (.object "com/example/callee/callee/model/CallContext$Stream")) (by decide)
          -- pc 79: CallContext.init
          obtain ⟨_, _, ⟨T65, L65, k65, n65⟩, -, X65, ⟨Lc65, hQ65, l65, y65, z65⟩, st65⟩ := X63.specialBack hx (y := (⟨"com/example/callee/callee/model/CallContext", "<init>", "(Ljava/lang/String;Ljava/util/Map;Ljava/lang/String;Ljava/lang/String;)V"⟩ : MethodName)) rfl hown (mvT hZ (hw _ (List.mem_of_getElem? (i := 37) rfl))) (mvT hZ (hw _ (List.mem_of_getElem? (i := 38) rfl))) (mvT hZ (hw _ (List.mem_of_getElem? (i := 39) rfl))) (by decide) (backOf (W := 1) (ctx4 l Z av0 hw [] b63 u1 u3 u4 h63 n0 (own_le O64) A63 g_b63 F63_uid F63_idTokenClaims F63_appId F63_instanceIdToken F63_stream j37_0 j46_0 j55_0) hZ (hw _ (List.mem_of_getElem? (i := 39) rfl)) (hw _ (List.mem_of_getElem? (i := 36) rfl)) (by decide) (by decide)) (g := (mkF m 79 #[.val (.int i0), .val (.int i1), .val (.int i2), .val (.int i3), .val (.int tw), .val u1, .val u3, .val u4, .unset, .unset, .unset, .unset, .unset, .unset] [u4, u3, .null, u1, (.ref b63), (.ref b63)])) rfl (by rw [hml]; rfl) (Steps.refl _) (a := b63) (argsL := [u1, .null, u3, u4]) (rest := [(.ref b63)]) (lenOf pd_7 rfl) rfl (by show 2 * 0 + _ ≤ _; exact Nat.le_of_eq rfl) (hb hby at_79) (fun vmx hWx => ⟨rfl, e63, (by decide : 10 + 0 ≤ _), (by decide : 29 + 0 ≤ _)⟩)
          dsimp only [Pt.U, Pt.locs, Pt.cells, Pt.slots] at X65 l65 y65 z65 st65 hQ65
          subst l65 y65 z65
          obtain ⟨rv65, Nq65, Kq65, u65_0, u65_1, u65_2, u65_3, u65_4, u65_5⟩ := hQ65
          subst rv65
          have N65 := Fr.app N55 Nq65
          have K66 := K64.trans Kq65 (allS (Or.inr sz_b63) all0)
          have O66 := O64.keep Kq65 (allS g_b63 all0)
          obtain ⟨T67, h67, X67, e67, E67, A67, D67, -, st67⟩ := newO X65 hx hZ hown (hw _ (List.mem_of_getElem? (i := 34) rfl)) (hw _ (List.mem_of_getElem? (i := 35) rfl)) (hw _ (List.mem_of_getElem? (i := 36) rfl)) rfl (g := (mkF m 84 #[.val (.int i0), .val (.int i1), .val (.int i2), .val (.int i3), .val (.int tw), .val u1, .val u3, .val u4, .val (.ref b63), .unset, .unset, .unset, .unset, .unset] [])) rfl (hb hby at_84) (by decide) (by decide)
          obtain ⟨b67, q67⟩ : ∃ z, z = T65.heap.size := ⟨_, rfl⟩
          rw [← q67] at A67 D67 st67
          have g_b67 : n0 ≤ b67 := Nat.le_trans (own_le O66) (Nat.le_of_eq q67.symm)
          have sz_b67 : h0.size ≤ b67 := Nat.le_trans K66.1 (Nat.le_of_eq q67.symm)
          have K68 := K66.ext E67
          have O68 := O66.ext E67
          have F67_uid : Fld Z h67 b67 "com/example/callee/callee/model/CallContext" "uid" "Ljava/lang/String;" .null := D67 (Or.inr (hw _ (List.mem_of_getElem? (i := 45) rfl))) (ty := (.object "java/lang/String")) (by decide)
          have F67_idTokenClaims : Fld Z h67 b67 "com/example/callee/callee/model/CallContext" "idTokenClaims" "Ljava/util/Map;" .null := D67 (Or.inr (hw _ (List.mem_of_getElem? (i := 47) rfl))) (ty := (.object "java/util/Map")) (by decide)
          have F67_appId : Fld Z h67 b67 "com/example/callee/callee/model/CallContext" "appId" "Ljava/lang/String;" .null := D67 (Or.inr (hw _ (List.mem_of_getElem? (i := 49) rfl))) (ty := (.object "java/lang/String")) (by decide)
          have F67_instanceIdToken : Fld Z h67 b67 "com/example/callee/callee/model/CallContext" "instanceIdToken" "Ljava/lang/String;" .null := D67 (Or.inr (hw _ (List.mem_of_getElem? (i := 51) rfl))) (ty := (.object "java/lang/String")) (by decide)
          have F67_stream : Fld Z h67 b67 "com/example/callee/callee/model/CallContext" "stream" "Lcom/example/callee/callee/model/CallContext$Stream;" .null := D67 (Or.inr (hw _ (List.mem_of_getElem? (i := 53) rfl))) (ty := (.object "com/example/callee/callee/model/CallContext$Stream")) (by decide)
          -- pc 96: CallContext.init
          obtain ⟨_, _, ⟨T69, L69, k69, n69⟩, -, X69, ⟨Lc69, hQ69, l69, y69, z69⟩, st69⟩ := X67.specialBack hx (y := (⟨"com/example/callee/callee/model/CallContext", "<init>", "(Ljava/lang/String;Ljava/util/Map;Ljava/lang/String;Ljava/lang/String;Lcom/example/callee/callee/model/CallContext$Stream;)V"⟩ : MethodName)) rfl hown (mvT hZ (hw _ (List.mem_of_getElem? (i := 54) rfl))) (mvT hZ (hw _ (List.mem_of_getElem? (i := 41) rfl))) (mvT hZ (hw _ (List.mem_of_getElem? (i := 42) rfl))) (by decide) (backOf (W := 1) (ctx5 l Z av0 hw [] b67 u1 u3 u4 h67 n0 (own_le O68) A67 g_b67 F67_uid F67_idTokenClaims F67_appId F67_instanceIdToken F67_stream j37_0 j46_0 j55_0) hZ (hw _ (List.mem_of_getElem? (i := 42) rfl)) (hw _ (List.mem_of_getElem? (i := 36) rfl)) (by decide) (by decide)) (g := (mkF m 96 #[.val (.int i0), .val (.int i1), .val (.int i2), .val (.int i3), .val (.int tw), .val u1, .val u3, .val u4, .val (.ref b63), .unset, .unset, .unset, .unset, .unset] [.null, u4, u3, .null, u1, (.ref b67), (.ref b67)])) rfl (by rw [hml]; rfl) (Steps.refl _) (a := b67) (argsL := [u1, .null, u3, u4, .null]) (rest := [(.ref b67)]) (lenOf pd_8 rfl) rfl (by show 2 * 0 + _ ≤ _; exact Nat.le_of_eq rfl) (hb hby at_96) (fun vmx hWx => ⟨rfl, e67, (by decide : 11 + 0 ≤ _), (by decide : 34 + 0 ≤ _)⟩)
          dsimp only [Pt.U, Pt.locs, Pt.cells, Pt.slots] at X69 l69 y69 z69 st69 hQ69
          subst l69 y69 z69
          obtain ⟨rv69, Nq69, Kq69, u69_0, u69_1, u69_2, u69_3, u69_4, u69_5⟩ := hQ69
          subst rv69
          have N69 := Fr.app N65 Nq69
          have K70 := K68.trans Kq69 (allS (Or.inr sz_b67) all0)
          have O70 := O68.keep Kq69 (allS g_b67 all0)
          have ne71 : b63 ≠ b67 := (Nat.ne_of_lt (Nat.lt_of_lt_of_le u65_0.lt (Nat.le_of_eq q67.symm)))
          have f72 := ((u65_5.ext E67).keep Kq69 (ninS ne71 nin0))
          -- pc 103: CallContext.acceptsStreaming
          have f74 := ((u65_0.ext E67).keep Kq69)
          obtain ⟨cq73, kq73, q73a, q73b, q73c⟩ := isOf hZ rfl f74
          obtain ⟨_, _, ⟨T73, L73, k73, n73⟩, -, X73, ⟨Lc73, hQ73, l73, y73, z73⟩, st73⟩ := X69.virtualBack hx (y := (⟨"com/example/callee/callee/model/CallContext", "acceptsStreaming", "()Z"⟩ : MethodName)) (z := (⟨"com/example/callee/callee/model/CallContext", "acceptsStreaming", "()Z"⟩ : MethodName)) hown (mvT hZ (hw _ (List.mem_of_getElem? (i := 55) rfl))) (mvT hZ (hw _ (List.mem_of_getElem? (i := 56) rfl))) (notFace_of_selects (args := #[]) (mvT hZ (hw _ (List.mem_of_getElem? (i := 58) rfl)))) (mvT hZ (hw _ (List.mem_of_getElem? (i := 58) rfl))) (mvT hZ (hw _ (List.mem_of_getElem? (i := 57) rfl))) (by decide) (backOf (W := 0) (rm10 l Z av0 hw [] b63 T69.heap n0 (own_le O70) f72) hZ (hw _ (List.mem_of_getElem? (i := 59) rfl)) (hw _ (List.mem_of_getElem? (i := 36) rfl)) (by decide) (by decide)) q73a q73c (g := (mkF m 103 #[.val (.int i0), .val (.int i1), .val (.int i2), .val (.int i3), .val (.int tw), .val u1, .val u3, .val u4, .val (.ref b63), .val (.ref b67), .unset, .unset, .unset, .unset] [(.ref b63)])) rfl (by rw [hml]; rfl) (Steps.refl _) (argsL := []) (rest := []) (lenOf pd_9 rfl) rfl (by show 2 * 0 + _ ≤ _; exact Nat.le_of_eq rfl) (hb hby at_103) (fun vmx hWx => ⟨rfl, rfl, (by decide : 11 + 0 ≤ _), (by decide : 34 + 0 ≤ _)⟩)
          dsimp only [Pt.U, Pt.locs, Pt.cells, Pt.slots] at X73 l73 y73 z73 st73 hQ73
          subst l73 y73 z73
          obtain ⟨rv73, Nq73, Kq73⟩ := hQ73
          subst rv73
          have N73 := Fr.app N69 Nq73
          -- pc 110: CallContext.acceptsStreaming
          obtain ⟨cq75, kq75, q75a, q75b, q75c⟩ := isOf hZ Kq73 u69_0
          obtain ⟨_, _, ⟨T75, L75, k75, n75⟩, -, X75, ⟨Lc75, hQ75, l75, y75, z75⟩, st75⟩ := X73.virtualBack hx (y := (⟨"com/example/callee/callee/model/CallContext", "acceptsStreaming", "()Z"⟩ : MethodName)) (z := (⟨"com/example/callee/callee/model/CallContext", "acceptsStreaming", "()Z"⟩ : MethodName)) hown (mvT hZ (hw _ (List.mem_of_getElem? (i := 55) rfl))) (mvT hZ (hw _ (List.mem_of_getElem? (i := 56) rfl))) (notFace_of_selects (args := #[]) (mvT hZ (hw _ (List.mem_of_getElem? (i := 58) rfl)))) (mvT hZ (hw _ (List.mem_of_getElem? (i := 58) rfl))) (mvT hZ (hw _ (List.mem_of_getElem? (i := 57) rfl))) (by decide) (backOf (W := 0) (rm10 l Z av0 hw [] b67 T69.heap n0 (own_le O70) u69_5) hZ (hw _ (List.mem_of_getElem? (i := 59) rfl)) (hw _ (List.mem_of_getElem? (i := 36) rfl)) (by decide) (by decide)) q75a q75c (g := (mkF m 110 #[.val (.int i0), .val (.int i1), .val (.int i2), .val (.int i3), .val (.int tw), .val u1, .val u3, .val u4, .val (.ref b63), .val (.ref b67), .val (.int 0), .unset, .unset, .unset] [(.ref b67)])) rfl (by rw [hml]; rfl) (Steps.refl _) (argsL := []) (rest := []) (lenOf pd_9 rfl) rfl (by show 2 * 0 + _ ≤ _; exact Nat.le_of_eq rfl) (hb hby at_110) (fun vmx hWx => ⟨rfl, Kq73, (by decide : 11 + 0 ≤ _), (by decide : 34 + 0 ≤ _)⟩)
          dsimp only [Pt.U, Pt.locs, Pt.cells, Pt.slots] at X75 l75 y75 z75 st75 hQ75
          subst l75 y75 z75
          obtain ⟨rv75, Nq75, Kq75⟩ := hQ75
          subst rv75
          have N75 := Fr.app N73 Nq75
          -- pc 117: CallContext.callerGone
          obtain ⟨cq76, kq76, q76a, q76b, q76c⟩ := isOf hZ Kq75 f74
          obtain ⟨_, _, ⟨T76, L76, k76, n76⟩, -, X76, ⟨Lc76, hQ76, l76, y76, z76⟩, st76⟩ := X75.virtualBack hx (y := (⟨"com/example/callee/callee/model/CallContext", "callerGone", "()Z"⟩ : MethodName)) (z := (⟨"com/example/callee/callee/model/CallContext", "callerGone", "()Z"⟩ : MethodName)) hown (mvT hZ (hw _ (List.mem_of_getElem? (i := 60) rfl))) (mvT hZ (hw _ (List.mem_of_getElem? (i := 61) rfl))) (notFace_of_selects (args := #[]) (mvT hZ (hw _ (List.mem_of_getElem? (i := 63) rfl)))) (mvT hZ (hw _ (List.mem_of_getElem? (i := 63) rfl))) (mvT hZ (hw _ (List.mem_of_getElem? (i := 62) rfl))) (by decide) (backOf (W := 0) (rm11 l Z av0 hw [] b63 T69.heap n0 (own_le O70) f72) hZ (hw _ (List.mem_of_getElem? (i := 64) rfl)) (hw _ (List.mem_of_getElem? (i := 36) rfl)) (by decide) (by decide)) q76a q76c (g := (mkF m 117 #[.val (.int i0), .val (.int i1), .val (.int i2), .val (.int i3), .val (.int tw), .val u1, .val u3, .val u4, .val (.ref b63), .val (.ref b67), .val (.int 0), .val (.int 0), .unset, .unset] [(.ref b63)])) rfl (by rw [hml]; rfl) (Steps.refl _) (argsL := []) (rest := []) (lenOf pd_9 rfl) rfl (by show 2 * 0 + _ ≤ _; exact Nat.le_of_eq rfl) (hb hby at_117) (fun vmx hWx => ⟨rfl, Kq75, (by decide : 11 + 0 ≤ _), (by decide : 34 + 0 ≤ _)⟩)
          dsimp only [Pt.U, Pt.locs, Pt.cells, Pt.slots] at X76 l76 y76 z76 st76 hQ76
          subst l76 y76 z76
          obtain ⟨rv76, Nq76, Kq76⟩ := hQ76
          subst rv76
          have N76 := Fr.app N75 Nq76
          -- pc 126: CallContext.sendChunk
          obtain ⟨cq77, kq77, q77a, q77b, q77c⟩ := isOf hZ Kq76 f74
          obtain ⟨_, _, ⟨T77, L77, k77, n77⟩, -, X77, ⟨Lc77, hQ77, l77, y77, z77⟩, st77⟩ := X76.virtualBack hx (y := (⟨"com/example/callee/callee/model/CallContext", "sendChunk", "(Ljava/lang/Object;)Z"⟩ : MethodName)) (z := (⟨"com/example/callee/callee/model/CallContext", "sendChunk", "(Ljava/lang/Object;)Z"⟩ : MethodName)) hown (mvT hZ (hw _ (List.mem_of_getElem? (i := 65) rfl))) (mvT hZ (hw _ (List.mem_of_getElem? (i := 66) rfl))) (notFace_of_selects (args := #[]) (mvT hZ (hw _ (List.mem_of_getElem? (i := 68) rfl)))) (mvT hZ (hw _ (List.mem_of_getElem? (i := 68) rfl))) (mvT hZ (hw _ (List.mem_of_getElem? (i := 67) rfl))) (by decide) (backOf (W := 0) (rm12 l Z av0 hw [] b63 u1 T69.heap n0 (own_le O70) f72 j37_0) hZ (hw _ (List.mem_of_getElem? (i := 69) rfl)) (hw _ (List.mem_of_getElem? (i := 36) rfl)) (by decide) (by decide)) q77a q77c (g := (mkF m 126 #[.val (.int i0), .val (.int i1), .val (.int i2), .val (.int i3), .val (.int tw), .val u1, .val u3, .val u4, .val (.ref b63), .val (.ref b67), .val (.int 0), .val (.int 0), .val (.int 0), .unset] [u1, (.ref b63)])) rfl (by rw [hml]; rfl) (Steps.refl _) (argsL := [u1]) (rest := []) (lenOf pd_10 rfl) rfl (by show 2 * 0 + _ ≤ _; exact Nat.le_of_eq rfl) (hb hby at_126) (fun vmx hWx => ⟨rfl, Kq76, (by decide : 11 + 0 ≤ _), (by decide : 34 + 0 ≤ _)⟩)
          dsimp only [Pt.U, Pt.locs, Pt.cells, Pt.slots] at X77 l77 y77 z77 st77 hQ77
          subst l77 y77 z77
          obtain ⟨rv77, Nq77, Kq77⟩ := hQ77
          subst rv77
          have N77 := Fr.app N76 Nq77
          have f78 := ((u65_1.ext E67).keep Kq69 (ninS ne71 nin0))
          -- pc 153: CallContext.uid
          obtain ⟨cq79, kq79, q79a, q79b, q79c⟩ := isOf hZ Kq77 f74
          obtain ⟨_, _, ⟨T79, L79, k79, n79⟩, -, X79, ⟨Lc79, hQ79, l79, y79, z79⟩, st79⟩ := X77.virtualBack hx (y := (⟨"com/example/callee/callee/model/CallContext", "uid", "()Ljava/lang/String;"⟩ : MethodName)) (z := (⟨"com/example/callee/callee/model/CallContext", "uid", "()Ljava/lang/String;"⟩ : MethodName)) hown (mvT hZ (hw _ (List.mem_of_getElem? (i := 70) rfl))) (mvT hZ (hw _ (List.mem_of_getElem? (i := 71) rfl))) (notFace_of_selects (args := #[]) (mvT hZ (hw _ (List.mem_of_getElem? (i := 73) rfl)))) (mvT hZ (hw _ (List.mem_of_getElem? (i := 73) rfl))) (mvT hZ (hw _ (List.mem_of_getElem? (i := 72) rfl))) (by decide) (backOf (W := 0) (rm13 l Z av0 hw [] b63 u1 T69.heap n0 (own_le O70) f78 j37_0) hZ (hw _ (List.mem_of_getElem? (i := 74) rfl)) (hw _ (List.mem_of_getElem? (i := 36) rfl)) (by decide) (by decide)) q79a q79c (g := (mkF m 153 #[.val (.int i0), .val (.int i1), .val (.int i2), .val (.int i3), .val (.int tw), .val u1, .val u3, .val u4, .val (.ref b63), .val (.ref b67), .val (.int 0), .val (.int 0), .val (.int 0), .val (.int 0)] [(.ref b63)])) rfl (by rw [hml]; rfl) (Steps.refl _) (argsL := []) (rest := []) (lenOf pd_11 rfl) rfl (by show 2 * 0 + _ ≤ _; exact Nat.le_of_eq rfl) (hb hby at_153) (fun vmx hWx => ⟨rfl, Kq77, (by decide : 11 + 0 ≤ _), (by decide : 34 + 0 ≤ _)⟩)
          dsimp only [Pt.U, Pt.locs, Pt.cells, Pt.slots] at X79 l79 y79 z79 st79 hQ79
          subst l79 y79 z79
          obtain ⟨rv79, Nq79, Kq79⟩ := hQ79
          subst rv79
          have N79 := Fr.app N77 Nq79
          have f80 := ((u65_3.ext E67).keep Kq69 (ninS ne71 nin0))
          -- pc 163: CallContext.appId
          obtain ⟨cq81, kq81, q81a, q81b, q81c⟩ := isOf hZ Kq79 f74
          obtain ⟨_, _, ⟨T81, L81, k81, n81⟩, -, X81, ⟨Lc81, hQ81, l81, y81, z81⟩, st81⟩ := X79.virtualBack hx (y := (⟨"com/example/callee/callee/model/CallContext", "appId", "()Ljava/lang/String;"⟩ : MethodName)) (z := (⟨"com/example/callee/callee/model/CallContext", "appId", "()Ljava/lang/String;"⟩ : MethodName)) hown (mvT hZ (hw _ (List.mem_of_getElem? (i := 75) rfl))) (mvT hZ (hw _ (List.mem_of_getElem? (i := 76) rfl))) (notFace_of_selects (args := #[]) (mvT hZ (hw _ (List.mem_of_getElem? (i := 78) rfl)))) (mvT hZ (hw _ (List.mem_of_getElem? (i := 78) rfl))) (mvT hZ (hw _ (List.mem_of_getElem? (i := 77) rfl))) (by decide) (backOf (W := 0) (rm14 l Z av0 hw [] b63 u3 T69.heap n0 (own_le O70) f80 j46_0) hZ (hw _ (List.mem_of_getElem? (i := 79) rfl)) (hw _ (List.mem_of_getElem? (i := 36) rfl)) (by decide) (by decide)) q81a q81c (g := (mkF m 163 #[.val (.int i0), .val (.int i1), .val (.int i2), .val (.int i3), .val (.int tw), .val u1, .val u3, .val u4, .val (.ref b63), .val (.ref b67), .val (.int 0), .val (.int 0), .val (.int 0), .val (.int 0)] [(.ref b63)])) rfl (by rw [hml]; rfl) (Steps.refl _) (argsL := []) (rest := []) (lenOf pd_11 rfl) rfl (by show 2 * 0 + _ ≤ _; exact Nat.le_of_eq rfl) (hb hby at_163) (fun vmx hWx => ⟨rfl, Kq79, (by decide : 11 + 0 ≤ _), (by decide : 34 + 0 ≤ _)⟩)
          dsimp only [Pt.U, Pt.locs, Pt.cells, Pt.slots] at X81 l81 y81 z81 st81 hQ81
          subst l81 y81 z81
          obtain ⟨rv81, Nq81, Kq81⟩ := hQ81
          subst rv81
          have N81 := Fr.app N79 Nq81
          have f82 := ((u65_4.ext E67).keep Kq69 (ninS ne71 nin0))
          -- pc 173: CallContext.instanceIdToken
          obtain ⟨cq83, kq83, q83a, q83b, q83c⟩ := isOf hZ Kq81 f74
          obtain ⟨_, _, ⟨T83, L83, k83, n83⟩, -, X83, ⟨Lc83, hQ83, l83, y83, z83⟩, st83⟩ := X81.virtualBack hx (y := (⟨"com/example/callee/callee/model/CallContext", "instanceIdToken", "()Ljava/lang/String;"⟩ : MethodName)) (z := (⟨"com/example/callee/callee/model/CallContext", "instanceIdToken", "()Ljava/lang/String;"⟩ : MethodName)) hown (mvT hZ (hw _ (List.mem_of_getElem? (i := 80) rfl))) (mvT hZ (hw _ (List.mem_of_getElem? (i := 81) rfl))) (notFace_of_selects (args := #[]) (mvT hZ (hw _ (List.mem_of_getElem? (i := 83) rfl)))) (mvT hZ (hw _ (List.mem_of_getElem? (i := 83) rfl))) (mvT hZ (hw _ (List.mem_of_getElem? (i := 82) rfl))) (by decide) (backOf (W := 0) (rm15 l Z av0 hw [] b63 u4 T69.heap n0 (own_le O70) f82 j55_0) hZ (hw _ (List.mem_of_getElem? (i := 84) rfl)) (hw _ (List.mem_of_getElem? (i := 36) rfl)) (by decide) (by decide)) q83a q83c (g := (mkF m 173 #[.val (.int i0), .val (.int i1), .val (.int i2), .val (.int i3), .val (.int tw), .val u1, .val u3, .val u4, .val (.ref b63), .val (.ref b67), .val (.int 0), .val (.int 0), .val (.int 0), .val (.int 0)] [(.ref b63)])) rfl (by rw [hml]; rfl) (Steps.refl _) (argsL := []) (rest := []) (lenOf pd_11 rfl) rfl (by show 2 * 0 + _ ≤ _; exact Nat.le_of_eq rfl) (hb hby at_173) (fun vmx hWx => ⟨rfl, Kq81, (by decide : 11 + 0 ≤ _), (by decide : 34 + 0 ≤ _)⟩)
          dsimp only [Pt.U, Pt.locs, Pt.cells, Pt.slots] at X83 l83 y83 z83 st83 hQ83
          subst l83 y83 z83
          obtain ⟨rv83, Nq83, Kq83⟩ := hQ83
          subst rv83
          have N83 := Fr.app N81 Nq83
          obtain ⟨fs, hrL, hrun, hended, hW, hsame⟩ := X83.leave (v := some (.int 1)) (fun h => by rw [Bd.returns] at h; cases h)
          refine ⟨_, _, pre55 _ ?_, hrun, hended, _, _, rfl, ?_, ⟨_, rfl⟩, hW, hsame.mono (by decide) (by decide)⟩
          · show Steps p.tables e below (T55.setTop (mkF m 66 #[.val (.int i0), .val (.int i1), .val (.int i2), .val (.int i3), .val (.int tw), .val u1, .val u3, .unset, .unset, .unset, .unset, .unset, .unset, .unset] [u4])) _
            refine XS.astore X55.here hx rfl (hb hby at_66) rfl j55_0 (l' := #[.val (.int i0), .val (.int i1), .val (.int i2), .val (.int i3), .val (.int tw), .val u1, .val u3, .val u4, .unset, .unset, .unset, .unset, .unset, .unset]) (by rcases own_refc j55_0 with hh | ⟨_, hh⟩ <;> rw [hh] <;> rfl) ?_
            show Steps p.tables e below (T55.setTop (mkF m 68 #[.val (.int i0), .val (.int i1), .val (.int i2), .val (.int i3), .val (.int tw), .val u1, .val u3, .val u4, .unset, .unset, .unset, .unset, .unset, .unset] [])) _
            refine st63 _ ?_
            show Steps p.tables e below (T63.setTop (mkF m 71 #[.val (.int i0), .val (.int i1), .val (.int i2), .val (.int i3), .val (.int tw), .val u1, .val u3, .val u4, .unset, .unset, .unset, .unset, .unset, .unset] [(.ref b63)])) _
            refine XS.dup X63.here hx rfl (hb hby at_71) rfl rfl ?_
            refine XS.aload X63.here hx rfl (hb hby at_72) rfl j37_0 ?_
            refine XS.aconstNull X63.here hx rfl (hb hby at_74) ?_
            refine XS.aload X63.here hx rfl (hb hby at_75) rfl j46_0 ?_
            show Steps p.tables e below (T63.setTop (mkF m 77 #[.val (.int i0), .val (.int i1), .val (.int i2), .val (.int i3), .val (.int tw), .val u1, .val u3, .val u4, .unset, .unset, .unset, .unset, .unset, .unset] [u3, .null, u1, (.ref b63), (.ref b63)])) _
            refine XS.aload X63.here hx rfl (hb hby at_77) rfl j55_0 ?_
            show Steps p.tables e below (T63.setTop (mkF m 79 #[.val (.int i0), .val (.int i1), .val (.int i2), .val (.int i3), .val (.int tw), .val u1, .val u3, .val u4, .unset, .unset, .unset, .unset, .unset, .unset] [u4, u3, .null, u1, (.ref b63), (.ref b63)])) _
            refine st65.trans ?_
            refine XS.astore X65.here hx rfl (hb hby at_82) rfl rfl (l' := #[.val (.int i0), .val (.int i1), .val (.int i2), .val (.int i3), .val (.int tw), .val u1, .val u3, .val u4, .val (.ref b63), .unset, .unset, .unset, .unset, .unset]) rfl ?_
            show Steps p.tables e below (T65.setTop (mkF m 84 #[.val (.int i0), .val (.int i1), .val (.int i2), .val (.int i3), .val (.int tw), .val u1, .val u3, .val u4, .val (.ref b63), .unset, .unset, .unset, .unset, .unset] [])) _
            refine st67 _ ?_
            show Steps p.tables e below (T67.setTop (mkF m 87 #[.val (.int i0), .val (.int i1), .val (.int i2), .val (.int i3), .val (.int tw), .val u1, .val u3, .val u4, .val (.ref b63), .unset, .unset, .unset, .unset, .unset] [(.ref b67)])) _
            refine XS.dup X67.here hx rfl (hb hby at_87) rfl rfl ?_
            refine XS.aload X67.here hx rfl (hb hby at_88) rfl j37_0 ?_
            refine XS.aconstNull X67.here hx rfl (hb hby at_90) ?_
            refine XS.aload X67.here hx rfl (hb hby at_91) rfl j46_0 ?_
            show Steps p.tables e below (T67.setTop (mkF m 93 #[.val (.int i0), .val (.int i1), .val (.int i2), .val (.int i3), .val (.int tw), .val u1, .val u3, .val u4, .val (.ref b63), .unset, .unset, .unset, .unset, .unset] [u3, .null, u1, (.ref b67), (.ref b67)])) _
            refine XS.aload X67.here hx rfl (hb hby at_93) rfl j55_0 ?_
            refine XS.aconstNull X67.here hx rfl (hb hby at_95) ?_
            show Steps p.tables e below (T67.setTop (mkF m 96 #[.val (.int i0), .val (.int i1), .val (.int i2), .val (.int i3), .val (.int tw), .val u1, .val u3, .val u4, .val (.ref b63), .unset, .unset, .unset, .unset, .unset] [.null, u4, u3, .null, u1, (.ref b67), (.ref b67)])) _
            refine st69.trans ?_
            refine XS.astore X69.here hx rfl (hb hby at_99) rfl rfl (l' := #[.val (.int i0), .val (.int i1), .val (.int i2), .val (.int i3), .val (.int tw), .val u1, .val u3, .val u4, .val (.ref b63), .val (.ref b67), .unset, .unset, .unset, .unset]) rfl ?_
            show Steps p.tables e below (T69.setTop (mkF m 101 #[.val (.int i0), .val (.int i1), .val (.int i2), .val (.int i3), .val (.int tw), .val u1, .val u3, .val u4, .val (.ref b63), .val (.ref b67), .unset, .unset, .unset, .unset] [])) _
            refine XS.aload X69.here hx rfl (hb hby at_101) rfl rfl ?_
            show Steps p.tables e below (T69.setTop (mkF m 103 #[.val (.int i0), .val (.int i1), .val (.int i2), .val (.int i3), .val (.int tw), .val u1, .val u3, .val u4, .val (.ref b63), .val (.ref b67), .unset, .unset, .unset, .unset] [(.ref b63)])) _
            refine st73.trans ?_
            refine XS.istore X73.here hx rfl (hb hby at_106) rfl (l' := #[.val (.int i0), .val (.int i1), .val (.int i2), .val (.int i3), .val (.int tw), .val u1, .val u3, .val u4, .val (.ref b63), .val (.ref b67), .val (.int 0), .unset, .unset, .unset]) rfl ?_
            refine XS.aload X73.here hx rfl (hb hby at_108) rfl rfl ?_
            show Steps p.tables e below (T73.setTop (mkF m 110 #[.val (.int i0), .val (.int i1), .val (.int i2), .val (.int i3), .val (.int tw), .val u1, .val u3, .val u4, .val (.ref b63), .val (.ref b67), .val (.int 0), .unset, .unset, .unset] [(.ref b67)])) _
            refine st75.trans ?_
            refine XS.istore X75.here hx rfl (hb hby at_113) rfl (l' := #[.val (.int i0), .val (.int i1), .val (.int i2), .val (.int i3), .val (.int tw), .val u1, .val u3, .val u4, .val (.ref b63), .val (.ref b67), .val (.int 0), .val (.int 0), .unset, .unset]) rfl ?_
            refine XS.aload X75.here hx rfl (hb hby at_115) rfl rfl ?_
            show Steps p.tables e below (T75.setTop (mkF m 117 #[.val (.int i0), .val (.int i1), .val (.int i2), .val (.int i3), .val (.int tw), .val u1, .val u3, .val u4, .val (.ref b63), .val (.ref b67), .val (.int 0), .val (.int 0), .unset, .unset] [(.ref b63)])) _
            refine st76.trans ?_
            show Steps p.tables e below (T76.setTop (mkF m 120 #[.val (.int i0), .val (.int i1), .val (.int i2), .val (.int i3), .val (.int tw), .val u1, .val u3, .val u4, .val (.ref b63), .val (.ref b67), .val (.int 0), .val (.int 0), .unset, .unset] [(.int 0)])) _
            refine XS.istore X76.here hx rfl (hb hby at_120) rfl (l' := #[.val (.int i0), .val (.int i1), .val (.int i2), .val (.int i3), .val (.int tw), .val u1, .val u3, .val u4, .val (.ref b63), .val (.ref b67), .val (.int 0), .val (.int 0), .val (.int 0), .unset]) rfl ?_
            refine XS.aload X76.here hx rfl (hb hby at_122) rfl rfl ?_
            refine XS.aload X76.here hx rfl (hb hby at_124) rfl j37_0 ?_
            show Steps p.tables e below (T76.setTop (mkF m 126 #[.val (.int i0), .val (.int i1), .val (.int i2), .val (.int i3), .val (.int tw), .val u1, .val u3, .val u4, .val (.ref b63), .val (.ref b67), .val (.int 0), .val (.int 0), .val (.int 0), .unset] [u1, (.ref b63)])) _
            refine st77.trans ?_
            show Steps p.tables e below (T77.setTop (mkF m 129 #[.val (.int i0), .val (.int i1), .val (.int i2), .val (.int i3), .val (.int tw), .val u1, .val u3, .val u4, .val (.ref b63), .val (.ref b67), .val (.int 0), .val (.int 0), .val (.int 0), .unset] [(.int 0)])) _
            refine XS.istore X77.here hx rfl (hb hby at_129) rfl (l' := #[.val (.int i0), .val (.int i1), .val (.int i2), .val (.int i3), .val (.int tw), .val u1, .val u3, .val u4, .val (.ref b63), .val (.ref b67), .val (.int 0), .val (.int 0), .val (.int 0), .val (.int 0)]) rfl ?_
            refine XS.iload X77.here hx rfl (hb hby at_131) rfl ?_
            show Steps p.tables e below (T77.setTop (mkF m 133 #[.val (.int i0), .val (.int i1), .val (.int i2), .val (.int i3), .val (.int tw), .val u1, .val u3, .val u4, .val (.ref b63), .val (.ref b67), .val (.int 0), .val (.int 0), .val (.int 0), .val (.int 0)] [(.int 0)])) _
            refine XS.ifNo X77.here hx rfl (hb hby at_133) rfl ((if0 _ _).trans (teq (by decide : (0 : Int32) = (0 : Int32))).2) ?_
            refine XS.iload X77.here hx rfl (hb hby at_136) rfl ?_
            show Steps p.tables e below (T77.setTop (mkF m 138 #[.val (.int i0), .val (.int i1), .val (.int i2), .val (.int i3), .val (.int tw), .val u1, .val u3, .val u4, .val (.ref b63), .val (.ref b67), .val (.int 0), .val (.int 0), .val (.int 0), .val (.int 0)] [(.int 0)])) _
            refine XS.ifNo X77.here hx rfl (hb hby at_138) rfl ((if0 _ _).trans (teq (by decide : (0 : Int32) = (0 : Int32))).2) ?_
            refine XS.iload X77.here hx rfl (hb hby at_141) rfl ?_
            show Steps p.tables e below (T77.setTop (mkF m 143 #[.val (.int i0), .val (.int i1), .val (.int i2), .val (.int i3), .val (.int tw), .val u1, .val u3, .val u4, .val (.ref b63), .val (.ref b67), .val (.int 0), .val (.int 0), .val (.int 0), .val (.int 0)] [(.int 0)])) _
            refine XS.ifNo X77.here hx rfl (hb hby at_143) rfl ((if0 _ _).trans (teq (by decide : (0 : Int32) = (0 : Int32))).2) ?_
            refine XS.iload X77.here hx rfl (hb hby at_146) rfl ?_
            show Steps p.tables e below (T77.setTop (mkF m 148 #[.val (.int i0), .val (.int i1), .val (.int i2), .val (.int i3), .val (.int tw), .val u1, .val u3, .val u4, .val (.ref b63), .val (.ref b67), .val (.int 0), .val (.int 0), .val (.int 0), .val (.int 0)] [(.int 0)])) _
            refine XS.ifNo X77.here hx rfl (hb hby at_148) rfl ((if0 _ _).trans (teq (by decide : (0 : Int32) = (0 : Int32))).2) ?_
            refine XS.aload X77.here hx rfl (hb hby at_151) rfl rfl ?_
            show Steps p.tables e below (T77.setTop (mkF m 153 #[.val (.int i0), .val (.int i1), .val (.int i2), .val (.int i3), .val (.int tw), .val u1, .val u3, .val u4, .val (.ref b63), .val (.ref b67), .val (.int 0), .val (.int 0), .val (.int 0), .val (.int 0)] [(.ref b63)])) _
            refine st79.trans ?_
            refine XS.aload X79.here hx rfl (hb hby at_156) rfl j37_0 ?_
            show Steps p.tables e below (T79.setTop (mkF m 158 #[.val (.int i0), .val (.int i1), .val (.int i2), .val (.int i3), .val (.int tw), .val u1, .val u3, .val u4, .val (.ref b63), .val (.ref b67), .val (.int 0), .val (.int 0), .val (.int 0), .val (.int 0)] [u1, u1])) _
            refine Jvm.RoadKit.acmp (g := (mkF m 158 #[.val (.int i0), .val (.int i1), .val (.int i2), .val (.int i3), .val (.int tw), .val u1, .val u3, .val u4, .val (.ref b63), .val (.ref b67), .val (.int 0), .val (.int 0), .val (.int 0), .val (.int 0)] [u1, u1])) X79 hx rfl j37_0 j37_0 (pc0 := 158) (pc' := 161) (same := true) rfl (hb hby at_158) rfl (decide_eq_true rfl) (by decide) (by decide) ?_
            refine XS.aload X79.here hx rfl (hb hby at_161) rfl rfl ?_
            show Steps p.tables e below (T79.setTop (mkF m 163 #[.val (.int i0), .val (.int i1), .val (.int i2), .val (.int i3), .val (.int tw), .val u1, .val u3, .val u4, .val (.ref b63), .val (.ref b67), .val (.int 0), .val (.int 0), .val (.int 0), .val (.int 0)] [(.ref b63)])) _
            refine st81.trans ?_
            refine XS.aload X81.here hx rfl (hb hby at_166) rfl j46_0 ?_
            show Steps p.tables e below (T81.setTop (mkF m 168 #[.val (.int i0), .val (.int i1), .val (.int i2), .val (.int i3), .val (.int tw), .val u1, .val u3, .val u4, .val (.ref b63), .val (.ref b67), .val (.int 0), .val (.int 0), .val (.int 0), .val (.int 0)] [u3, u3])) _
            refine Jvm.RoadKit.acmp (g := (mkF m 168 #[.val (.int i0), .val (.int i1), .val (.int i2), .val (.int i3), .val (.int tw), .val u1, .val u3, .val u4, .val (.ref b63), .val (.ref b67), .val (.int 0), .val (.int 0), .val (.int 0), .val (.int 0)] [u3, u3])) X81 hx rfl j46_0 j46_0 (pc0 := 168) (pc' := 171) (same := true) rfl (hb hby at_168) rfl (decide_eq_true rfl) (by decide) (by decide) ?_
            refine XS.aload X81.here hx rfl (hb hby at_171) rfl rfl ?_
            show Steps p.tables e below (T81.setTop (mkF m 173 #[.val (.int i0), .val (.int i1), .val (.int i2), .val (.int i3), .val (.int tw), .val u1, .val u3, .val u4, .val (.ref b63), .val (.ref b67), .val (.int 0), .val (.int 0), .val (.int 0), .val (.int 0)] [(.ref b63)])) _
            refine st83.trans ?_
            refine XS.aload X83.here hx rfl (hb hby at_176) rfl j55_0 ?_
            show Steps p.tables e below (T83.setTop (mkF m 178 #[.val (.int i0), .val (.int i1), .val (.int i2), .val (.int i3), .val (.int tw), .val u1, .val u3, .val u4, .val (.ref b63), .val (.ref b67), .val (.int 0), .val (.int 0), .val (.int 0), .val (.int 0)] [u4, u4])) _
            refine Jvm.RoadKit.acmp (g := (mkF m 178 #[.val (.int i0), .val (.int i1), .val (.int i2), .val (.int i3), .val (.int tw), .val u1, .val u3, .val u4, .val (.ref b63), .val (.ref b67), .val (.int 0), .val (.int 0), .val (.int 0), .val (.int 0)] [u4, u4])) X83 hx rfl j55_0 j55_0 (pc0 := 178) (pc' := 181) (same := true) rfl (hb hby at_178) rfl (decide_eq_true rfl) (by decide) (by decide) ?_
            refine XS.iconst X83.here hx rfl (hb hby at_181) ?_
            refine XS.goto X83.here hx rfl (pc0 := 182) (pc' := 186) rfl (hb hby at_182) (by decide) (by decide) ?_
            show Steps p.tables e below (T83.setTop (mkF m 186 #[.val (.int i0), .val (.int i1), .val (.int i2), .val (.int i3), .val (.int tw), .val u1, .val u3, .val u4, .val (.ref b63), .val (.ref b67), .val (.int 0), .val (.int 0), .val (.int 0), .val (.int 0)] [(.int 1)])) _
            exact retN X83 hx (t := .boolean) Bd.returns (by simp) (hb hby at_186) hrL
          · show Q_rm0 _ _ _ _ _ _ _ _ _  T83.heap _
            rw [Kq83]
            exact ⟨rfl, N83, K70⟩
set_option maxRecDepth 65536 in
set_option maxHeartbeats 40000000 in
theorem comes_1 {Post : Tables → Env → Array Value → State → Outcome → State → Prop} (hpost : ∀ tb e args s v u, (limb_1_1.after args s (.returned v) u = true ∧ limb_1_2.after args s (.returned v) u = true ∧ True) → FrameEnd s (.returned v) u (Jvm.fieldLocs frame_1_writes args s ++ Jvm.arrayLocs frame_1_arrays args s ++ Jvm.staticLocs frame_1_statics s) 32 192 → Post tb e args s (.returned v) u) :
    ArmFor flags0 classFile x code maxLocals ret World_1 tables_1 room_1 Calls_1 rest_1 Pre_1 Post := by
  intro l hfl _ _ p e ha hc hk s m args below hf hA hF happ hP
  obtain ⟨hcalls, hrest, hpre⟩ := hP
  obtain ⟨-, -, -, hnamed, -, -, -, hat⟩ := (Spec.applies_iff hf).mp happ
  obtain ⟨hg, hn⟩ := and_e (Cond.before_iff.mp (show (Jvm.Cond.and given_1 narrow_1).before args s = true from hpre))
  obtain ⟨g1, g2⟩ := and_e hg
  obtain ⟨g3, g4⟩ := and_e g2
  obtain ⟨g5, g6⟩ := and_e g4
  obtain ⟨g7, g8⟩ := and_e g6
  obtain ⟨w0, w1, w2, w3, rfl⟩ : ∃ w0 w1 w2 w3 : Value, args = #[w0, w1, w2, w3] := by
    have hs : args.size = 4 := by simpa [Cond.value, given_1] using g1
    obtain ⟨L⟩ := args
    match L, hs with
    | [w0, w1, w2, w3], _ => exact ⟨w0, w1, w2, w3, rfl⟩
  have hw := fun d (hd : d ∈ tables_1) => atoms_spec (ws := Jvm.Cond.code x code maxLocals ret :: tables_1) hat d (List.mem_cons_of_mem _ hd)
  have hfit : Fit s := fun {y c} hc i hi => by
    obtain ⟨ha, rfl⟩ := Array.getElem?_eq_some_iff.mp hc
    have q := List.all_eq_true.mp ((Array.all_eq_true_iff_forall_mem.mp hF) _ (Array.getElem_mem ha)) i (List.mem_range.mpr hi)
    simpa [Array.getElem?_eq_getElem hi] using q
  obtain ⟨hsets, hown0⟩ := atoms_of _ (rest_1_c_eq ▸ (show rest_1_c.before _ s = true from hrest))
  have hr0 := Cond.before_iff.mp hown0
  obtain ⟨i0, ei0⟩ := is_v g3
  obtain rfl : w0 = (.int i0) := Option.some.inj ei0
  obtain ⟨i1, ei1⟩ := is_v g5
  obtain rfl : w1 = (.int i1) := Option.some.inj ei1
  obtain ⟨i2, ei2⟩ := is_v g7
  obtain rfl : w2 = (.int i2) := Option.some.inj ei2
  obtain ⟨i3, ei3⟩ := is_v g8
  obtain rfl : w3 = (.int i3) := Option.some.inj ei3
  obtain ⟨cs, ecs⟩ := is_v (Cond.before_iff.mp (hsets _ (List.mem_of_getElem? (i := 1) rfl)))
  have Scs : Sta s s.heap "java/lang/String" "COMPACT_STRINGS" "Z" (.int cs) := Sta.start ecs (Or.inl (hsets _ (List.mem_of_getElem? (i := 0) rfl)))
  have hcs : ¬ (cs = (0 : Int32)) := gotF (Cond.eq_ints ecs (Term.int_eval (0))) (not_v (Cond.before_iff.mp (hsets _ (List.mem_of_getElem? (i := 2) rfl))))
  obtain ⟨n, o, h1, h2, h3, _, L, rfl, ⟨rfl, N, -⟩, hq⟩ := rm0 l s _ hw tables_1 i0 i1 i2 i3 cs s.heap s.heap.size (Nat.le_refl _) (Old.start s) Scs hcs p e ha hc hk s m _ below hf ((Spec.applies_iff_loose hf).mp happ).1 ⟨rfl, State.Warmed39.refl s, rfl⟩ trivial
  refine ⟨n, _, h1, h2, h3, hpost _ _ _ _ _ _ ⟨Cond.after_iff.mpr rfl, Cond.after_iff.mpr (eq_i res_at (Term.int_eval (1)) rfl), trivial⟩ ⟨hq.1, hq.2.1, (hq.2.2.sift fun y hy => Or.inr (N y hy)).mono (by decide) (by decide)⟩⟩
theorem main_1_1 : Claimed_1_1 := comes_1 fun _ _ _ _ _ _ h hF => ⟨h.1, hF⟩
theorem main_1_2 : Claimed_1_2 := comes_1 fun _ _ _ _ _ _ h hF => ⟨h.2.1, hF⟩
end Jvm.Pilot.@@N@@
namespace Jvm.Pilot.@@N@@
open Jvm Jvm.ClassFile Sem Op Lib Jvm.Free Jvm.Stand Jvm.Pilot.@@N@@.Jvm.D
/-! MADE BY PROGRAM (witnessworld.py) out of the Statement's table words and the real class files: 20 classes; the members and pool entries that the words name. The judged class is class 1, her method 2. -/
namespace start1
open Jvm.ClassFile
def u (s : String) : CpInfo := .utf8 (stringToUtf16 s)
/-- a pool by its gaps: so many unusable entries, then the entry; so many at the end -/
def gap : Nat → List CpInfo → List CpInfo
  | 0, r => r
  | n + 1, r => .unusable :: gap n r
def poolList (es : List (Nat × CpInfo)) (last : Nat) : List CpInfo := es.foldr (fun e r => gap e.1 (e.2 :: r)) (gap last [])
def pool (es : List (Nat × CpInfo)) (last : Nat) : Array CpInfo := ⟨poolList es last⟩
def fileOf (pool : Array CpInfo) (this : Nat) (attrs : Array Attribute := #[]) (ms : Array MethodInfo := #[]) (fl : Nat := 33) (sup : Nat := 0) (ifs : Array Nat := #[]) (fds : Array FieldInfo := #[]) : ClassFile where
  minorVersion := 0
  majorVersion := 65
  constantPool := pool
  accessFlags := fl
  thisClass := this
  superClass := sup
  interfaces := ifs
  fields := fds
  methods := ms
  attributes := attrs
def plain (name : String) (sup : Option ClassId) : Class where
  name := name
  kind := .ordinary
  loader := none
  accessFlags := 33
  super := sup
  interfaces := #[]
  cf := none
  fields := #[]
  methods := #[]
  instanceTypes := #[]
  staticTypes := #[]
  resolved := #[]
  callSites := []
  init := .initialized
  statics := none
  mirror := none

def pool0 : Array CpInfo := pool [(5, u "<init>"), (0, u "()V"), (1, .class_ 10), (1, u "java/lang/Object")] 113

def k0c0 : Code := { maxStack := 0, maxLocals := 1, code := object_method_1_code, exceptionTable := #[], attributes := #[] }
def k0m0 : Method := { name := "<init>", desc := "()V", sig := { parameters := [], returnType := none }, accessFlags := 1, code := some k0c0 }
/-- java/lang/Object -/
def k0 : Class := { plain "java/lang/Object" none with
  accessFlags := 33
  interfaces := #[]
  cf := some (fileOf pool0 8 #[] #[{ accessFlags := 1, nameIndex := 5, descriptorIndex := 6, attributes := #[] }] 33 0 #[] #[])
  fields := #[]
  methods := #[k0m0]
  instanceTypes := #[]
  staticTypes := #[]
  resolved := Array.replicate 124 none
  statics := none }

def pool1 : Array CpInfo := pool [(2, .class_ 4), (1, u "java/lang/Object"), (0, u "<init>"), (0, u "()V"), (0, .class_ 8), (0, u "java/lang/String"), (0, .methodref 7 10), (0, .nameAndType 5 11), (0, u "([C)V"), (0, .methodref 13 14), (0, .class_ 15), (0, .nameAndType 16 17), (0, u "com/example/callee/callee/model/CallContextAcceptsStreamingPinLaw"), (0, u "str"), (0, u "(IZ)Ljava/lang/String;"), (0, .class_ 19), (0, u "com/example/callee/callee/model/CallContext"), (0, .methodref 18 21), (0, .nameAndType 5 22), (0, u "(Ljava/lang/String;Ljava/util/Map;Ljava/lang/String;Ljava/lang/String;)V"), (0, .methodref 18 24), (0, .nameAndType 5 25), (0, u "(Ljava/lang/String;Ljava/util/Map;Ljava/lang/String;Ljava/lang/String;Lcom/example/callee/callee/model/CallContext$Stream;)V"), (0, .methodref 18 27), (0, .nameAndType 28 29), (0, u "acceptsStreaming"), (0, u "()Z"), (0, .methodref 18 31), (0, .nameAndType 32 29), (0, u "callerGone"), (0, .methodref 18 34), (0, .nameAndType 35 36), (0, u "sendChunk"), (0, u "(Ljava/lang/Object;)Z"), (0, .methodref 18 38), (0, .nameAndType 39 40), (0, u "uid"), (0, u "()Ljava/lang/String;"), (0, .methodref 18 42), (0, .nameAndType 43 40), (0, u "appId"), (0, .methodref 18 45), (0, .nameAndType 46 40), (0, u "instanceIdToken"), (3, u "law"), (0, u "(IIII)Z")] 9

def k1m0 : Method := { name := "<init>", desc := "()V", sig := { parameters := [], returnType := none }, accessFlags := 2, code := none }
def k1c1 : Code := { maxStack := 4, maxLocals := 3, code := method_2_code, exceptionTable := #[], attributes := #[] }
def k1m1 : Method := { name := "str", desc := "(IZ)Ljava/lang/String;", sig := { parameters := [.int, .boolean], returnType := some (.object "java/lang/String") }, accessFlags := 10, code := some k1c1 }
def k1c2 : Code := { maxStack := 7, maxLocals := 14, code := code, exceptionTable := #[], attributes := #[] }
def k1m2 : Method := { name := "law", desc := "(IIII)Z", sig := { parameters := [.int, .int, .int, .int], returnType := some .boolean }, accessFlags := 9, code := some k1c2 }
/-- com/example/callee/callee/model/CallContextAcceptsStreamingPinLaw -/
def k1 : Class := { plain "com/example/callee/callee/model/CallContextAcceptsStreamingPinLaw" (some 0) with
  accessFlags := 49
  interfaces := #[]
  cf := some (fileOf pool1 13 #[] #[{ accessFlags := 2, nameIndex := 5, descriptorIndex := 6, attributes := #[] }, { accessFlags := 10, nameIndex := 16, descriptorIndex := 17, attributes := #[] }, { accessFlags := 9, nameIndex := 50, descriptorIndex := 51, attributes := #[] }] 49 2 #[] #[])
  fields := #[]
  methods := #[k1m0, k1m1, k1m2]
  instanceTypes := #[]
  staticTypes := #[]
  resolved := Array.replicate 61 none
  statics := none }

def pool2 : Array CpInfo := pool [(1, .class_ 2), (0, u "java/io/Serializable"), (0, .class_ 4), (0, u "java/lang/Object")] 2

/-- java/io/Serializable -/
def k2 : Class := { plain "java/io/Serializable" (some 0) with
  accessFlags := 1537
  interfaces := #[]
  cf := some (fileOf pool2 1 #[] #[] 1537 3 #[] #[])
  fields := #[]
  methods := #[]
  instanceTypes := #[]
  staticTypes := #[]
  resolved := Array.replicate 7 none
  statics := none }

def pool3 : Array CpInfo := pool [(1, .class_ 2), (0, u "java/lang/Comparable"), (0, .class_ 4), (0, u "java/lang/Object")] 7

/-- java/lang/Comparable -/
def k3 : Class := { plain "java/lang/Comparable" (some 0) with
  accessFlags := 1537
  interfaces := #[]
  cf := some (fileOf pool3 1 #[] #[] 1537 3 #[] #[])
  fields := #[]
  methods := #[]
  instanceTypes := #[]
  staticTypes := #[]
  resolved := Array.replicate 12 none
  statics := none }

def pool4 : Array CpInfo := pool [(2, .class_ 4), (1, u "java/lang/CharSequence"), (42, .class_ 48), (0, u "java/lang/CharSequence$1CodePointIterator"), (10, .class_ 60), (0, u "java/lang/CharSequence$1CharIterator"), (5, .class_ 67), (0, u "java/lang/Object")] 63

/-- java/lang/CharSequence -/
def k4 : Class := { plain "java/lang/CharSequence" (some 0) with
  accessFlags := 1537
  interfaces := #[]
  cf := some (fileOf pool4 2 #[.nestMembers #[47, 59]] #[] 1537 66 #[] #[])
  fields := #[]
  methods := #[]
  instanceTypes := #[]
  staticTypes := #[]
  resolved := Array.replicate 131 none
  statics := none }

def pool5 : Array CpInfo := pool [(1, .class_ 2), (0, u "java/lang/constant/Constable"), (0, .class_ 4), (0, u "java/lang/Object")] 6

/-- java/lang/constant/Constable -/
def k5 : Class := { plain "java/lang/constant/Constable" (some 0) with
  accessFlags := 1537
  interfaces := #[]
  cf := some (fileOf pool5 1 #[] #[] 1537 3 #[] #[])
  fields := #[]
  methods := #[]
  instanceTypes := #[]
  staticTypes := #[]
  resolved := Array.replicate 11 none
  statics := none }

def pool6 : Array CpInfo := pool [(1, .class_ 2), (0, u "java/lang/constant/ConstantDesc"), (0, .class_ 4), (0, u "java/lang/Object")] 32

/-- java/lang/constant/ConstantDesc -/
def k6 : Class := { plain "java/lang/constant/ConstantDesc" (some 0) with
  accessFlags := 1537
  interfaces := #[]
  cf := some (fileOf pool6 1 #[] #[] 1537 3 #[] #[])
  fields := #[]
  methods := #[]
  instanceTypes := #[]
  staticTypes := #[]
  resolved := Array.replicate 37 none
  statics := none }

def pool7 : Array CpInfo := pool [(1, .methodref 2 3), (0, .class_ 4), (0, .nameAndType 5 6), (0, u "java/lang/Object"), (0, u "<init>"), (0, u "()V"), (2, .fieldref 10 11), (0, .class_ 12), (0, .nameAndType 13 14), (0, u "java/lang/String"), (0, u "value"), (0, u "[B"), (0, .fieldref 10 16), (0, .nameAndType 17 18), (0, u "coder"), (0, u "B"), (2, u "hash"), (0, u "I"), (2, u "hashIsZero"), (0, u "Z"), (0, .methodref 10 28), (0, .nameAndType 5 29), (0, u "([CIILjava/lang/Void;)V"), (8, .fieldref 10 39), (0, .nameAndType 40 26), (0, u "COMPACT_STRINGS"), (1, .class_ 44), (1, u "java/lang/StringUTF16"), (0, u "compress"), (1, .methodref 42 48), (0, .nameAndType 49 50), (0, u "coderFromArrayLen"), (0, u "([BI)B"), (126, .methodref 42 178), (0, .nameAndType 45 179), (0, u "([CII)[B"), (395, .class_ 576), (0, u "java/lang/CharSequence"), (22, u "CASE_INSENSITIVE_ORDER"), (0, u "Ljava/util/Comparator;"), (409, u "([C)V"), (90, u "serialPersistentFields"), (0, u "[Ljava/io/ObjectStreamField;"), (0, .class_ 1104), (0, u "java/lang/String$CaseInsensitiveComparator"), (1, .class_ 1107), (0, u "java/io/Serializable"), (0, .class_ 1109), (0, u "java/lang/Comparable"), (0, .class_ 1111), (0, u "java/lang/constant/Constable"), (0, .class_ 1113), (0, u "java/lang/constant/ConstantDesc"), (2, u "serialVersionUID"), (0, u "J"), (3, u "REPL"), (0, u "C"), (2, u "LATIN1"), (1, u "UTF16")] 323

def k7m0 : Method := { name := "<init>", desc := "()V", sig := { parameters := [], returnType := none }, accessFlags := 1, code := none }
def k7c1 : Code := { maxStack := 5, maxLocals := 2, code := jdk_42_method_3_code, exceptionTable := #[], attributes := #[] }
def k7m1 : Method := { name := "<init>", desc := "([C)V", sig := { parameters := [(.array .char)], returnType := none }, accessFlags := 1, code := some k7c1 }
def k7c2 : Code := { maxStack := 4, maxLocals := 6, code := jdk_42_method_149_code, exceptionTable := #[], attributes := #[] }
def k7m2 : Method := { name := "<init>", desc := "([CIILjava/lang/Void;)V", sig := { parameters := [(.array .char), .int, .int, (.object "java/lang/Void")], returnType := none }, accessFlags := 2, code := some k7c2 }
/-- java/lang/String -/
def k7 : Class := { plain "java/lang/String" (some 0) with
  accessFlags := 49
  interfaces := #[2, 3, 4, 5, 6]
  cf := some (fileOf pool7 10 #[.nestMembers #[1103]] #[{ accessFlags := 1, nameIndex := 5, descriptorIndex := 6, attributes := #[] }, { accessFlags := 1, nameIndex := 5, descriptorIndex := 1010, attributes := #[] }, { accessFlags := 2, nameIndex := 5, descriptorIndex := 29, attributes := #[] }] 49 2 #[1106, 1108, 575, 1110, 1112] #[{ accessFlags := 18, nameIndex := 13, descriptorIndex := 14, attributes := #[] }, { accessFlags := 18, nameIndex := 17, descriptorIndex := 18, attributes := #[] }, { accessFlags := 2, nameIndex := 21, descriptorIndex := 22, attributes := #[] }, { accessFlags := 2, nameIndex := 25, descriptorIndex := 26, attributes := #[] }, { accessFlags := 26, nameIndex := 1116, descriptorIndex := 1117, attributes := #[] }, { accessFlags := 24, nameIndex := 40, descriptorIndex := 26, attributes := #[] }, { accessFlags := 26, nameIndex := 1101, descriptorIndex := 1102, attributes := #[] }, { accessFlags := 26, nameIndex := 1121, descriptorIndex := 1122, attributes := #[] }, { accessFlags := 25, nameIndex := 599, descriptorIndex := 600, attributes := #[] }, { accessFlags := 24, nameIndex := 1125, descriptorIndex := 18, attributes := #[] }, { accessFlags := 24, nameIndex := 1127, descriptorIndex := 18, attributes := #[] }])
  fields := #[{ name := "value", type := (.array .byte), accessFlags := 18, slot := 0, constantValue := 0 }, { name := "coder", type := .byte, accessFlags := 18, slot := 1, constantValue := 0 }, { name := "hash", type := .int, accessFlags := 2, slot := 2, constantValue := 0 }, { name := "hashIsZero", type := .boolean, accessFlags := 2, slot := 3, constantValue := 0 }, { name := "serialVersionUID", type := .long, accessFlags := 26, slot := 0, constantValue := 0 }, { name := "COMPACT_STRINGS", type := .boolean, accessFlags := 24, slot := 1, constantValue := 0 }, { name := "serialPersistentFields", type := (.array (.object "java/io/ObjectStreamField")), accessFlags := 26, slot := 2, constantValue := 0 }, { name := "REPL", type := .char, accessFlags := 26, slot := 3, constantValue := 0 }, { name := "CASE_INSENSITIVE_ORDER", type := (.object "java/util/Comparator"), accessFlags := 25, slot := 4, constantValue := 0 }, { name := "LATIN1", type := .byte, accessFlags := 24, slot := 5, constantValue := 0 }, { name := "UTF16", type := .byte, accessFlags := 24, slot := 6, constantValue := 0 }]
  methods := #[k7m0, k7m1, k7m2]
  instanceTypes := #[(.array .byte), .byte, .int, .boolean]
  staticTypes := #[.long, .boolean, (.array (.object "java/io/ObjectStreamField")), .char, (.object "java/util/Comparator"), .byte, .byte]
  resolved := Array.replicate 1451 none
  statics := some 0 }

def pool8 : Array CpInfo := pool [(6, .class_ 8), (1, u "java/lang/Object"), (0, u "<init>"), (0, u "()V"), (1, .class_ 14), (1, u "java/lang/StringUTF16"), (31, u "$assertionsDisabled"), (0, u "Z"), (13, u "HI_BYTE_SHIFT"), (0, u "I"), (2, u "LO_BYTE_SHIFT"), (49, .methodref 12 116), (0, .nameAndType 117 118), (0, u "compress"), (0, u "([CI[BII)I"), (3, u "([CII)[B"), (138, u "coderFromArrayLen"), (0, u "([BI)B"), (106, .class_ 371), (1, u "java/lang/StringUTF16$LinesSpliterator"), (58, u "MAX_LENGTH"), (196, .class_ 628), (0, u "java/lang/StringUTF16$CodePointsSpliterator"), (0, .class_ 630), (0, u "java/lang/StringUTF16$CharsSpliterator")] 4

def k8m0 : Method := { name := "<init>", desc := "()V", sig := { parameters := [], returnType := none }, accessFlags := 0, code := none }
def k8c1 : Code := { maxStack := 2, maxLocals := 2, code := jdk_52_method_15_code, exceptionTable := #[], attributes := #[] }
def k8m1 : Method := { name := "coderFromArrayLen", desc := "([BI)B", sig := { parameters := [(.array .byte), .int], returnType := some .byte }, accessFlags := 8, code := some k8c1 }
def k8c2 : Code := { maxStack := 5, maxLocals := 6, code := jdk_52_method_16_code, exceptionTable := #[], attributes := #[] }
def k8m2 : Method := { name := "compress", desc := "([CII)[B", sig := { parameters := [(.array .char), .int, .int], returnType := some (.array .byte) }, accessFlags := 9, code := some k8c2 }
def k8c3 : Code := { maxStack := 3, maxLocals := 7, code := jdk_52_method_21_code, exceptionTable := #[], attributes := #[] }
def k8m3 : Method := { name := "compress", desc := "([CI[BII)I", sig := { parameters := [(.array .char), .int, (.array .byte), .int, .int], returnType := some .int }, accessFlags := 9, code := some k8c3 }
/-- java/lang/StringUTF16 -/
def k8 : Class := { plain "java/lang/StringUTF16" (some 0) with
  accessFlags := 48
  interfaces := #[]
  cf := some (fileOf pool8 12 #[.nestMembers #[627, 629, 369]] #[{ accessFlags := 0, nameIndex := 9, descriptorIndex := 10, attributes := #[] }, { accessFlags := 8, nameIndex := 261, descriptorIndex := 262, attributes := #[] }, { accessFlags := 9, nameIndex := 117, descriptorIndex := 122, attributes := #[] }, { accessFlags := 9, nameIndex := 117, descriptorIndex := 118, attributes := #[] }] 48 6 #[] #[{ accessFlags := 26, nameIndex := 61, descriptorIndex := 62, attributes := #[] }, { accessFlags := 26, nameIndex := 65, descriptorIndex := 62, attributes := #[] }, { accessFlags := 24, nameIndex := 430, descriptorIndex := 62, attributes := #[] }, { accessFlags := 4120, nameIndex := 46, descriptorIndex := 47, attributes := #[] }])
  fields := #[{ name := "HI_BYTE_SHIFT", type := .int, accessFlags := 26, slot := 0, constantValue := 0 }, { name := "LO_BYTE_SHIFT", type := .int, accessFlags := 26, slot := 1, constantValue := 0 }, { name := "MAX_LENGTH", type := .int, accessFlags := 24, slot := 2, constantValue := 0 }, { name := "$assertionsDisabled", type := .boolean, accessFlags := 4120, slot := 3, constantValue := 0 }]
  methods := #[k8m0, k8m1, k8m2, k8m3]
  instanceTypes := #[]
  staticTypes := #[.int, .int, .int, .boolean]
  resolved := Array.replicate 635 none
  statics := none }

def pool9 : Array CpInfo := pool [(1, .methodref 2 3), (0, .class_ 4), (0, .nameAndType 5 6), (0, u "com/example/callee/callee/model/CallContext"), (0, u "<init>"), (0, u "(Ljava/lang/String;Ljava/util/Map;Ljava/lang/String;Ljava/lang/String;Lcom/example/callee/callee/model/CallContext$Stream;)V"), (0, .methodref 8 9), (0, .class_ 10), (0, .nameAndType 5 11), (0, u "java/lang/Object"), (0, u "()V"), (0, .fieldref 2 13), (0, .nameAndType 14 15), (0, u "uid"), (0, u "Ljava/lang/String;"), (0, .fieldref 2 17), (0, .nameAndType 18 19), (0, u "idTokenClaims"), (0, u "Ljava/util/Map;"), (0, .fieldref 2 21), (0, .nameAndType 22 15), (0, u "appId"), (0, .fieldref 2 24), (0, .nameAndType 25 15), (0, u "instanceIdToken"), (0, .fieldref 2 27), (0, .nameAndType 28 29), (0, u "stream"), (0, u "Lcom/example/callee/callee/model/CallContext$Stream;"), (1, .class_ 33), (1, u "com/example/callee/callee/model/CallContext$Stream"), (1, u "(Ljava/lang/Object;)Z"), (3, u "()Z"), (2, u "(Ljava/lang/String;Ljava/util/Map;Ljava/lang/String;Ljava/lang/String;)V"), (4, u "()Ljava/lang/String;"), (2, u "acceptsStreaming"), (1, u "sendChunk"), (3, u "callerGone")] 5

def k9c0 : Code := { maxStack := 6, maxLocals := 5, code := prog_16_method_1_code, exceptionTable := #[], attributes := #[] }
def k9m0 : Method := { name := "<init>", desc := "(Ljava/lang/String;Ljava/util/Map;Ljava/lang/String;Ljava/lang/String;)V", sig := { parameters := [(.object "java/lang/String"), (.object "java/util/Map"), (.object "java/lang/String"), (.object "java/lang/String")], returnType := none }, accessFlags := 1, code := some k9c0 }
def k9c1 : Code := { maxStack := 2, maxLocals := 6, code := prog_16_method_2_code, exceptionTable := #[], attributes := #[] }
def k9m1 : Method := { name := "<init>", desc := "(Ljava/lang/String;Ljava/util/Map;Ljava/lang/String;Ljava/lang/String;Lcom/example/callee/callee/model/CallContext$Stream;)V", sig := { parameters := [(.object "java/lang/String"), (.object "java/util/Map"), (.object "java/lang/String"), (.object "java/lang/String"), (.object "com/example/callee/callee/model/CallContext$Stream")], returnType := none }, accessFlags := 1, code := some k9c1 }
def k9c2 : Code := { maxStack := 1, maxLocals := 1, code := prog_16_method_3_code, exceptionTable := #[], attributes := #[] }
def k9m2 : Method := { name := "uid", desc := "()Ljava/lang/String;", sig := { parameters := [], returnType := some (.object "java/lang/String") }, accessFlags := 1, code := some k9c2 }
def k9c3 : Code := { maxStack := 1, maxLocals := 1, code := prog_16_method_5_code, exceptionTable := #[], attributes := #[] }
def k9m3 : Method := { name := "appId", desc := "()Ljava/lang/String;", sig := { parameters := [], returnType := some (.object "java/lang/String") }, accessFlags := 1, code := some k9c3 }
def k9c4 : Code := { maxStack := 1, maxLocals := 1, code := prog_16_method_6_code, exceptionTable := #[], attributes := #[] }
def k9m4 : Method := { name := "instanceIdToken", desc := "()Ljava/lang/String;", sig := { parameters := [], returnType := some (.object "java/lang/String") }, accessFlags := 1, code := some k9c4 }
def k9c5 : Code := { maxStack := 1, maxLocals := 1, code := prog_16_method_7_code, exceptionTable := #[], attributes := #[] }
def k9m5 : Method := { name := "acceptsStreaming", desc := "()Z", sig := { parameters := [], returnType := some .boolean }, accessFlags := 1, code := some k9c5 }
def k9c6 : Code := { maxStack := 2, maxLocals := 2, code := prog_16_method_8_code, exceptionTable := #[], attributes := #[] }
def k9m6 : Method := { name := "sendChunk", desc := "(Ljava/lang/Object;)Z", sig := { parameters := [(.object "java/lang/Object")], returnType := some .boolean }, accessFlags := 1, code := some k9c6 }
def k9c7 : Code := { maxStack := 1, maxLocals := 1, code := prog_16_method_9_code, exceptionTable := #[], attributes := #[] }
def k9m7 : Method := { name := "callerGone", desc := "()Z", sig := { parameters := [], returnType := some .boolean }, accessFlags := 1, code := some k9c7 }
/-- com/example/callee/callee/model/CallContext -/
def k9 : Class := { plain "com/example/callee/callee/model/CallContext" (some 0) with
  accessFlags := 49
  interfaces := #[]
  cf := some (fileOf pool9 2 #[.nestMembers #[31]] #[{ accessFlags := 1, nameIndex := 5, descriptorIndex := 42, attributes := #[] }, { accessFlags := 1, nameIndex := 5, descriptorIndex := 6, attributes := #[] }, { accessFlags := 1, nameIndex := 14, descriptorIndex := 47, attributes := #[] }, { accessFlags := 1, nameIndex := 22, descriptorIndex := 47, attributes := #[] }, { accessFlags := 1, nameIndex := 25, descriptorIndex := 47, attributes := #[] }, { accessFlags := 1, nameIndex := 50, descriptorIndex := 39, attributes := #[] }, { accessFlags := 1, nameIndex := 52, descriptorIndex := 35, attributes := #[] }, { accessFlags := 1, nameIndex := 56, descriptorIndex := 39, attributes := #[] }] 49 8 #[] #[{ accessFlags := 18, nameIndex := 14, descriptorIndex := 15, attributes := #[] }, { accessFlags := 18, nameIndex := 18, descriptorIndex := 19, attributes := #[] }, { accessFlags := 18, nameIndex := 22, descriptorIndex := 15, attributes := #[] }, { accessFlags := 18, nameIndex := 25, descriptorIndex := 15, attributes := #[] }, { accessFlags := 18, nameIndex := 28, descriptorIndex := 29, attributes := #[] }])
  fields := #[{ name := "uid", type := (.object "java/lang/String"), accessFlags := 18, slot := 0, constantValue := 0 }, { name := "idTokenClaims", type := (.object "java/util/Map"), accessFlags := 18, slot := 1, constantValue := 0 }, { name := "appId", type := (.object "java/lang/String"), accessFlags := 18, slot := 2, constantValue := 0 }, { name := "instanceIdToken", type := (.object "java/lang/String"), accessFlags := 18, slot := 3, constantValue := 0 }, { name := "stream", type := (.object "com/example/callee/callee/model/CallContext$Stream"), accessFlags := 18, slot := 4, constantValue := 0 }]
  methods := #[k9m0, k9m1, k9m2, k9m3, k9m4, k9m5, k9m6, k9m7]
  instanceTypes := #[(.object "java/lang/String"), (.object "java/util/Map"), (.object "java/lang/String"), (.object "java/lang/String"), (.object "com/example/callee/callee/model/CallContext$Stream")]
  staticTypes := #[]
  resolved := Array.replicate 62 none
  statics := none }

def pool10 : Array CpInfo := pool [(4, .class_ 6), (1, u "java/lang/Object"), (0, u "<init>"), (0, u "()V"), (5, .class_ 16), (1, u "java/lang/StringLatin1"), (104, u "$assertionsDisabled"), (0, u "Z"), (98, .class_ 223), (1, u "java/lang/StringLatin1$LinesSpliterator"), (166, .class_ 391), (0, u "java/lang/StringLatin1$CharsSpliterator")] 3

def k10m0 : Method := { name := "<init>", desc := "()V", sig := { parameters := [], returnType := none }, accessFlags := 0, code := none }
/-- java/lang/StringLatin1 -/
def k10 : Class := { plain "java/lang/StringLatin1" (some 0) with
  accessFlags := 48
  interfaces := #[]
  cf := some (fileOf pool10 14 #[.nestMembers #[390, 221]] #[{ accessFlags := 0, nameIndex := 7, descriptorIndex := 8, attributes := #[] }] 48 4 #[] #[{ accessFlags := 4120, nameIndex := 121, descriptorIndex := 122, attributes := #[] }])
  fields := #[{ name := "$assertionsDisabled", type := .boolean, accessFlags := 4120, slot := 0, constantValue := 0 }]
  methods := #[k10m0]
  instanceTypes := #[]
  staticTypes := #[.boolean]
  resolved := Array.replicate 395 none
  statics := none }

def pool11 : Array CpInfo := pool [(2, .class_ 4), (1, u "java/lang/Object"), (0, u "<init>"), (0, u "()V"), (17, .class_ 26), (1, u "jdk/internal/util/Preconditions"), (28, .class_ 56), (0, u "jdk/internal/util/Preconditions$4"), (57, .class_ 115), (0, u "jdk/internal/util/Preconditions$1"), (7, u "SIOOBE_FORMATTER"), (0, u "Ljava/util/function/BiFunction;"), (0, .class_ 126), (0, u "jdk/internal/util/Preconditions$2"), (3, u "AIOOBE_FORMATTER"), (0, .class_ 132), (0, u "jdk/internal/util/Preconditions$3"), (3, u "IOOBE_FORMATTER")] 57

def k11m0 : Method := { name := "<init>", desc := "()V", sig := { parameters := [], returnType := none }, accessFlags := 1, code := none }
/-- jdk/internal/util/Preconditions -/
def k11 : Class := { plain "jdk/internal/util/Preconditions" (some 0) with
  accessFlags := 33
  interfaces := #[]
  cf := some (fileOf pool11 24 #[.nestMembers #[55, 131, 125, 114]] #[{ accessFlags := 1, nameIndex := 5, descriptorIndex := 6, attributes := #[] }] 33 2 #[] #[{ accessFlags := 25, nameIndex := 123, descriptorIndex := 124, attributes := #[] }, { accessFlags := 25, nameIndex := 130, descriptorIndex := 124, attributes := #[] }, { accessFlags := 25, nameIndex := 136, descriptorIndex := 124, attributes := #[] }])
  fields := #[{ name := "SIOOBE_FORMATTER", type := (.object "java/util/function/BiFunction"), accessFlags := 25, slot := 0, constantValue := 0 }, { name := "AIOOBE_FORMATTER", type := (.object "java/util/function/BiFunction"), accessFlags := 25, slot := 1, constantValue := 0 }, { name := "IOOBE_FORMATTER", type := (.object "java/util/function/BiFunction"), accessFlags := 25, slot := 2, constantValue := 0 }]
  methods := #[k11m0]
  instanceTypes := #[]
  staticTypes := #[(.object "java/util/function/BiFunction"), (.object "java/util/function/BiFunction"), (.object "java/util/function/BiFunction")]
  resolved := Array.replicate 194 none
  statics := some 1 }

def pool12 : Array CpInfo := pool [(9, u "<init>"), (6, .class_ 18), (1, u "java/lang/Object"), (0, u "()V"), (1, .class_ 23), (1, u "jdk/internal/util/ArraysSupport"), (0, u "LOG2_ARRAY_LONG_INDEX_SCALE"), (0, u "I"), (2, u "U"), (0, u "Ljdk/internal/misc/Unsafe;"), (8, u "BIG_ENDIAN"), (0, u "Z"), (8, u "LOG2_BYTE_BIT_SIZE"), (4, u "LOG2_ARRAY_INT_INDEX_SCALE"), (54, u "JLA"), (0, u "Ljdk/internal/access/JavaLangAccess;"), (11, u "LOG2_ARRAY_BOOLEAN_INDEX_SCALE"), (9, u "LOG2_ARRAY_BYTE_INDEX_SCALE"), (5, u "LOG2_ARRAY_CHAR_INDEX_SCALE"), (5, u "LOG2_ARRAY_SHORT_INDEX_SCALE"), (18, u "LOG2_ARRAY_FLOAT_INDEX_SCALE"), (24, u "LOG2_ARRAY_DOUBLE_INDEX_SCALE"), (89, u "T_BOOLEAN"), (2, u "T_CHAR"), (1, u "T_FLOAT"), (1, u "T_DOUBLE"), (1, u "T_BYTE"), (1, u "T_SHORT"), (1, u "T_INT"), (1, u "T_LONG"), (1, u "SOFT_MAX_ARRAY_LENGTH")] 83

def k12m0 : Method := { name := "<init>", desc := "()V", sig := { parameters := [], returnType := none }, accessFlags := 2, code := none }
/-- jdk/internal/util/ArraysSupport -/
def k12 : Class := { plain "jdk/internal/util/ArraysSupport" (some 0) with
  accessFlags := 33
  interfaces := #[]
  cf := some (fileOf pool12 21 #[] #[{ accessFlags := 2, nameIndex := 9, descriptorIndex := 19, attributes := #[] }] 33 16 #[] #[{ accessFlags := 24, nameIndex := 28, descriptorIndex := 29, attributes := #[] }, { accessFlags := 26, nameIndex := 38, descriptorIndex := 39, attributes := #[] }, { accessFlags := 25, nameIndex := 121, descriptorIndex := 25, attributes := #[] }, { accessFlags := 25, nameIndex := 131, descriptorIndex := 25, attributes := #[] }, { accessFlags := 25, nameIndex := 137, descriptorIndex := 25, attributes := #[] }, { accessFlags := 25, nameIndex := 143, descriptorIndex := 25, attributes := #[] }, { accessFlags := 25, nameIndex := 53, descriptorIndex := 25, attributes := #[] }, { accessFlags := 25, nameIndex := 24, descriptorIndex := 25, attributes := #[] }, { accessFlags := 25, nameIndex := 162, descriptorIndex := 25, attributes := #[] }, { accessFlags := 25, nameIndex := 187, descriptorIndex := 25, attributes := #[] }, { accessFlags := 26, nameIndex := 48, descriptorIndex := 25, attributes := #[] }, { accessFlags := 25, nameIndex := 277, descriptorIndex := 25, attributes := #[] }, { accessFlags := 25, nameIndex := 280, descriptorIndex := 25, attributes := #[] }, { accessFlags := 25, nameIndex := 282, descriptorIndex := 25, attributes := #[] }, { accessFlags := 25, nameIndex := 284, descriptorIndex := 25, attributes := #[] }, { accessFlags := 25, nameIndex := 286, descriptorIndex := 25, attributes := #[] }, { accessFlags := 25, nameIndex := 288, descriptorIndex := 25, attributes := #[] }, { accessFlags := 25, nameIndex := 290, descriptorIndex := 25, attributes := #[] }, { accessFlags := 25, nameIndex := 292, descriptorIndex := 25, attributes := #[] }, { accessFlags := 26, nameIndex := 108, descriptorIndex := 109, attributes := #[] }, { accessFlags := 25, nameIndex := 294, descriptorIndex := 25, attributes := #[] }])
  fields := #[{ name := "U", type := (.object "jdk/internal/misc/Unsafe"), accessFlags := 24, slot := 0, constantValue := 0 }, { name := "BIG_ENDIAN", type := .boolean, accessFlags := 26, slot := 1, constantValue := 0 }, { name := "LOG2_ARRAY_BOOLEAN_INDEX_SCALE", type := .int, accessFlags := 25, slot := 2, constantValue := 0 }, { name := "LOG2_ARRAY_BYTE_INDEX_SCALE", type := .int, accessFlags := 25, slot := 3, constantValue := 0 }, { name := "LOG2_ARRAY_CHAR_INDEX_SCALE", type := .int, accessFlags := 25, slot := 4, constantValue := 0 }, { name := "LOG2_ARRAY_SHORT_INDEX_SCALE", type := .int, accessFlags := 25, slot := 5, constantValue := 0 }, { name := "LOG2_ARRAY_INT_INDEX_SCALE", type := .int, accessFlags := 25, slot := 6, constantValue := 0 }, { name := "LOG2_ARRAY_LONG_INDEX_SCALE", type := .int, accessFlags := 25, slot := 7, constantValue := 0 }, { name := "LOG2_ARRAY_FLOAT_INDEX_SCALE", type := .int, accessFlags := 25, slot := 8, constantValue := 0 }, { name := "LOG2_ARRAY_DOUBLE_INDEX_SCALE", type := .int, accessFlags := 25, slot := 9, constantValue := 0 }, { name := "LOG2_BYTE_BIT_SIZE", type := .int, accessFlags := 26, slot := 10, constantValue := 0 }, { name := "T_BOOLEAN", type := .int, accessFlags := 25, slot := 11, constantValue := 0 }, { name := "T_CHAR", type := .int, accessFlags := 25, slot := 12, constantValue := 0 }, { name := "T_FLOAT", type := .int, accessFlags := 25, slot := 13, constantValue := 0 }, { name := "T_DOUBLE", type := .int, accessFlags := 25, slot := 14, constantValue := 0 }, { name := "T_BYTE", type := .int, accessFlags := 25, slot := 15, constantValue := 0 }, { name := "T_SHORT", type := .int, accessFlags := 25, slot := 16, constantValue := 0 }, { name := "T_INT", type := .int, accessFlags := 25, slot := 17, constantValue := 0 }, { name := "T_LONG", type := .int, accessFlags := 25, slot := 18, constantValue := 0 }, { name := "JLA", type := (.object "jdk/internal/access/JavaLangAccess"), accessFlags := 26, slot := 19, constantValue := 0 }, { name := "SOFT_MAX_ARRAY_LENGTH", type := .int, accessFlags := 25, slot := 20, constantValue := 0 }]
  methods := #[k12m0]
  instanceTypes := #[]
  staticTypes := #[(.object "jdk/internal/misc/Unsafe"), .boolean, .int, .int, .int, .int, .int, .int, .int, .int, .int, .int, .int, .int, .int, .int, .int, .int, .int, (.object "jdk/internal/access/JavaLangAccess"), .int]
  resolved := Array.replicate 378 none
  statics := none }

def pool13 : Array CpInfo := pool [(1, u "java/lang/Cloneable"), (0, .class_ 1), (0, u "java/lang/Object"), (0, .class_ 3)] 3

/-- java/lang/Cloneable -/
def k13 : Class := { plain "java/lang/Cloneable" (some 0) with
  accessFlags := 1537
  interfaces := #[]
  cf := some (fileOf pool13 2 #[] #[] 1537 4 #[] #[])
  fields := #[]
  methods := #[]
  instanceTypes := #[]
  staticTypes := #[]
  resolved := Array.replicate 8 none
  statics := none }

/-- the primitive byte -/
def k14 : Class := { plain "byte" none with kind := .primitive 'B', accessFlags := 0x411 }
/-- [B -/
def k15 : Class := { plain "[B" (some 0) with kind := .array 14 .byte, interfaces := #[13, 2], accessFlags := 1041 }

/-- the primitive char -/
def k16 : Class := { plain "char" none with kind := .primitive 'C', accessFlags := 0x411 }
/-- [C -/
def k17 : Class := { plain "[C" (some 0) with kind := .array 16 .char, interfaces := #[13, 2], accessFlags := 1041 }

/-- the primitive int -/
def k18 : Class := { plain "int" none with kind := .primitive 'I', accessFlags := 0x411 }
/-- [I -/
def k19 : Class := { plain "[I" (some 0) with kind := .array 18 .int, interfaces := #[13, 2], accessFlags := 1041 }

def heap : Heap := #[{ cls := 7, slots := #[.long 0, .int 1, .null, .int 0, .null, .int 0, .int 0], vm := .statics 7 },
  { cls := 11, slots := #[.null, .null, .null], vm := .statics 11 }]
def classes : Array Class := #[k0, k1, k2, k3, k4, k5, k6, k7, k8, k9, k10, k11, k12, k13, k14, k15, k16, k17, k18, k19]
def interned : List (Array UInt16 × Addr) := []
def slotsUsed : Nat := 10
def theMethod : MethodId := ⟨1, 2⟩
def args0 : Array Value := #[.int 1, .int 2, .int 3, .int 4]
def aboutOver (below : List Frame) : State where
  vm := { classes := classes, interned := interned.toArray }
  heap := heap
  slotsUsed := slotsUsed
  threads := #[{ frames := .invoking theMethod args0 :: below }]
def below0 : List Frame := [.native { method := ⟨0, 0⟩, args := #[] }]
def about1 : State := aboutOver below0
def p0 : Program := .bare "" "" ""
def e0 : Env := launch0.env 0 0 0
theorem w_frames : about1.frames = Frame.invoking theMethod args0 :: below0 := rfl
set_option maxRecDepth 65536 in
theorem w_args : argsFit about1.vm theMethod args0 = true := by decide +kernel
set_option maxRecDepth 65536 in
theorem w_heap : heapFits about1 = true := by decide +kernel
set_option maxRecDepth 65536 in
theorem w_runnable : about1.curStatus? = some .runnable := by decide +kernel
set_option maxRecDepth 65536 in
theorem w_alone : about1.alone = true := by decide +kernel
set_option maxRecDepth 65536 in
theorem w_named : about1.methodNamed? x = some theMethod := by decide +kernel
set_option maxRecDepth 65536 in
theorem w_hears : about1.hears theMethod below0 = true := by decide +kernel
set_option maxRecDepth 65536 in
theorem w_ripe : about1.ripe theMethod args0 below0 = true := by decide +kernel
theorem w_running : about1.status = .running := rfl
set_option maxRecDepth 65536 in
theorem w_room : about1.hasRoom e0.platform room_1 = true :=
  launch0.hasRoom_least _ room_1 (by decide +kernel) (by decide +kernel) (by decide +kernel) (by decide +kernel) (by decide +kernel) (by decide +kernel)
theorem allAtoms_all (ts : List Jvm.Cond) (a : Array Jvm.Value) (st : Jvm.State) : (allAtoms ts).before a st = ts.all (fun c => c.before a st) := by
  induction ts with
  | nil => rfl
  | cons c t ih =>
    show (Jvm.Cond.and c (allAtoms t)).before a st = _
    rw [Jvm.Cond.before_and, ih, List.all_cons]
def words1 : List Jvm.Cond := Jvm.Cond.code x code maxLocals ret :: tables_1
/-- a 'code' word, met by the world's own term for the bytes: nothing is compared byte by byte -/
theorem code_word {y : MethodName} {bytes : ByteArray} {mx : Nat} {rt : Option FieldType} {a : Array Value} {s : State} {m : MethodId} {meth : Method} {c : Code} (h1 : s.methodNamed? y = some m) (h2 : s.vm.method? m = some meth) (h3 : meth.code = some c) (h4 : c.code = bytes)
    (h5 : (c.maxLocals == mx && c.exceptionTable.isEmpty && decide (c.maxStack ≤ mostOperands) && decide (meth.sig.returnType = rt) && !meth.locks && decide (parseMethodDescriptor y.desc = some meth.sig)) = true) : (Jvm.Cond.code y bytes mx rt).before a s = true := by
  simp only [Bool.and_eq_true, beq_iff_eq, Bool.not_eq_true', decide_eq_true_eq] at h5
  obtain ⟨⟨⟨⟨⟨g1, g2⟩, g3⟩, g4⟩, g5⟩, g6⟩ := h5
  simp [Cond.before, Cond.holds, Cond.value, h1, h2, h3, h4, g1, g2, g3, g4, g5, g6]
def isCode : Jvm.Cond → Bool
  | .code _ _ _ _ => true
  | _ => false
theorem all_split {L : List Jvm.Cond} {P : Jvm.Cond → Bool} (h1 : L.all (fun c => isCode c || P c) = true) (h2 : ∀ c ∈ L.filter isCode, P c = true) : L.all P = true := by
  refine List.all_eq_true.mpr fun c hc => ?_
  have h := List.all_eq_true.mp h1 c hc
  rcases Bool.eq_false_or_eq_true (isCode c) with hi | hi
  · exact h2 c (List.mem_filter.mpr ⟨hc, hi⟩)
  · simpa [hi] using h
set_option maxRecDepth 65536 in
theorem w_c0 : (Jvm.Cond.code x code maxLocals ret).before args0 about1 = true := code_word (m := ⟨1, 2⟩) (meth := k1m2) (c := k1c2) (by decide +kernel) rfl rfl rfl (by decide +kernel)
set_option maxRecDepth 65536 in
theorem w_c1 : (Jvm.Cond.code ({ cls := "com/example/callee/callee/model/CallContextAcceptsStreamingPinLaw", name := "str", desc := "(IZ)Ljava/lang/String;" } : Jvm.MethodName) method_2_code (3 : Nat) (Option.some (Jvm.ClassFile.FieldType.object "java/lang/String"))).before args0 about1 = true := code_word (m := ⟨1, 1⟩) (meth := k1m1) (c := k1c1) (by decide +kernel) rfl rfl rfl (by decide +kernel)
set_option maxRecDepth 65536 in
theorem w_c2 : (Jvm.Cond.code ({ cls := "java/lang/String", name := "<init>", desc := "([C)V" } : Jvm.MethodName) jdk_42_method_3_code (2 : Nat) (Option.none : Option Jvm.ClassFile.FieldType)).before args0 about1 = true := code_word (m := ⟨7, 1⟩) (meth := k7m1) (c := k7c1) (by decide +kernel) rfl rfl rfl (by decide +kernel)
set_option maxRecDepth 65536 in
theorem w_c3 : (Jvm.Cond.code ({ cls := "java/lang/String", name := "<init>", desc := "([CIILjava/lang/Void;)V" } : Jvm.MethodName) jdk_42_method_149_code (6 : Nat) (Option.none : Option Jvm.ClassFile.FieldType)).before args0 about1 = true := code_word (m := ⟨7, 2⟩) (meth := k7m2) (c := k7c2) (by decide +kernel) rfl rfl rfl (by decide +kernel)
set_option maxRecDepth 65536 in
theorem w_c4 : (Jvm.Cond.code ({ cls := "java/lang/Object", name := "<init>", desc := "()V" } : Jvm.MethodName) object_method_1_code (1 : Nat) (Option.none : Option Jvm.ClassFile.FieldType)).before args0 about1 = true := code_word (m := ⟨0, 0⟩) (meth := k0m0) (c := k0c0) (by decide +kernel) rfl rfl rfl (by decide +kernel)
set_option maxRecDepth 65536 in
theorem w_c5 : (Jvm.Cond.code ({ cls := "java/lang/StringUTF16", name := "compress", desc := "([CII)[B" } : Jvm.MethodName) jdk_52_method_16_code (6 : Nat) (Option.some (Jvm.ClassFile.FieldType.array Jvm.ClassFile.FieldType.byte))).before args0 about1 = true := code_word (m := ⟨8, 2⟩) (meth := k8m2) (c := k8c2) (by decide +kernel) rfl rfl rfl (by decide +kernel)
set_option maxRecDepth 65536 in
theorem w_c6 : (Jvm.Cond.code ({ cls := "java/lang/StringUTF16", name := "compress", desc := "([CI[BII)I" } : Jvm.MethodName) jdk_52_method_21_code (7 : Nat) (Option.some Jvm.ClassFile.FieldType.int)).before args0 about1 = true := code_word (m := ⟨8, 3⟩) (meth := k8m3) (c := k8c3) (by decide +kernel) rfl rfl rfl (by decide +kernel)
set_option maxRecDepth 65536 in
theorem w_c7 : (Jvm.Cond.code ({ cls := "java/lang/StringUTF16", name := "coderFromArrayLen", desc := "([BI)B" } : Jvm.MethodName) jdk_52_method_15_code (2 : Nat) (Option.some Jvm.ClassFile.FieldType.byte)).before args0 about1 = true := code_word (m := ⟨8, 1⟩) (meth := k8m1) (c := k8c1) (by decide +kernel) rfl rfl rfl (by decide +kernel)
set_option maxRecDepth 65536 in
theorem w_c8 : (Jvm.Cond.code ({ cls := "com/example/callee/callee/model/CallContext", name := "<init>", desc := "(Ljava/lang/String;Ljava/util/Map;Ljava/lang/String;Ljava/lang/String;)V" } : Jvm.MethodName) prog_16_method_1_code (5 : Nat) (Option.none : Option Jvm.ClassFile.FieldType)).before args0 about1 = true := code_word (m := ⟨9, 0⟩) (meth := k9m0) (c := k9c0) (by decide +kernel) rfl rfl rfl (by decide +kernel)
set_option maxRecDepth 65536 in
theorem w_c9 : (Jvm.Cond.code ({ cls := "com/example/callee/callee/model/CallContext", name := "<init>", desc := "(Ljava/lang/String;Ljava/util/Map;Ljava/lang/String;Ljava/lang/String;Lcom/example/callee/callee/model/CallContext$Stream;)V" } : Jvm.MethodName) prog_16_method_2_code (6 : Nat) (Option.none : Option Jvm.ClassFile.FieldType)).before args0 about1 = true := code_word (m := ⟨9, 1⟩) (meth := k9m1) (c := k9c1) (by decide +kernel) rfl rfl rfl (by decide +kernel)
set_option maxRecDepth 65536 in
theorem w_c10 : (Jvm.Cond.code ({ cls := "com/example/callee/callee/model/CallContext", name := "acceptsStreaming", desc := "()Z" } : Jvm.MethodName) prog_16_method_7_code (1 : Nat) (Option.some Jvm.ClassFile.FieldType.boolean)).before args0 about1 = true := code_word (m := ⟨9, 5⟩) (meth := k9m5) (c := k9c5) (by decide +kernel) rfl rfl rfl (by decide +kernel)
set_option maxRecDepth 65536 in
theorem w_c11 : (Jvm.Cond.code ({ cls := "com/example/callee/callee/model/CallContext", name := "callerGone", desc := "()Z" } : Jvm.MethodName) prog_16_method_9_code (1 : Nat) (Option.some Jvm.ClassFile.FieldType.boolean)).before args0 about1 = true := code_word (m := ⟨9, 7⟩) (meth := k9m7) (c := k9c7) (by decide +kernel) rfl rfl rfl (by decide +kernel)
set_option maxRecDepth 65536 in
theorem w_c12 : (Jvm.Cond.code ({ cls := "com/example/callee/callee/model/CallContext", name := "sendChunk", desc := "(Ljava/lang/Object;)Z" } : Jvm.MethodName) prog_16_method_8_code (2 : Nat) (Option.some Jvm.ClassFile.FieldType.boolean)).before args0 about1 = true := code_word (m := ⟨9, 6⟩) (meth := k9m6) (c := k9c6) (by decide +kernel) rfl rfl rfl (by decide +kernel)
set_option maxRecDepth 65536 in
theorem w_c13 : (Jvm.Cond.code ({ cls := "com/example/callee/callee/model/CallContext", name := "uid", desc := "()Ljava/lang/String;" } : Jvm.MethodName) prog_16_method_3_code (1 : Nat) (Option.some (Jvm.ClassFile.FieldType.object "java/lang/String"))).before args0 about1 = true := code_word (m := ⟨9, 2⟩) (meth := k9m2) (c := k9c2) (by decide +kernel) rfl rfl rfl (by decide +kernel)
set_option maxRecDepth 65536 in
theorem w_c14 : (Jvm.Cond.code ({ cls := "com/example/callee/callee/model/CallContext", name := "appId", desc := "()Ljava/lang/String;" } : Jvm.MethodName) prog_16_method_5_code (1 : Nat) (Option.some (Jvm.ClassFile.FieldType.object "java/lang/String"))).before args0 about1 = true := code_word (m := ⟨9, 3⟩) (meth := k9m3) (c := k9c3) (by decide +kernel) rfl rfl rfl (by decide +kernel)
set_option maxRecDepth 65536 in
theorem w_c15 : (Jvm.Cond.code ({ cls := "com/example/callee/callee/model/CallContext", name := "instanceIdToken", desc := "()Ljava/lang/String;" } : Jvm.MethodName) prog_16_method_6_code (1 : Nat) (Option.some (Jvm.ClassFile.FieldType.object "java/lang/String"))).before args0 about1 = true := code_word (m := ⟨9, 4⟩) (meth := k9m4) (c := k9c4) (by decide +kernel) rfl rfl rfl (by decide +kernel)
def codes1 : List Jvm.Cond := [Jvm.Cond.code x code maxLocals ret, Jvm.Cond.code ({ cls := "com/example/callee/callee/model/CallContextAcceptsStreamingPinLaw", name := "str", desc := "(IZ)Ljava/lang/String;" } : Jvm.MethodName) method_2_code (3 : Nat) (Option.some (Jvm.ClassFile.FieldType.object "java/lang/String")), Jvm.Cond.code ({ cls := "java/lang/String", name := "<init>", desc := "([C)V" } : Jvm.MethodName) jdk_42_method_3_code (2 : Nat) (Option.none : Option Jvm.ClassFile.FieldType), Jvm.Cond.code ({ cls := "java/lang/String", name := "<init>", desc := "([CIILjava/lang/Void;)V" } : Jvm.MethodName) jdk_42_method_149_code (6 : Nat) (Option.none : Option Jvm.ClassFile.FieldType), Jvm.Cond.code ({ cls := "java/lang/Object", name := "<init>", desc := "()V" } : Jvm.MethodName) object_method_1_code (1 : Nat) (Option.none : Option Jvm.ClassFile.FieldType), Jvm.Cond.code ({ cls := "java/lang/StringUTF16", name := "compress", desc := "([CII)[B" } : Jvm.MethodName) jdk_52_method_16_code (6 : Nat) (Option.some (Jvm.ClassFile.FieldType.array Jvm.ClassFile.FieldType.byte)), Jvm.Cond.code ({ cls := "java/lang/StringUTF16", name := "compress", desc := "([CI[BII)I" } : Jvm.MethodName) jdk_52_method_21_code (7 : Nat) (Option.some Jvm.ClassFile.FieldType.int), Jvm.Cond.code ({ cls := "java/lang/StringUTF16", name := "coderFromArrayLen", desc := "([BI)B" } : Jvm.MethodName) jdk_52_method_15_code (2 : Nat) (Option.some Jvm.ClassFile.FieldType.byte), Jvm.Cond.code ({ cls := "com/example/callee/callee/model/CallContext", name := "<init>", desc := "(Ljava/lang/String;Ljava/util/Map;Ljava/lang/String;Ljava/lang/String;)V" } : Jvm.MethodName) prog_16_method_1_code (5 : Nat) (Option.none : Option Jvm.ClassFile.FieldType), Jvm.Cond.code ({ cls := "com/example/callee/callee/model/CallContext", name := "<init>", desc := "(Ljava/lang/String;Ljava/util/Map;Ljava/lang/String;Ljava/lang/String;Lcom/example/callee/callee/model/CallContext$Stream;)V" } : Jvm.MethodName) prog_16_method_2_code (6 : Nat) (Option.none : Option Jvm.ClassFile.FieldType), Jvm.Cond.code ({ cls := "com/example/callee/callee/model/CallContext", name := "acceptsStreaming", desc := "()Z" } : Jvm.MethodName) prog_16_method_7_code (1 : Nat) (Option.some Jvm.ClassFile.FieldType.boolean), Jvm.Cond.code ({ cls := "com/example/callee/callee/model/CallContext", name := "callerGone", desc := "()Z" } : Jvm.MethodName) prog_16_method_9_code (1 : Nat) (Option.some Jvm.ClassFile.FieldType.boolean), Jvm.Cond.code ({ cls := "com/example/callee/callee/model/CallContext", name := "sendChunk", desc := "(Ljava/lang/Object;)Z" } : Jvm.MethodName) prog_16_method_8_code (2 : Nat) (Option.some Jvm.ClassFile.FieldType.boolean), Jvm.Cond.code ({ cls := "com/example/callee/callee/model/CallContext", name := "uid", desc := "()Ljava/lang/String;" } : Jvm.MethodName) prog_16_method_3_code (1 : Nat) (Option.some (Jvm.ClassFile.FieldType.object "java/lang/String")), Jvm.Cond.code ({ cls := "com/example/callee/callee/model/CallContext", name := "appId", desc := "()Ljava/lang/String;" } : Jvm.MethodName) prog_16_method_5_code (1 : Nat) (Option.some (Jvm.ClassFile.FieldType.object "java/lang/String")), Jvm.Cond.code ({ cls := "com/example/callee/callee/model/CallContext", name := "instanceIdToken", desc := "()Ljava/lang/String;" } : Jvm.MethodName) prog_16_method_6_code (1 : Nat) (Option.some (Jvm.ClassFile.FieldType.object "java/lang/String"))]
set_option maxRecDepth 65536 in
theorem codes_eq : words1.filter isCode = codes1 := rfl
theorem w_codes : ∀ c ∈ words1.filter isCode, c.before args0 about1 = true := by
  rw [codes_eq]
  intro c hc
  simp only [codes1, List.mem_cons, List.not_mem_nil, or_false] at hc
  rcases hc with rfl | rfl | rfl | rfl | rfl | rfl | rfl | rfl | rfl | rfl | rfl | rfl | rfl | rfl | rfl | rfl
  · exact w_c0
  · exact w_c1
  · exact w_c2
  · exact w_c3
  · exact w_c4
  · exact w_c5
  · exact w_c6
  · exact w_c7
  · exact w_c8
  · exact w_c9
  · exact w_c10
  · exact w_c11
  · exact w_c12
  · exact w_c13
  · exact w_c14
  · exact w_c15
set_option maxRecDepth 65536 in
theorem w_t1 : (words1.take 24).all (fun c => isCode c || c.before args0 about1) = true := by decide +kernel
set_option maxRecDepth 65536 in
theorem w_t2 : ((words1.drop 24).take 24).all (fun c => isCode c || c.before args0 about1) = true := by decide +kernel
set_option maxRecDepth 65536 in
theorem w_t3 : (((words1.drop 24).drop 24).take 24).all (fun c => isCode c || c.before args0 about1) = true := by decide +kernel
set_option maxRecDepth 65536 in
theorem w_t4 : (((words1.drop 24).drop 24).drop 24).all (fun c => isCode c || c.before args0 about1) = true := by decide +kernel
theorem w_tables : (allAtoms (Jvm.Cond.code x code maxLocals ret :: tables_1)).before args0 about1 = true := by
  rw [allAtoms_all]
  show words1.all (fun c => c.before args0 about1) = true
  refine all_split ?_ w_codes
  rw [← List.take_append_drop 24 words1, List.all_append, w_t1, ← List.take_append_drop 24 (words1.drop 24), List.all_append, w_t2, ← List.take_append_drop 24 ((words1.drop 24).drop 24), List.all_append, w_t3, w_t4]
  rfl
set_option maxRecDepth 65536 in
theorem w_rest : rest_1_c.before args0 about1 = true := by decide +kernel
set_option maxRecDepth 65536 in
theorem w_case : (Jvm.Cond.and given_1 narrow_1).before args0 about1 = true := by decide +kernel
theorem w_applies : (headSpec (Jvm.Cond.code x code maxLocals ret :: tables_1) room_1).applies x e0.platform about1 = true :=
  (Spec.applies_iff w_frames).mpr ⟨w_running, w_runnable, w_alone, w_named, w_hears, w_ripe, w_room, w_tables⟩
theorem atStart : AtStart classFile x code maxLocals ret World_1 tables_1 room_1 Calls_1 rest_1 Pre_1 launch0 p0 e0 about1 theMethod args0 below0 :=
  ⟨lists_1, trivial, launch0.admits_env _ _ _, launch0.least_env, fairChoices_fair.cas, fairChoices_fair.clock, w_frames, w_args, w_heap, w_applies, trivial, w_rest, w_case⟩
end start1
theorem witness_1 : WitnessClaimed_1 := ⟨start1.p0, start1.e0, start1.about1, start1.theMethod, start1.args0, start1.below0, start1.atStart⟩
end Jvm.Pilot.@@N@@
