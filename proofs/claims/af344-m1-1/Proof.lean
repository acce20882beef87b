import JvmDerived
import JvmDerived.Pilot.@@N@@Statement
import JvmDerived.Pilot.@@N@@Code
set_option linter.unusedVariables false
set_option linter.unusedSimpArgs false
@@BLOCK:NumsL.lean.txt@@
namespace Jvm.Pilot.@@N@@
open Jvm Jvm.ClassFile Sem Op Lib Jvm.Free Jvm.Stand Jvm.LawKit Jvm.RoadKit Bundle Jvm.Pilot.@@N@@.Jvm.D
/-- from the state T with the frame g on top the method comes to its end, and Q holds there -/
def Goes (p : Program) (l : Launch) (e : Env) (R : Room) (s : State) (m : MethodId) (args : Array Value) (below : List Frame) (meth : Method) (c : Code) (Q : Option Value → Heap → List Loc → Prop) (T : State) (g : JFrame) : Prop :=
  ∃ (T' : State) (v : Option Value) (L : List Loc) (k n : Nat), Stand p l e R s m args below meth c T' L k n ∧ k ≤ R.cells ∧ n ≤ R.slots ∧ (meth.sig.returnType = none → v = none) ∧ Q v T'.heap L ∧
    ∀ fs, (∀ (f : JFrame) (acts : List Action), f.method = m → f.locked = none → f.entered = [] → (doReturn e (T'.setTop f) acts v).1 = T'.setFrames fs) → Steps p.tables e below (T.setTop g) (T'.setFrames fs)
section OwnGoes
variable {p : Program} {l : Launch} {e : Env} {R : Room} {s : State} {m : MethodId} {args : Array Value} {below : List Frame} {meth : Method} {c : Code} {Q : Option Value → Heap → List Loc → Prop} {T T2 : State} {g g2 : JFrame} {L : List Loc} {k n : Nat}
theorem Goes.step (st : ∀ target, Steps p.tables e below (T2.setTop g2) target → Steps p.tables e below (T.setTop g) target) (F : Goes p l e R s m args below meth c Q T2 g2) : Goes p l e R s m args below meth c Q T g := by
  obtain ⟨T', v, L, k, n, X, hk, hn, hv, hq, hs⟩ := F
  exact ⟨T', v, L, k, n, X, hk, hn, hv, hq, fun fs h => st _ (hs fs h)⟩
theorem Goes.cast (q : g = g2) (F : Goes p l e R s m args below meth c Q T g2) : Goes p l e R s m args below meth c Q T g := q ▸ F
theorem Goes.out {maxL : Nat} {s₁ : State} (hl : meth.locks = false) (F : Goes p l e R s m args below meth c Q s₁ (entryFrame m args maxL)) :
    ∃ s₂ o, Steps p.tables e below (s₁.setTop (entryFrame m args maxL)) s₂ ∧ s₂.status = .running ∧ Ended s₂ below o ∧ ∃ v L, o = .returned v ∧ Q v s₂.heap L ∧ FrameEnd s o s₂ L R.cells R.slots := by
  obtain ⟨T', v, L, k, n, X, hk, hn, hv, hq, hs⟩ := F
  obtain ⟨fs, hr, hrun, hended, hW, hsame⟩ := X.leave (v := v) hv hl
  exact ⟨_, _, hs fs hr, hrun, hended, v, L, rfl, hq, ⟨_, rfl⟩, hW, hsame.mono hk hn⟩
theorem Goes.ret {v : Option Value} (X : Stand p l e R s m args below meth c T L k n) (hk : k ≤ R.cells) (hn : n ≤ R.slots) (hv : meth.sig.returnType = none → v = none) (hq : Q v T.heap L)
    (hs : ∀ fs, (∀ (f : JFrame) (acts : List Action), f.method = m → f.locked = none → f.entered = [] → (doReturn e (T.setTop f) acts v).1 = T.setFrames fs) → Steps p.tables e below (T.setTop g) (T.setFrames fs)) : Goes p l e R s m args below meth c Q T g :=
  ⟨T, v, L, k, n, X, hk, hn, hv, hq, hs⟩
/-- the same where String constants may have been interned on the road -/
def GoesW (p : Program) (l : Launch) (e : Env) (R : Room) (s : State) (m : MethodId) (args : Array Value) (below : List Frame) (meth : Method) (c : Code) (Q : Option Value → Heap → List Loc → Prop) (T : State) (g : JFrame) : Prop :=
  ∃ (T' : State) (v : Option Value) (L : List Loc) (k n : Nat) (vm : Vm) (j : Nat), Stand p l e R (s.setVm vm) m args below meth c T' L k n ∧ s.Since vm j ∧ j ≤ T'.heap.size ∧ k ≤ R.cells ∧ n ≤ R.slots ∧ (meth.sig.returnType = none → v = none) ∧ Q v T'.heap L ∧
    ∀ fs, (∀ (f : JFrame) (acts : List Action), f.method = m → f.locked = none → f.entered = [] → (doReturn e (T'.setTop f) acts v).1 = T'.setFrames fs) → Steps p.tables e below (T.setTop g) (T'.setFrames fs)
theorem GoesW.step (st : ∀ target, Steps p.tables e below (T2.setTop g2) target → Steps p.tables e below (T.setTop g) target) (F : GoesW p l e R s m args below meth c Q T2 g2) : GoesW p l e R s m args below meth c Q T g := by
  obtain ⟨T', v, L, k, n, vm, j, X, hS, hj, hk, hn, hv, hq, hs⟩ := F
  exact ⟨T', v, L, k, n, vm, j, X, hS, hj, hk, hn, hv, hq, fun fs h => st _ (hs fs h)⟩
theorem GoesW.cast (q : g = g2) (F : GoesW p l e R s m args below meth c Q T g2) : GoesW p l e R s m args below meth c Q T g := q ▸ F
theorem GoesW.out {maxL : Nat} {s₁ : State} (hl : meth.locks = false) (F : GoesW p l e R s m args below meth c Q s₁ (entryFrame m args maxL)) :
    ∃ s₂ o, Steps p.tables e below (s₁.setTop (entryFrame m args maxL)) s₂ ∧ s₂.status = .running ∧ Ended s₂ below o ∧ ∃ v L, o = .returned v ∧ Q v s₂.heap L ∧ ReturnedEndW s o s₂ L R.cells R.slots := by
  obtain ⟨T', v, L, k, n, vm, j, X, hS, hj, hk, hn, hv, hq, hs⟩ := F
  obtain ⟨fs, hr, hrun, hended, h1, h2, h3, hsame⟩ := X.leaveW (v := v) hS hj hv hl
  exact ⟨_, _, hs fs hr, hrun, hended, v, L, rfl, hq, h1, h2, h3, hsame.mono hk hn⟩
theorem GoesW.ret {v : Option Value} {vm : Vm} {j : Nat} (X : Stand p l e R (s.setVm vm) m args below meth c T L k n) (hS : s.Since vm j) (hj : j ≤ T.heap.size) (hk : k ≤ R.cells) (hn : n ≤ R.slots) (hv : meth.sig.returnType = none → v = none) (hq : Q v T.heap L)
    (hs : ∀ fs, (∀ (f : JFrame) (acts : List Action), f.method = m → f.locked = none → f.entered = [] → (doReturn e (T.setTop f) acts v).1 = T.setFrames fs) → Steps p.tables e below (T.setTop g) (T.setFrames fs)) : GoesW p l e R s m args below meth c Q T g :=
  ⟨T, v, L, k, n, vm, j, X, hS, hj, hk, hn, hv, hq, hs⟩
theorem tw {a0 : Array Value} {Z : State} (hw : ∀ d ∈ tables_1, d.before a0 Z = true) (i : Nat) {d : Jvm.Cond} (h : tables_1[i]? = some d) : d.before a0 Z = true := hw d (List.mem_of_getElem? h)
theorem own_at {T : State} {h : Heap} {a : Addr} {c : Cell} (e : T.heap = h) (q : h[a]? = some c) : T.heap[a]? = some c := by rw [e]; exact q
theorem cmpL_self (x : Int64) : Jvm.Free.XT.cmpL x x = (0 : Int32) := by simp [Jvm.Free.XT.cmpL, Int64.lt_iff_toInt_lt]
theorem own_mvMN {Z s : State} {a0 args : Array Value} {own host : String} {index : Nat} {y : MethodName} (hZ : Z.Warmed39 s.vm) (w : (Jvm.Cond.methodLinkNest own index y host).before a0 Z = true) : (Jvm.Cond.methodLinkNest own index y host).before args s = true := (Cond.methodLinkNest_wide hZ w :)
end OwnGoes
theorem pd_0 : parseMethodDescriptor "([CI[BII)I" = some ⟨[(.array .char), .int, (.array .byte), .int, .int], some .int⟩ := by decide +kernel
theorem pd_1 : parseMethodDescriptor "([CII)[B" = some ⟨[(.array .char), .int, .int], some (.array .byte)⟩ := by decide +kernel
theorem pd_2 : parseMethodDescriptor "([BI)B" = some ⟨[(.array .byte), .int], some .byte⟩ := by decide +kernel
theorem pd_3 : parseMethodDescriptor "([CIILjava/lang/Void;)V" = some ⟨[(.array .char), .int, .int, (.object "java/lang/Void")], none⟩ := by decide +kernel
theorem pd_4 : parseMethodDescriptor "(J)V" = some ⟨[.long], none⟩ := by decide +kernel
theorem pd_5 : parseMethodDescriptor "()V" = some ⟨[], none⟩ := by decide +kernel
theorem pd_6 : parseMethodDescriptor "(Ljava/lang/Object;Ljava/lang/String;)Ljava/lang/Object;" = some ⟨[(.object "java/lang/Object"), (.object "java/lang/String")], some (.object "java/lang/Object")⟩ := by decide +kernel
theorem pd_7 : parseMethodDescriptor "()Ljava/util/OptionalLong;" = some ⟨[], some (.object "java/util/OptionalLong")⟩ := by decide +kernel
theorem pd_8 : parseMethodDescriptor "(Ljava/lang/String;ZJLjava/util/OptionalLong;JJ)V" = some ⟨[(.object "java/lang/String"), .boolean, .long, (.object "java/util/OptionalLong"), .long, .long], none⟩ := by decide +kernel
theorem pd_9 : parseMethodDescriptor "(J)Ljava/util/OptionalLong;" = some ⟨[.long], some (.object "java/util/OptionalLong")⟩ := by decide +kernel
theorem pd_10 : parseMethodDescriptor "([C)V" = some ⟨[(.array .char)], none⟩ := by decide +kernel
theorem pd_11 : parseMethodDescriptor "(Ljava/lang/String;ZJJ)Lcom/example/log_lag_gauge/loglaggauge/model/PartLooks;" = some ⟨[(.object "java/lang/String"), .boolean, .long, .long], some (.object "com/example/log_lag_gauge/loglaggauge/model/PartLooks")⟩ := by decide +kernel
theorem pd_12 : parseMethodDescriptor "()Ljava/lang/String;" = some ⟨[], some (.object "java/lang/String")⟩ := by decide +kernel
theorem pd_13 : parseMethodDescriptor "(Ljava/lang/Object;)Z" = some ⟨[(.object "java/lang/Object")], some .boolean⟩ := by decide +kernel
theorem pd_14 : parseMethodDescriptor "()Z" = some ⟨[], some .boolean⟩ := by decide +kernel
theorem pd_15 : parseMethodDescriptor "()J" = some ⟨[], some .long⟩ := by decide +kernel
abbrev Y0 : MethodName := (⟨"java/lang/StringUTF16", "compress", "([CI[BII)I"⟩ : MethodName)
abbrev Y1 : MethodName := (⟨"java/lang/StringUTF16", "compress", "([CII)[B"⟩ : MethodName)
abbrev Y2 : MethodName := (⟨"java/lang/StringUTF16", "coderFromArrayLen", "([BI)B"⟩ : MethodName)
abbrev Y3 : MethodName := (⟨"java/lang/String", "<init>", "([CIILjava/lang/Void;)V"⟩ : MethodName)
abbrev Y4 : MethodName := (⟨"java/lang/String", "<init>", "([C)V"⟩ : MethodName)
abbrev Y5 : MethodName := (⟨"java/util/OptionalLong", "<init>", "(J)V"⟩ : MethodName)
abbrev Y6 : MethodName := (⟨"java/util/OptionalLong", "of", "(J)Ljava/util/OptionalLong;"⟩ : MethodName)
abbrev Y7 : MethodName := (⟨"java/util/OptionalLong", "empty", "()Ljava/util/OptionalLong;"⟩ : MethodName)
abbrev Y8 : MethodName := (⟨"java/util/OptionalLong", "isPresent", "()Z"⟩ : MethodName)
abbrev Y9 : MethodName := (⟨"java/util/OptionalLong", "getAsLong", "()J"⟩ : MethodName)
abbrev Y10 : MethodName := (⟨"java/util/Objects", "requireNonNull", "(Ljava/lang/Object;Ljava/lang/String;)Ljava/lang/Object;"⟩ : MethodName)
abbrev Y11 : MethodName := (⟨"java/lang/Record", "<init>", "()V"⟩ : MethodName)
abbrev Y12 : MethodName := (⟨"com/example/log_lag_gauge/loglaggauge/model/PartLooks", "<init>", "(Ljava/lang/String;ZJLjava/util/OptionalLong;JJ)V"⟩ : MethodName)
abbrev Y13 : MethodName := (⟨"com/example/log_lag_gauge/loglaggauge/model/PartLooks", "one", "(Ljava/lang/String;ZJJ)Lcom/example/log_lag_gauge/loglaggauge/model/PartLooks;"⟩ : MethodName)
abbrev Y14 : MethodName := (⟨"com/example/log_lag_gauge/loglaggauge/model/PartLooks", "part", "()Ljava/lang/String;"⟩ : MethodName)
abbrev Y15 : MethodName := (⟨"com/example/log_lag_gauge/loglaggauge/model/PartLooks", "succeeded", "()Z"⟩ : MethodName)
abbrev Y16 : MethodName := (⟨"com/example/log_lag_gauge/loglaggauge/model/PartLooks", "durationMs", "()J"⟩ : MethodName)
abbrev Y17 : MethodName := (⟨"com/example/log_lag_gauge/loglaggauge/model/PartLooks", "lastSuccessMs", "()Ljava/util/OptionalLong;"⟩ : MethodName)
abbrev Y18 : MethodName := (⟨"com/example/log_lag_gauge/loglaggauge/model/PartLooks", "looks", "()J"⟩ : MethodName)
abbrev Y19 : MethodName := (⟨"com/example/log_lag_gauge/loglaggauge/model/PartLooks", "failures", "()J"⟩ : MethodName)
abbrev Y20 : MethodName := (⟨"java/lang/String", "equals", "(Ljava/lang/Object;)Z"⟩ : MethodName)
theorem own_chr (x : Int32) : nar .char ((x &&& (255 : Int32)).toUInt32.toUInt16.toUInt32.toInt32) = (x &&& (255 : Int32)) := by
  have h := i2c_mask x
  show ((x &&& 255).toUInt32.toUInt16.toUInt32.toInt32).toUInt32.toUInt16.toUInt32.toInt32 = x &&& 255
  rw [h, h]
theorem own_chr2 (x : Int32) : nar .char (x &&& (255 : Int32)) = (x &&& (255 : Int32)) := i2c_mask x
theorem own_low (x : Int32) : ¬ ((255 : Int32) < (x &&& (255 : Int32))) := by
  have e1 : (x &&& 255).toInt = x.toInt % 2 ^ 8 := Jvm.Kit.i32_mask x 255 (k := 8) (by decide) (by decide)
  have a1 : (255 : Int32).toInt = 255 := by decide
  rw [Int32.lt_iff_toInt_lt]
  omega
theorem own_cs {s : State} {args : Array Value} {t : Term} {k : Int32} (ev : t.eval args s none [] s = some (.int k)) (h : (Jvm.Cond.not (.eq t (.int 0))).value args s none s [] = some true) : ¬ (k = (0 : Int32)) := by
  have h2 := not_v h
  simp only [Cond.value, ev, Term.eval] at h2
  simpa using h2
theorem own_fint {s : State} {args : Array Value} {t : Term} {C n d : String} {k : Int32} {a : Addr} (ev : t.eval args s none [] s = some (.ref a)) (h : (Jvm.Cond.eq (.field t C n d) (.int k)).value args s none s [] = some true) : Fld s s.heap a C n d (.int k) := by
  obtain ⟨x', y', e1, e2, k1, k2⟩ := cmp_v (Or.inl h)
  have e3 : y' = .int k := (Option.some.inj ((Term.int_eval k).symm.trans e2)).symm
  subst e3
  obtain ⟨z, rfl⟩ := k2
  have e4 : z = k := by
    simp only [Cond.value, e1, e2] at h
    simpa using h
  subst e4
  rw [fld_at ev] at e1
  exact Fld.start e1
theorem own_flong {s : State} {args : Array Value} {t : Term} {C n d : String} {k : Int64} {a : Addr} (ev : t.eval args s none [] s = some (.ref a)) (h : (Jvm.Cond.eq (.field t C n d) (.long k)).value args s none s [] = some true) : Fld s s.heap a C n d (.long k) := by
  obtain ⟨x', y', e1, e2, k1, k2⟩ := cmp_v (Or.inl h)
  have e3 : y' = .long k := by
    simp only [Term.eval] at e2
    exact (Option.some.inj e2).symm
  subst e3
  obtain ⟨z, rfl⟩ := k2
  have e4 : z = k := by
    simp only [Cond.value, e1, e2] at h
    simpa using h
  subst e4
  rw [fld_at ev] at e1
  exact Fld.start e1
theorem own_wsa {Z : State} {a0 : Array Value} (hw : ∀ d ∈ tables_1, d.before a0 Z = true) : ∀ a ∈ Bundle.stringAtoms, a.before a0 Z = true := by
  intro a ha
  simp only [Bundle.stringAtoms, List.mem_cons, List.not_mem_nil, or_false] at ha
  rcases ha with rfl | rfl | rfl | rfl | rfl | rfl | rfl
  · exact tw hw 3 rfl
  · exact tw hw 2 rfl
  · exact tw hw 19 rfl
  · exact tw hw 29 rfl
  · exact tw hw 27 rfl
  · exact tw hw 51 rfl
  · exact tw hw 52 rfl
theorem d0_0 : decode jdk_52_method_21_code 0 = .ok (.iconst 0, 1) := by decide +kernel
theorem d0_1 : decode jdk_52_method_21_code 1 = .ok (.istore 5, 2) := by decide +kernel
theorem d0_3 : decode jdk_52_method_21_code 3 = .ok (.iload 5, 2) := by decide +kernel
theorem d0_5 : decode jdk_52_method_21_code 5 = .ok (.iload 4, 2) := by decide +kernel
theorem d0_7 : decode jdk_52_method_21_code 7 = .ok (.if_icmp .ge 37, 3) := by decide +kernel
theorem d0_10 : decode jdk_52_method_21_code 10 = .ok (.aload_n 0, 1) := by decide +kernel
theorem d0_11 : decode jdk_52_method_21_code 11 = .ok (.iload_n 1, 1) := by decide +kernel
theorem d0_12 : decode jdk_52_method_21_code 12 = .ok (.caload, 1) := by decide +kernel
theorem d0_13 : decode jdk_52_method_21_code 13 = .ok (.istore 6, 2) := by decide +kernel
theorem d0_15 : decode jdk_52_method_21_code 15 = .ok (.iload 6, 2) := by decide +kernel
theorem d0_17 : decode jdk_52_method_21_code 17 = .ok (.sipush 255, 3) := by decide +kernel
theorem d0_20 : decode jdk_52_method_21_code 20 = .ok (.if_icmp .le 6, 3) := by decide +kernel
theorem d0_26 : decode jdk_52_method_21_code 26 = .ok (.aload_n 2, 1) := by decide +kernel
theorem d0_27 : decode jdk_52_method_21_code 27 = .ok (.iload_n 3, 1) := by decide +kernel
theorem d0_28 : decode jdk_52_method_21_code 28 = .ok (.iload 6, 2) := by decide +kernel
theorem d0_30 : decode jdk_52_method_21_code 30 = .ok (.i2b, 1) := by decide +kernel
theorem d0_31 : decode jdk_52_method_21_code 31 = .ok (.bastore, 1) := by decide +kernel
theorem d0_32 : decode jdk_52_method_21_code 32 = .ok (.iinc 1 1, 3) := by decide +kernel
theorem d0_35 : decode jdk_52_method_21_code 35 = .ok (.iinc 3 1, 3) := by decide +kernel
theorem d0_38 : decode jdk_52_method_21_code 38 = .ok (.iinc 5 1, 3) := by decide +kernel
theorem d0_41 : decode jdk_52_method_21_code 41 = .ok (.goto (-38), 3) := by decide +kernel
theorem d0_44 : decode jdk_52_method_21_code 44 = .ok (.iload 4, 2) := by decide +kernel
theorem d0_46 : decode jdk_52_method_21_code 46 = .ok (.ireturn, 1) := by decide +kernel
theorem pn_java_lang_StringUTF16 : plainName "java/lang/StringUTF16" = true := by first | (simp [plainName, overriddenIn]; done) | decide +kernel
def Q_rm_cmp2 (Z : State) (a2 : Addr) (k2 : ClassId) (a3 : Addr) (k3 : ClassId) (c0 : Int32) (c1 : Int32) (h0 : Heap) (n0 : Nat) (v : Option Value) (h : Heap) (L : List Loc) : Prop := v = some (.int (2 : Int32)) ∧ Fr n0 L ∧ Keep h0 h [a3] ∧ Arv Z h a3 k3 .byte (2 : Int32) [(.int (nar .byte (c0.toInt8.toInt32))), (.int (nar .byte (c1.toInt8.toInt32)))] (.int (0 : Int32))
set_option maxRecDepth 65536 in
set_option maxHeartbeats 40000000 in
theorem rm_cmp2 (l : Launch) (Z : State) (a0 : Array Value) (hw : ∀ d ∈ tables_1, d.before a0 Z = true) (ws : List Jvm.Cond) (a2 : Addr) (k2 : ClassId) (a3 : Addr) (k3 : ClassId) (c0 : Int32) (c1 : Int32) (h0 : Heap) (n0 : Nat) (Z0 : n0 ≤ h0.size) (O0 : Old Z n0 h0) (V_a2 : Arv Z h0 a2 k2 .char (2 : Int32) [(.int c0), (.int c1)] (.int (0 : Int32))) (V_a3 : Arv Z h0 a3 k3 .byte (2 : Int32) [(.int (0 : Int32)), (.int (0 : Int32))] (.int (0 : Int32))) (ge_a3 : n0 ≤ a3) (ne_a2_a3 : a2 ≠ a3) (hlow0 : ¬ ((255 : Int32) < c0)) (hlow1 : ¬ ((255 : Int32) < c1)) :
    MetFree l Y0 (head1 (Jvm.Cond.code Y0 jdk_52_method_21_code 7 (some .int) :: ws) ({ frames := 0, cells := 0, slots := 0, locals := 0 } : Room)) (fun a U => a = #[(.ref a2), (.int (0 : Int32)), (.ref a3), (.int (0 : Int32)), (.int (2 : Int32))] ∧ Z.Warmed39 U.vm ∧ U.heap = h0) (fun _ _ _ _ _ => True) (fun _ U o U' => ∃ v L, o = .returned v ∧ Q_rm_cmp2 Z a2 k2 a3 k3 c0 c1 h0 n0 v U'.heap L ∧ FrameEnd U o U' L ({ frames := 0, cells := 0, slots := 0, locals := 0 } : Room).cells ({ frames := 0, cells := 0, slots := 0, locals := 0 } : Room).slots) := by
  refine MetFree.of_bodySF (plainFor_of_name pn_java_lang_StringUTF16) hisR ?_
  intro p e s m args below meth c s₁ Bd hml0 hP hK
  obtain ⟨rfl, hZ, hh⟩ := hP
  have hx := Bd.exec
  have hby := Bd.bytes
  have hml : c.maxLocals = 7 := hml0
  have hown : s.vm.findClass "java/lang/StringUTF16" = some m.cls := findClass_of_methodNamed Bd.named
  have hnm := (name_of_methodNamed Bd.named Bd.method).1
  have X0 : Stand p l e ({ frames := 0, cells := 0, slots := 0, locals := 0 } : Room) s m #[(.ref a2), (.int (0 : Int32)), (.ref a3), (.int (0 : Int32)), (.int (2 : Int32))] below meth c s₁ [] 0 0 := Stand.of_body Bd
  have e0 : s₁.heap = h0 := by rw [← hh, Bd.state]; rfl
  have N0 := Fr.nil n0
  refine Goes.out (l := l) (c := c) (R := ({ frames := 0, cells := 0, slots := 0, locals := 0 } : Room)) (Q := Q_rm_cmp2 Z a2 k2 a3 k3 c0 c1 h0 n0) Bd.notSynchronized ?_
  refine Goes.cast (g2 := mkF m 0 #[rv a2, iv 0, rv a3, iv 0, iv 2, .unset, .unset] []) (by first | (simp [entryFrame, mkF, argsToLocals, Value.category]; done) | rfl) ?_
  have K0 : Keep h0 h0 [a3] := Keep.refl h0 _
  have hws : ∀ x ∈ [a3], n0 ≤ x := (allS ge_a3 all0)
  refine Goes.step (T2 := s₁) (g2 := (mkF m 1 #[rv a2, iv 0, rv a3, iv 0, iv 2, .unset, .unset] [(.int (0 : Int32))])) (fun _ hr => XS.iconst X0.here hx rfl (hb hby d0_0) hr) ?_
  refine Goes.step (T2 := s₁) (g2 := (mkF m 3 #[rv a2, iv 0, rv a3, iv 0, iv 2, iv 0, .unset] [])) (fun _ hr => XS.istore X0.here hx rfl (hb hby d0_1) rfl (l' := #[rv a2, iv 0, rv a3, iv 0, iv 2, iv 0, .unset]) rfl hr) ?_
  refine Goes.step (T2 := s₁) (g2 := (mkF m 5 #[rv a2, iv 0, rv a3, iv 0, iv 2, iv 0, .unset] [(.int (0 : Int32))])) (fun _ hr => XS.iload X0.here hx rfl (hb hby d0_3) rfl  hr) ?_
  refine Goes.step (T2 := s₁) (g2 := (mkF m 7 #[rv a2, iv 0, rv a3, iv 0, iv 2, iv 0, .unset] [(.int (2 : Int32)), (.int (0 : Int32))])) (fun _ hr => XS.iload X0.here hx rfl (hb hby d0_5) rfl  hr) ?_
  refine Goes.step (T2 := s₁) (g2 := (mkF m 10 #[rv a2, iv 0, rv a3, iv 0, iv 2, iv 0, .unset] [])) (fun _ hr => XS.icmpNo X0.here hx rfl (hb hby d0_7) rfl (tlt (by decide : (0 : Int32) < (2 : Int32))).2.1 hr) ?_
  refine Goes.step (T2 := s₁) (g2 := (mkF m 11 #[rv a2, iv 0, rv a3, iv 0, iv 2, iv 0, .unset] [(.ref a2)])) (fun _ hr => XS.aloadN X0.here hx rfl (hb hby d0_10) rfl rfl hr) ?_
  refine Goes.step (T2 := s₁) (g2 := (mkF m 12 #[rv a2, iv 0, rv a3, iv 0, iv 2, iv 0, .unset] [(.int (0 : Int32)), (.ref a2)])) (fun _ hr => XS.iloadN X0.here hx rfl (hb hby d0_11) rfl  hr) ?_
  obtain ⟨cl1, Ar1, q1, S1, Nn1, H1, G1⟩ := id V_a2
  have hin1 : ¬ ((0 : Int32) < 0 ∨ cl1.slots.size ≤ ((0 : Int32)).toNatClampNeg) := inb_of S1 ⟨by decide, by decide⟩
  refine Goes.step (T2 := s₁) (g2 := (mkF m 13 #[rv a2, iv 0, rv a3, iv 0, iv 2, iv 0, .unset] [(.int c0)])) (X0.caload hx (j := (0 : Int32)) (v := (.int c0)) (own_at e0 Ar1.1) (State.isArrayOf_alike hZ.alike Ar1.2.1) Ar1.2.2 hin1 (H1.at hin1 rfl) (g := (mkF m 12 #[rv a2, iv 0, rv a3, iv 0, iv 2, iv 0, .unset] [(.int (0 : Int32)), (.ref a2)])) rfl rfl (hb hby d0_12)) ?_
  refine Goes.step (T2 := s₁) (g2 := (mkF m 15 #[rv a2, iv 0, rv a3, iv 0, iv 2, iv 0, iv c0] [])) (fun _ hr => XS.istore X0.here hx rfl (hb hby d0_13) rfl (l' := #[rv a2, iv 0, rv a3, iv 0, iv 2, iv 0, iv c0]) rfl hr) ?_
  refine Goes.step (T2 := s₁) (g2 := (mkF m 17 #[rv a2, iv 0, rv a3, iv 0, iv 2, iv 0, iv c0] [(.int c0)])) (fun _ hr => XS.iload X0.here hx rfl (hb hby d0_15) rfl  hr) ?_
  refine Goes.step (T2 := s₁) (g2 := (mkF m 20 #[rv a2, iv 0, rv a3, iv 0, iv 2, iv 0, iv c0] [(.int (255 : Int32)), (.int c0)])) (fun _ hr => XS.sipush X0.here hx rfl (hb hby d0_17) hr) ?_
  refine Goes.step (T2 := s₁) (g2 := (mkF m 26 #[rv a2, iv 0, rv a3, iv 0, iv 2, iv 0, iv c0] [])) (fun _ hr => XS.icmpYes X0.here hx rfl (pc0 := 20) (pc' := 26) rfl (hb hby d0_20) rfl (flt (hlow0 : ¬ ((255 : Int32) < c0))).2.2.2 (by decide) (by decide) hr) ?_
  refine Goes.step (T2 := s₁) (g2 := (mkF m 27 #[rv a2, iv 0, rv a3, iv 0, iv 2, iv 0, iv c0] [(.ref a3)])) (fun _ hr => XS.aloadN X0.here hx rfl (hb hby d0_26) rfl rfl hr) ?_
  refine Goes.step (T2 := s₁) (g2 := (mkF m 28 #[rv a2, iv 0, rv a3, iv 0, iv 2, iv 0, iv c0] [(.int (0 : Int32)), (.ref a3)])) (fun _ hr => XS.iloadN X0.here hx rfl (hb hby d0_27) rfl  hr) ?_
  refine Goes.step (T2 := s₁) (g2 := (mkF m 30 #[rv a2, iv 0, rv a3, iv 0, iv 2, iv 0, iv c0] [(.int c0), (.int (0 : Int32)), (.ref a3)])) (fun _ hr => XS.iload X0.here hx rfl (hb hby d0_28) rfl  hr) ?_
  refine Goes.step (T2 := s₁) (g2 := (mkF m 31 #[rv a2, iv 0, rv a3, iv 0, iv 2, iv 0, iv c0] [(.int (c0.toInt8.toInt32)), (.int (0 : Int32)), (.ref a3)])) (fun _ hr => Jvm.Free.XT.i2b X0.here hx rfl (hb hby d0_30) rfl hr) ?_
  obtain ⟨cl2, Ar2, q2, S2, Nn2, H2, G2⟩ := id V_a3
  have hin2 : ¬ ((0 : Int32) < 0 ∨ cl2.slots.size ≤ ((0 : Int32)).toNatClampNeg) := inb_of S2 ⟨by decide, by decide⟩
  obtain ⟨T2, h2, X2, e2, W2, st2⟩ := stB X0 hx hZ e0 Ar2 (j := (0 : Int32)) hin2 (g := (mkF m 31 #[rv a2, iv 0, rv a3, iv 0, iv 2, iv 0, iv c0] [(.int (c0.toInt8.toInt32)), (.int (0 : Int32)), (.ref a3)])) rfl rfl (hb hby d0_31)
  have V_a2_2 : Arv Z h2 a2 k2 .char (2 : Int32) [(.int c0), (.int c1)] (.int (0 : Int32)) := V_a2.other W2 ne_a2_a3
  have K2 : Keep h0 h2 [a3] := K0.wr W2 (Or.inl (List.mem_of_getElem? (i := 0) rfl))
  have N2 := Fr.snoc X2 N0 ge_a3
  have V_a3_2 : Arv Z h2 a3 k3 .byte (2 : Int32) [(.int (nar .byte (c0.toInt8.toInt32))), (.int (0 : Int32))] (.int (0 : Int32)) := Arv.set Ar2 q2 S2 Nn2 H2 G2 (fits_nar_byte _) W2 0 rfl (Nat.le_of_ble_eq_true rfl)
  refine Goes.step (T2 := T2) (g2 := (mkF m 32 #[rv a2, iv 0, rv a3, iv 0, iv 2, iv 0, iv c0] [])) st2 ?_
  refine Goes.step (T2 := T2) (g2 := (mkF m 35 #[rv a2, iv 1, rv a3, iv 0, iv 2, iv 0, iv c0] [])) (fun _ hr => XS.iinc X2.here hx rfl (hb hby d0_32) rfl (l' := #[rv a2, iv 1, rv a3, iv 0, iv 2, iv 0, iv c0]) rfl hr) ?_
  refine Goes.step (T2 := T2) (g2 := (mkF m 38 #[rv a2, iv 1, rv a3, iv 1, iv 2, iv 0, iv c0] [])) (fun _ hr => XS.iinc X2.here hx rfl (hb hby d0_35) rfl (l' := #[rv a2, iv 1, rv a3, iv 1, iv 2, iv 0, iv c0]) rfl hr) ?_
  refine Goes.step (T2 := T2) (g2 := (mkF m 41 #[rv a2, iv 1, rv a3, iv 1, iv 2, iv 1, iv c0] [])) (fun _ hr => XS.iinc X2.here hx rfl (hb hby d0_38) rfl (l' := #[rv a2, iv 1, rv a3, iv 1, iv 2, iv 1, iv c0]) rfl hr) ?_
  refine Goes.step (T2 := T2) (g2 := (mkF m 3 #[rv a2, iv 1, rv a3, iv 1, iv 2, iv 1, iv c0] [])) (fun _ hr => XS.goto X2.here hx rfl (pc0 := 41) (pc' := 3) rfl (hb hby d0_41) (by decide) (by decide) hr) ?_
  refine Goes.step (T2 := T2) (g2 := (mkF m 5 #[rv a2, iv 1, rv a3, iv 1, iv 2, iv 1, iv c0] [(.int (1 : Int32))])) (fun _ hr => XS.iload X2.here hx rfl (hb hby d0_3) rfl  hr) ?_
  refine Goes.step (T2 := T2) (g2 := (mkF m 7 #[rv a2, iv 1, rv a3, iv 1, iv 2, iv 1, iv c0] [(.int (2 : Int32)), (.int (1 : Int32))])) (fun _ hr => XS.iload X2.here hx rfl (hb hby d0_5) rfl  hr) ?_
  refine Goes.step (T2 := T2) (g2 := (mkF m 10 #[rv a2, iv 1, rv a3, iv 1, iv 2, iv 1, iv c0] [])) (fun _ hr => XS.icmpNo X2.here hx rfl (hb hby d0_7) rfl (tlt (by decide : (1 : Int32) < (2 : Int32))).2.1 hr) ?_
  refine Goes.step (T2 := T2) (g2 := (mkF m 11 #[rv a2, iv 1, rv a3, iv 1, iv 2, iv 1, iv c0] [(.ref a2)])) (fun _ hr => XS.aloadN X2.here hx rfl (hb hby d0_10) rfl rfl hr) ?_
  refine Goes.step (T2 := T2) (g2 := (mkF m 12 #[rv a2, iv 1, rv a3, iv 1, iv 2, iv 1, iv c0] [(.int (1 : Int32)), (.ref a2)])) (fun _ hr => XS.iloadN X2.here hx rfl (hb hby d0_11) rfl  hr) ?_
  obtain ⟨cl3, Ar3, q3, S3, Nn3, H3, G3⟩ := id V_a2_2
  have hin3 : ¬ ((1 : Int32) < 0 ∨ cl3.slots.size ≤ ((1 : Int32)).toNatClampNeg) := inb_of S3 ⟨by decide, by decide⟩
  refine Goes.step (T2 := T2) (g2 := (mkF m 13 #[rv a2, iv 1, rv a3, iv 1, iv 2, iv 1, iv c0] [(.int c1)])) (X2.caload hx (j := (1 : Int32)) (v := (.int c1)) (own_at e2 Ar3.1) (State.isArrayOf_alike hZ.alike Ar3.2.1) Ar3.2.2 hin3 (H3.at hin3 rfl) (g := (mkF m 12 #[rv a2, iv 1, rv a3, iv 1, iv 2, iv 1, iv c0] [(.int (1 : Int32)), (.ref a2)])) rfl rfl (hb hby d0_12)) ?_
  refine Goes.step (T2 := T2) (g2 := (mkF m 15 #[rv a2, iv 1, rv a3, iv 1, iv 2, iv 1, iv c1] [])) (fun _ hr => XS.istore X2.here hx rfl (hb hby d0_13) rfl (l' := #[rv a2, iv 1, rv a3, iv 1, iv 2, iv 1, iv c1]) rfl hr) ?_
  refine Goes.step (T2 := T2) (g2 := (mkF m 17 #[rv a2, iv 1, rv a3, iv 1, iv 2, iv 1, iv c1] [(.int c1)])) (fun _ hr => XS.iload X2.here hx rfl (hb hby d0_15) rfl  hr) ?_
  refine Goes.step (T2 := T2) (g2 := (mkF m 20 #[rv a2, iv 1, rv a3, iv 1, iv 2, iv 1, iv c1] [(.int (255 : Int32)), (.int c1)])) (fun _ hr => XS.sipush X2.here hx rfl (hb hby d0_17) hr) ?_
  refine Goes.step (T2 := T2) (g2 := (mkF m 26 #[rv a2, iv 1, rv a3, iv 1, iv 2, iv 1, iv c1] [])) (fun _ hr => XS.icmpYes X2.here hx rfl (pc0 := 20) (pc' := 26) rfl (hb hby d0_20) rfl (flt (hlow1 : ¬ ((255 : Int32) < c1))).2.2.2 (by decide) (by decide) hr) ?_
  refine Goes.step (T2 := T2) (g2 := (mkF m 27 #[rv a2, iv 1, rv a3, iv 1, iv 2, iv 1, iv c1] [(.ref a3)])) (fun _ hr => XS.aloadN X2.here hx rfl (hb hby d0_26) rfl rfl hr) ?_
  refine Goes.step (T2 := T2) (g2 := (mkF m 28 #[rv a2, iv 1, rv a3, iv 1, iv 2, iv 1, iv c1] [(.int (1 : Int32)), (.ref a3)])) (fun _ hr => XS.iloadN X2.here hx rfl (hb hby d0_27) rfl  hr) ?_
  refine Goes.step (T2 := T2) (g2 := (mkF m 30 #[rv a2, iv 1, rv a3, iv 1, iv 2, iv 1, iv c1] [(.int c1), (.int (1 : Int32)), (.ref a3)])) (fun _ hr => XS.iload X2.here hx rfl (hb hby d0_28) rfl  hr) ?_
  refine Goes.step (T2 := T2) (g2 := (mkF m 31 #[rv a2, iv 1, rv a3, iv 1, iv 2, iv 1, iv c1] [(.int (c1.toInt8.toInt32)), (.int (1 : Int32)), (.ref a3)])) (fun _ hr => Jvm.Free.XT.i2b X2.here hx rfl (hb hby d0_30) rfl hr) ?_
  obtain ⟨cl4, Ar4, q4, S4, Nn4, H4, G4⟩ := id V_a3_2
  have hin4 : ¬ ((1 : Int32) < 0 ∨ cl4.slots.size ≤ ((1 : Int32)).toNatClampNeg) := inb_of S4 ⟨by decide, by decide⟩
  obtain ⟨T4, h4, X4, e4, W4, st4⟩ := stB X2 hx hZ e2 Ar4 (j := (1 : Int32)) hin4 (g := (mkF m 31 #[rv a2, iv 1, rv a3, iv 1, iv 2, iv 1, iv c1] [(.int (c1.toInt8.toInt32)), (.int (1 : Int32)), (.ref a3)])) rfl rfl (hb hby d0_31)
  have V_a2_4 : Arv Z h4 a2 k2 .char (2 : Int32) [(.int c0), (.int c1)] (.int (0 : Int32)) := V_a2_2.other W4 ne_a2_a3
  have K4 : Keep h0 h4 [a3] := K2.wr W4 (Or.inl (List.mem_of_getElem? (i := 0) rfl))
  have N4 := Fr.snoc X4 N2 ge_a3
  have V_a3_4 : Arv Z h4 a3 k3 .byte (2 : Int32) [(.int (nar .byte (c0.toInt8.toInt32))), (.int (nar .byte (c1.toInt8.toInt32)))] (.int (0 : Int32)) := Arv.set Ar4 q4 S4 Nn4 H4 G4 (fits_nar_byte _) W4 1 rfl (Nat.le_of_ble_eq_true rfl)
  refine Goes.step (T2 := T4) (g2 := (mkF m 32 #[rv a2, iv 1, rv a3, iv 1, iv 2, iv 1, iv c1] [])) st4 ?_
  refine Goes.step (T2 := T4) (g2 := (mkF m 35 #[rv a2, iv 2, rv a3, iv 1, iv 2, iv 1, iv c1] [])) (fun _ hr => XS.iinc X4.here hx rfl (hb hby d0_32) rfl (l' := #[rv a2, iv 2, rv a3, iv 1, iv 2, iv 1, iv c1]) rfl hr) ?_
  refine Goes.step (T2 := T4) (g2 := (mkF m 38 #[rv a2, iv 2, rv a3, iv 2, iv 2, iv 1, iv c1] [])) (fun _ hr => XS.iinc X4.here hx rfl (hb hby d0_35) rfl (l' := #[rv a2, iv 2, rv a3, iv 2, iv 2, iv 1, iv c1]) rfl hr) ?_
  refine Goes.step (T2 := T4) (g2 := (mkF m 41 #[rv a2, iv 2, rv a3, iv 2, iv 2, iv 2, iv c1] [])) (fun _ hr => XS.iinc X4.here hx rfl (hb hby d0_38) rfl (l' := #[rv a2, iv 2, rv a3, iv 2, iv 2, iv 2, iv c1]) rfl hr) ?_
  refine Goes.step (T2 := T4) (g2 := (mkF m 3 #[rv a2, iv 2, rv a3, iv 2, iv 2, iv 2, iv c1] [])) (fun _ hr => XS.goto X4.here hx rfl (pc0 := 41) (pc' := 3) rfl (hb hby d0_41) (by decide) (by decide) hr) ?_
  refine Goes.step (T2 := T4) (g2 := (mkF m 5 #[rv a2, iv 2, rv a3, iv 2, iv 2, iv 2, iv c1] [(.int (2 : Int32))])) (fun _ hr => XS.iload X4.here hx rfl (hb hby d0_3) rfl  hr) ?_
  refine Goes.step (T2 := T4) (g2 := (mkF m 7 #[rv a2, iv 2, rv a3, iv 2, iv 2, iv 2, iv c1] [(.int (2 : Int32)), (.int (2 : Int32))])) (fun _ hr => XS.iload X4.here hx rfl (hb hby d0_5) rfl  hr) ?_
  refine Goes.step (T2 := T4) (g2 := (mkF m 44 #[rv a2, iv 2, rv a3, iv 2, iv 2, iv 2, iv c1] [])) (fun _ hr => XS.icmpYes X4.here hx rfl (pc0 := 7) (pc' := 44) rfl (hb hby d0_7) rfl (flt (by decide : ¬ ((2 : Int32) < (2 : Int32)))).2.1 (by decide) (by decide) hr) ?_
  refine Goes.step (T2 := T4) (g2 := (mkF m 46 #[rv a2, iv 2, rv a3, iv 2, iv 2, iv 2, iv c1] [(.int (2 : Int32))])) (fun _ hr => XS.iload X4.here hx rfl (hb hby d0_44) rfl  hr) ?_
  exact Goes.ret (v := some (.int (2 : Int32))) X4 (by decide) (by decide) (fun h => by rw [Bd.returns] at h; cases h) (by show Q_rm_cmp2 Z a2 k2 a3 k3 c0 c1 h0 n0 _ T4.heap _; rw [e4]; exact ⟨rfl, N4, K4, V_a3_4⟩) (fun fs hr => retOut X4 hx Bd.returns rfl (Or.inl ⟨rfl, Or.inl rfl, _, rfl⟩) (hb hby d0_46) hr)
theorem d1_0 : decode jdk_52_method_16_code 0 = .ok (.iload_n 2, 1) := by decide +kernel
theorem d1_1 : decode jdk_52_method_16_code 1 = .ok (.newarray .byte, 2) := by decide +kernel
theorem d1_3 : decode jdk_52_method_16_code 3 = .ok (.astore_n 3, 1) := by decide +kernel
theorem d1_4 : decode jdk_52_method_16_code 4 = .ok (.aload_n 0, 1) := by decide +kernel
theorem d1_5 : decode jdk_52_method_16_code 5 = .ok (.iload_n 1, 1) := by decide +kernel
theorem d1_6 : decode jdk_52_method_16_code 6 = .ok (.aload_n 3, 1) := by decide +kernel
theorem d1_7 : decode jdk_52_method_16_code 7 = .ok (.iconst 0, 1) := by decide +kernel
theorem d1_8 : decode jdk_52_method_16_code 8 = .ok (.iload_n 2, 1) := by decide +kernel
theorem d1_9 : decode jdk_52_method_16_code 9 = .ok (.invokestatic 115, 3) := by decide +kernel
theorem d1_12 : decode jdk_52_method_16_code 12 = .ok (.istore 4, 2) := by decide +kernel
theorem d1_14 : decode jdk_52_method_16_code 14 = .ok (.iload 4, 2) := by decide +kernel
theorem d1_16 : decode jdk_52_method_16_code 16 = .ok (.iload_n 2, 1) := by decide +kernel
theorem d1_17 : decode jdk_52_method_16_code 17 = .ok (.if_icmp .eq 40, 3) := by decide +kernel
theorem d1_57 : decode jdk_52_method_16_code 57 = .ok (.aload_n 3, 1) := by decide +kernel
theorem d1_58 : decode jdk_52_method_16_code 58 = .ok (.areturn, 1) := by decide +kernel
def Q_rm_cmpn2 (Z : State) (a2 : Addr) (k2 : ClassId) (c0 : Int32) (c1 : Int32) (h0 : Heap) (n0 : Nat) (v : Option Value) (h : Heap) (L : List Loc) : Prop := ∃ w : Addr, ∃ kw : ClassId, v = some (.ref w) ∧ Fr n0 L ∧ Keep h0 h [] ∧ h0.size ≤ w ∧ Arv Z h w kw .byte (2 : Int32) [(.int (nar .byte (c0.toInt8.toInt32))), (.int (nar .byte (c1.toInt8.toInt32)))] (.int (0 : Int32))
set_option maxRecDepth 65536 in
set_option maxHeartbeats 40000000 in
theorem rm_cmpn2 (l : Launch) (Z : State) (a0 : Array Value) (hw : ∀ d ∈ tables_1, d.before a0 Z = true) (ws : List Jvm.Cond) (a2 : Addr) (k2 : ClassId) (c0 : Int32) (c1 : Int32) (h0 : Heap) (n0 : Nat) (Z0 : n0 ≤ h0.size) (O0 : Old Z n0 h0) (V_a2 : Arv Z h0 a2 k2 .char (2 : Int32) [(.int c0), (.int c1)] (.int (0 : Int32))) (hlow0 : ¬ ((255 : Int32) < c0)) (hlow1 : ¬ ((255 : Int32) < c1)) :
    MetFree l Y1 (head1 (Jvm.Cond.code Y1 jdk_52_method_16_code 6 (some (.array .byte)) :: ws) ({ frames := 1, cells := 1, slots := 2, locals := 18 } : Room)) (fun a U => a = #[(.ref a2), (.int (0 : Int32)), (.int (2 : Int32))] ∧ Z.Warmed39 U.vm ∧ U.heap = h0) (fun _ _ _ _ _ => True) (fun _ U o U' => ∃ v L, o = .returned v ∧ Q_rm_cmpn2 Z a2 k2 c0 c1 h0 n0 v U'.heap L ∧ FrameEnd U o U' L ({ frames := 1, cells := 1, slots := 2, locals := 18 } : Room).cells ({ frames := 1, cells := 1, slots := 2, locals := 18 } : Room).slots) := by
  refine MetFree.of_bodySF (plainFor_of_name pn_java_lang_StringUTF16) hisR ?_
  intro p e s m args below meth c s₁ Bd hml0 hP hK
  obtain ⟨rfl, hZ, hh⟩ := hP
  have hx := Bd.exec
  have hby := Bd.bytes
  have hml : c.maxLocals = 6 := hml0
  have hown : s.vm.findClass "java/lang/StringUTF16" = some m.cls := findClass_of_methodNamed Bd.named
  have hnm := (name_of_methodNamed Bd.named Bd.method).1
  have X0 : Stand p l e ({ frames := 1, cells := 1, slots := 2, locals := 18 } : Room) s m #[(.ref a2), (.int (0 : Int32)), (.int (2 : Int32))] below meth c s₁ [] 0 0 := Stand.of_body Bd
  have e0 : s₁.heap = h0 := by rw [← hh, Bd.state]; rfl
  have N0 := Fr.nil n0
  refine Goes.out (l := l) (c := c) (R := ({ frames := 1, cells := 1, slots := 2, locals := 18 } : Room)) (Q := Q_rm_cmpn2 Z a2 k2 c0 c1 h0 n0) Bd.notSynchronized ?_
  refine Goes.cast (g2 := mkF m 0 #[rv a2, iv 0, iv 2, .unset, .unset, .unset] []) (by first | (simp [entryFrame, mkF, argsToLocals, Value.category]; done) | rfl) ?_
  have K0 : Keep h0 h0 [] := Keep.refl h0 _
  have hws : ∀ x ∈ ([] : List Addr), n0 ≤ x := all0
  refine Goes.step (T2 := s₁) (g2 := (mkF m 1 #[rv a2, iv 0, iv 2, .unset, .unset, .unset] [(.int (2 : Int32))])) (fun _ hr => XS.iloadN X0.here hx rfl (hb hby d1_0) rfl  hr) ?_
  obtain ⟨T5, h5, k5, X5, e5, E5, A5, Ax5, st5⟩ := newPE X0 hx hZ (tw hw 19 rfl) e0 (g := (mkF m 1 #[rv a2, iv 0, iv 2, .unset, .unset, .unset] [(.int (2 : Int32))])) rfl (hb hby d1_1) rfl (by decide) (cap := 2) (by decide) (by decide) (by decide) (by decide) (ad := "[B") (by decide)
  obtain ⟨b5, g5⟩ : ∃ z, z = h0.size := ⟨_, rfl⟩
  rw [← g5] at A5 Ax5 st5
  have sz_b5 : h0.size ≤ b5 := Nat.le_trans K0.1 (Nat.le_of_eq g5.symm)
  have ge_b5 : n0 ≤ b5 := Nat.le_trans Z0 sz_b5
  have V_a2_5 : Arv Z h5 a2 k2 .char (2 : Int32) [(.int c0), (.int c1)] (.int (0 : Int32)) := V_a2.ext E5
  have K5 : Keep h0 h5 [] := K0.ext E5
  have V_b5_5 : Arv Z h5 b5 k5 .byte (2 : Int32) [] (.int (0 : Int32)) := Arv.new A5 (by decide)
  refine Goes.step (T2 := T5) (g2 := (mkF m 3 #[rv a2, iv 0, iv 2, .unset, .unset, .unset] [(.ref b5)])) st5 ?_
  have V_b5_p6 : Arv Z h5 b5 k5 .byte (2 : Int32) [(.int (0 : Int32)), (.int (0 : Int32))] (.int (0 : Int32)) := V_b5_5.pad (pad_rep [] (.int (0 : Int32)) 2)
  refine Goes.step (T2 := T5) (g2 := (mkF m 4 #[rv a2, iv 0, iv 2, rv b5, .unset, .unset] [])) (fun _ hr => XS.astoreN X5.here hx rfl (hb hby d1_3) rfl rfl (l' := #[rv a2, iv 0, iv 2, rv b5, .unset, .unset]) rfl hr) ?_
  refine Goes.step (T2 := T5) (g2 := (mkF m 5 #[rv a2, iv 0, iv 2, rv b5, .unset, .unset] [(.ref a2)])) (fun _ hr => XS.aloadN X5.here hx rfl (hb hby d1_4) rfl rfl hr) ?_
  refine Goes.step (T2 := T5) (g2 := (mkF m 6 #[rv a2, iv 0, iv 2, rv b5, .unset, .unset] [(.int (0 : Int32)), (.ref a2)])) (fun _ hr => XS.iloadN X5.here hx rfl (hb hby d1_5) rfl  hr) ?_
  refine Goes.step (T2 := T5) (g2 := (mkF m 7 #[rv a2, iv 0, iv 2, rv b5, .unset, .unset] [(.ref b5), (.int (0 : Int32)), (.ref a2)])) (fun _ hr => XS.aloadN X5.here hx rfl (hb hby d1_6) rfl rfl hr) ?_
  refine Goes.step (T2 := T5) (g2 := (mkF m 8 #[rv a2, iv 0, iv 2, rv b5, .unset, .unset] [(.int (0 : Int32)), (.ref b5), (.int (0 : Int32)), (.ref a2)])) (fun _ hr => XS.iconst X5.here hx rfl (hb hby d1_7) hr) ?_
  refine Goes.step (T2 := T5) (g2 := (mkF m 9 #[rv a2, iv 0, iv 2, rv b5, .unset, .unset] [(.int (2 : Int32)), (.int (0 : Int32)), (.ref b5), (.int (0 : Int32)), (.ref a2)])) (fun _ hr => XS.iloadN X5.here hx rfl (hb hby d1_8) rfl  hr) ?_
  have Zs7 : n0 ≤ h5.size := Nat.le_trans Z0 K5.1
  obtain ⟨_, _, ⟨T8, L8, k8, n8⟩, -, X8, ⟨Lc8, hQ8, l8, y8, z8⟩, st8⟩ := Jvm.LawKit.callS X5 hx (y := Y0) hown (mvT hZ (tw hw 20 rfl)) (mvT hZ (tw hw 21 rfl)) (mvT hZ (tw hw 17 rfl)) (mvT hZ (tw hw 22 rfl)) (by decide) (backOf (W := 0) (rm_cmp2 l Z a0 hw [] a2 k2 b5 k5 c0 c1 h5 n0 Zs7 (Old.keep O0 K5 hws) V_a2_5 V_b5_p6 ge_b5 (Nat.ne_of_lt (Nat.lt_of_lt_of_le V_a2.lt (Nat.le_of_eq g5.symm))) hlow0 hlow1) hZ (tw hw 22 rfl) (tw hw 17 rfl) (by decide) (by decide)) (g := (mkF m 9 #[rv a2, iv 0, iv 2, rv b5, .unset, .unset] [(.int (2 : Int32)), (.int (0 : Int32)), (.ref b5), (.int (0 : Int32)), (.ref a2)])) rfl (by rw [hml]; rfl) (argsL := [(.ref a2), (.int (0 : Int32)), (.ref b5), (.int (0 : Int32)), (.int (2 : Int32))]) (rest := []) (lenOf pd_0 rfl) rfl (by show 2 * 0 + _ ≤ _; exact Nat.le_of_eq rfl) (hb hby d1_9) (fun _ _ => ⟨rfl, e5, (by decide : 1 + 0 ≤ _), (by decide : 2 + 0 ≤ _)⟩)
  dsimp only [Pt.U, Pt.locs, Pt.cells, Pt.slots] at X8 l8 y8 z8 st8 hQ8
  subst l8 y8 z8
  obtain ⟨rfl, N8q, Kc8, P8_0⟩ := hQ8
  have N8 := Fr.app N0 N8q
  have V_a2_8 : Arv Z T8.heap a2 k2 .char (2 : Int32) [(.int c0), (.int c1)] (.int (0 : Int32)) := V_a2_5.keep Kc8 (ninS (Nat.ne_of_lt (Nat.lt_of_lt_of_le V_a2.lt (Nat.le_of_eq g5.symm))) nin0)
  have E_b5_8 : Exa Z T8.heap b5 "[B" := Ax5.keep Kc8
  have K8 : Keep h0 T8.heap [] := K5.trans Kc8 (allS (Or.inr sz_b5) all0)
  have V_b5_8c : Arv Z T8.heap b5 k5 .byte (2 : Int32) [(.int (nar .byte (c0.toInt8.toInt32))), (.int (nar .byte (c1.toInt8.toInt32)))] (.int (0 : Int32)) := P8_0
  refine Goes.step (T2 := T8) (g2 := (mkF m 12 #[rv a2, iv 0, iv 2, rv b5, .unset, .unset] [(.int (2 : Int32))])) st8 ?_
  refine Goes.step (T2 := T8) (g2 := (mkF m 14 #[rv a2, iv 0, iv 2, rv b5, iv 2, .unset] [])) (fun _ hr => XS.istore X8.here hx rfl (hb hby d1_12) rfl (l' := #[rv a2, iv 0, iv 2, rv b5, iv 2, .unset]) rfl hr) ?_
  refine Goes.step (T2 := T8) (g2 := (mkF m 16 #[rv a2, iv 0, iv 2, rv b5, iv 2, .unset] [(.int (2 : Int32))])) (fun _ hr => XS.iload X8.here hx rfl (hb hby d1_14) rfl  hr) ?_
  refine Goes.step (T2 := T8) (g2 := (mkF m 17 #[rv a2, iv 0, iv 2, rv b5, iv 2, .unset] [(.int (2 : Int32)), (.int (2 : Int32))])) (fun _ hr => XS.iloadN X8.here hx rfl (hb hby d1_16) rfl  hr) ?_
  refine Goes.step (T2 := T8) (g2 := (mkF m 57 #[rv a2, iv 0, iv 2, rv b5, iv 2, .unset] [])) (fun _ hr => XS.icmpYes X8.here hx rfl (pc0 := 17) (pc' := 57) rfl (hb hby d1_17) rfl (teq (by decide : (2 : Int32) = (2 : Int32))).1 (by decide) (by decide) hr) ?_
  refine Goes.step (T2 := T8) (g2 := (mkF m 58 #[rv a2, iv 0, iv 2, rv b5, iv 2, .unset] [(.ref b5)])) (fun _ hr => XS.aloadN X8.here hx rfl (hb hby d1_57) rfl rfl hr) ?_
  exact Goes.ret (v := some (.ref b5)) X8 (by decide) (by decide) (fun h => by rw [Bd.returns] at h; cases h) (by show Q_rm_cmpn2 Z a2 k2 c0 c1 h0 n0 _ T8.heap _; exact ⟨b5, k5, rfl, N8, K8, sz_b5, V_b5_8c⟩) (fun fs hr => retOut X8 hx Bd.returns rfl (Or.inr (Or.inr (Or.inr (Or.inr ⟨rfl, rfl, rfl⟩)))) (hb hby d1_58) hr)
theorem d2_0 : decode jdk_52_method_15_code 0 = .ok (.iload_n 1, 1) := by decide +kernel
theorem d2_1 : decode jdk_52_method_15_code 1 = .ok (.aload_n 0, 1) := by decide +kernel
theorem d2_2 : decode jdk_52_method_15_code 2 = .ok (.arraylength, 1) := by decide +kernel
theorem d2_3 : decode jdk_52_method_15_code 3 = .ok (.isub, 1) := by decide +kernel
theorem d2_4 : decode jdk_52_method_15_code 4 = .ok (.bipush 31, 2) := by decide +kernel
theorem d2_6 : decode jdk_52_method_15_code 6 = .ok (.iushr, 1) := by decide +kernel
theorem d2_7 : decode jdk_52_method_15_code 7 = .ok (.i2b, 1) := by decide +kernel
theorem d2_8 : decode jdk_52_method_15_code 8 = .ok (.ireturn, 1) := by decide +kernel
def Q_rm_cod2 (Z : State) (a2 : Addr) (k2 : ClassId) (c0 : Int32) (c1 : Int32) (h0 : Heap) (n0 : Nat) (v : Option Value) (h : Heap) (L : List Loc) : Prop := v = some (.int (0 : Int32)) ∧ Fr n0 L ∧ h = h0
set_option maxRecDepth 65536 in
set_option maxHeartbeats 40000000 in
theorem rm_cod2 (l : Launch) (Z : State) (a0 : Array Value) (hw : ∀ d ∈ tables_1, d.before a0 Z = true) (ws : List Jvm.Cond) (a2 : Addr) (k2 : ClassId) (c0 : Int32) (c1 : Int32) (h0 : Heap) (n0 : Nat) (Z0 : n0 ≤ h0.size) (O0 : Old Z n0 h0) (V_a2 : Arv Z h0 a2 k2 .byte (2 : Int32) [(.int (nar .byte (c0.toInt8.toInt32))), (.int (nar .byte (c1.toInt8.toInt32)))] (.int (0 : Int32))) :
    MetFree l Y2 (head1 (Jvm.Cond.code Y2 jdk_52_method_15_code 2 (some .byte) :: ws) ({ frames := 0, cells := 0, slots := 0, locals := 0 } : Room)) (fun a U => a = #[(.ref a2), (.int (2 : Int32))] ∧ Z.Warmed39 U.vm ∧ U.heap = h0) (fun _ _ _ _ _ => True) (fun _ U o U' => ∃ v L, o = .returned v ∧ Q_rm_cod2 Z a2 k2 c0 c1 h0 n0 v U'.heap L ∧ FrameEnd U o U' L ({ frames := 0, cells := 0, slots := 0, locals := 0 } : Room).cells ({ frames := 0, cells := 0, slots := 0, locals := 0 } : Room).slots) := by
  refine MetFree.of_bodySF (plainFor_of_name pn_java_lang_StringUTF16) hisR ?_
  intro p e s m args below meth c s₁ Bd hml0 hP hK
  obtain ⟨rfl, hZ, hh⟩ := hP
  have hx := Bd.exec
  have hby := Bd.bytes
  have hml : c.maxLocals = 2 := hml0
  have hown : s.vm.findClass "java/lang/StringUTF16" = some m.cls := findClass_of_methodNamed Bd.named
  have hnm := (name_of_methodNamed Bd.named Bd.method).1
  have X0 : Stand p l e ({ frames := 0, cells := 0, slots := 0, locals := 0 } : Room) s m #[(.ref a2), (.int (2 : Int32))] below meth c s₁ [] 0 0 := Stand.of_body Bd
  have e0 : s₁.heap = h0 := by rw [← hh, Bd.state]; rfl
  have N0 := Fr.nil n0
  refine Goes.out (l := l) (c := c) (R := ({ frames := 0, cells := 0, slots := 0, locals := 0 } : Room)) (Q := Q_rm_cod2 Z a2 k2 c0 c1 h0 n0) Bd.notSynchronized ?_
  refine Goes.cast (g2 := mkF m 0 #[rv a2, iv 2] []) (by first | (simp [entryFrame, mkF, argsToLocals, Value.category]; done) | rfl) ?_
  have K0 : Keep h0 h0 [] := Keep.refl h0 _
  have hws : ∀ x ∈ ([] : List Addr), n0 ≤ x := all0
  refine Goes.step (T2 := s₁) (g2 := (mkF m 1 #[rv a2, iv 2] [(.int (2 : Int32))])) (fun _ hr => XS.iloadN X0.here hx rfl (hb hby d2_0) rfl  hr) ?_
  refine Goes.step (T2 := s₁) (g2 := (mkF m 2 #[rv a2, iv 2] [(.ref a2), (.int (2 : Int32))])) (fun _ hr => XS.aloadN X0.here hx rfl (hb hby d2_1) rfl rfl hr) ?_
  obtain ⟨cl9, Ar9, -, S9, Nn9, -, -⟩ := id V_a2
  refine Goes.step (T2 := s₁) (g2 := (mkF m 3 #[rv a2, iv 2] [(.int (2 : Int32)), (.int (2 : Int32))])) (fun t hr => X0.arraylength hx (own_at e0 Ar9.1) (State.isArrayOf_alike hZ.alike Ar9.2.1) (g := (mkF m 2 #[rv a2, iv 2] [(.ref a2), (.int (2 : Int32))])) rfl rfl (hb hby d2_2) t (by rw [len_of S9 Nn9]; exact hr)) ?_
  refine Goes.step (T2 := s₁) (g2 := (mkF m 4 #[rv a2, iv 2] [(.int (0 : Int32))])) (fun _ hr => XS.isub X0.here hx rfl (hb hby d2_3) rfl hr) ?_
  refine Goes.step (T2 := s₁) (g2 := (mkF m 6 #[rv a2, iv 2] [(.int (31 : Int32)), (.int (0 : Int32))])) (fun _ hr => XS.bipush X0.here hx rfl (hb hby d2_4) hr) ?_
  refine Goes.step (T2 := s₁) (g2 := (mkF m 7 #[rv a2, iv 2] [(.int (0 : Int32))])) (fun _ hr => Jvm.Free.XT.iushr X0.here hx rfl (hb hby d2_6) rfl hr) ?_
  refine Goes.step (T2 := s₁) (g2 := (mkF m 8 #[rv a2, iv 2] [(.int (0 : Int32))])) (fun _ hr => Jvm.Free.XT.i2b X0.here hx rfl (hb hby d2_7) rfl hr) ?_
  exact Goes.ret (v := some (.int (0 : Int32))) X0 (by decide) (by decide) (fun h => by rw [Bd.returns] at h; cases h) ⟨rfl, N0, e0⟩ (fun fs hr => retN X0 hx (t := .byte) Bd.returns (by simp) (hb hby d2_8) hr)
theorem d3_0 : decode jdk_42_method_149_code 0 = .ok (.aload_n 0, 1) := by decide +kernel
theorem d3_1 : decode jdk_42_method_149_code 1 = .ok (.invokespecial 1, 3) := by decide +kernel
theorem d3_4 : decode jdk_42_method_149_code 4 = .ok (.iload_n 3, 1) := by decide +kernel
theorem d3_5 : decode jdk_42_method_149_code 5 = .ok (.ifCond .ne 22, 3) := by decide +kernel
theorem d3_27 : decode jdk_42_method_149_code 27 = .ok (.getstatic 38, 3) := by decide +kernel
theorem d3_30 : decode jdk_42_method_149_code 30 = .ok (.ifCond .eq 28, 3) := by decide +kernel
theorem d3_33 : decode jdk_42_method_149_code 33 = .ok (.aload_n 1, 1) := by decide +kernel
theorem d3_34 : decode jdk_42_method_149_code 34 = .ok (.iload_n 2, 1) := by decide +kernel
theorem d3_35 : decode jdk_42_method_149_code 35 = .ok (.iload_n 3, 1) := by decide +kernel
theorem d3_36 : decode jdk_42_method_149_code 36 = .ok (.invokestatic 177, 3) := by decide +kernel
theorem d3_39 : decode jdk_42_method_149_code 39 = .ok (.astore 5, 2) := by decide +kernel
theorem d3_41 : decode jdk_42_method_149_code 41 = .ok (.aload_n 0, 1) := by decide +kernel
theorem d3_42 : decode jdk_42_method_149_code 42 = .ok (.aload 5, 2) := by decide +kernel
theorem d3_44 : decode jdk_42_method_149_code 44 = .ok (.iload_n 3, 1) := by decide +kernel
theorem d3_45 : decode jdk_42_method_149_code 45 = .ok (.invokestatic 47, 3) := by decide +kernel
theorem d3_48 : decode jdk_42_method_149_code 48 = .ok (.putfield 15, 3) := by decide +kernel
theorem d3_51 : decode jdk_42_method_149_code 51 = .ok (.aload_n 0, 1) := by decide +kernel
theorem d3_52 : decode jdk_42_method_149_code 52 = .ok (.aload 5, 2) := by decide +kernel
theorem d3_54 : decode jdk_42_method_149_code 54 = .ok (.putfield 9, 3) := by decide +kernel
theorem d3_57 : decode jdk_42_method_149_code 57 = .ok (.return_, 1) := by decide +kernel
theorem pn_java_lang_String : plainName "java/lang/String" = true := by first | (simp [plainName, overriddenIn]; done) | decide +kernel
def Q_rm_str4_2 (Z : State) (a1 : Addr) (a2 : Addr) (k2 : ClassId) (cs : Int32) (c0 : Int32) (c1 : Int32) (h0 : Heap) (n0 : Nat) (v : Option Value) (h : Heap) (L : List Loc) : Prop := v = none ∧ Fr n0 L ∧ Keep h0 h [a1]
set_option maxRecDepth 65536 in
set_option maxHeartbeats 40000000 in
theorem rm_str4_2 (l : Launch) (Z : State) (a0 : Array Value) (hw : ∀ d ∈ tables_1, d.before a0 Z = true) (ws : List Jvm.Cond) (a1 : Addr) (a2 : Addr) (k2 : ClassId) (cs : Int32) (c0 : Int32) (c1 : Int32) (h0 : Heap) (n0 : Nat) (Z0 : n0 ≤ h0.size) (O0 : Old Z n0 h0) (E_a1 : Exa Z h0 a1 "java/lang/String") (F_a1_coder : Fld Z h0 a1 "java/lang/String" "coder" "B" (.int (0 : Int32))) (F_a1_value : Fld Z h0 a1 "java/lang/String" "value" "[B" .null) (V_a2 : Arv Z h0 a2 k2 .char (2 : Int32) [(.int c0), (.int c1)] (.int (0 : Int32))) (S_String_COMPACT_STRINGS_old : Sta Z Z.heap "java/lang/String" "COMPACT_STRINGS" "Z" (.int cs)) (ge_a1 : n0 ≤ a1) (ne_a1_a2 : a1 ≠ a2) (hcs : ¬ (cs = (0 : Int32))) (hlow0 : ¬ ((255 : Int32) < c0)) (hlow1 : ¬ ((255 : Int32) < c1)) :
    MetFree l Y3 (head1 (Jvm.Cond.code Y3 jdk_42_method_149_code 6 none :: ws) ({ frames := 2, cells := 1, slots := 2, locals := 35 } : Room)) (fun a U => a = #[(.ref a1), (.ref a2), (.int (0 : Int32)), (.int (2 : Int32)), .null] ∧ Z.Warmed39 U.vm ∧ U.heap = h0) (fun _ _ _ _ _ => True) (fun _ U o U' => ∃ v L, o = .returned v ∧ Q_rm_str4_2 Z a1 a2 k2 cs c0 c1 h0 n0 v U'.heap L ∧ FrameEnd U o U' L ({ frames := 2, cells := 1, slots := 2, locals := 35 } : Room).cells ({ frames := 2, cells := 1, slots := 2, locals := 35 } : Room).slots) := by
  refine MetFree.of_bodySF (plainFor_of_name pn_java_lang_String) hisR ?_
  intro p e s m args below meth c s₁ Bd hml0 hP hK
  obtain ⟨rfl, hZ, hh⟩ := hP
  have hx := Bd.exec
  have hby := Bd.bytes
  have hml : c.maxLocals = 6 := hml0
  have hown : s.vm.findClass "java/lang/String" = some m.cls := findClass_of_methodNamed Bd.named
  have hnm := (name_of_methodNamed Bd.named Bd.method).1
  have X0 : Stand p l e ({ frames := 2, cells := 1, slots := 2, locals := 35 } : Room) s m #[(.ref a1), (.ref a2), (.int (0 : Int32)), (.int (2 : Int32)), .null] below meth c s₁ [] 0 0 := Stand.of_body Bd
  have e0 : s₁.heap = h0 := by rw [← hh, Bd.state]; rfl
  have N0 := Fr.nil n0
  refine Goes.out (l := l) (c := c) (R := ({ frames := 2, cells := 1, slots := 2, locals := 35 } : Room)) (Q := Q_rm_str4_2 Z a1 a2 k2 cs c0 c1 h0 n0) Bd.notSynchronized ?_
  refine Goes.cast (g2 := mkF m 0 #[rv a1, rv a2, iv 0, iv 2, .val .null, .unset] []) (by first | (simp [entryFrame, mkF, argsToLocals, Value.category]; done) | rfl) ?_
  have K0 : Keep h0 h0 [a1] := Keep.refl h0 _
  have hws : ∀ x ∈ [a1], n0 ≤ x := (allS ge_a1 all0)
  refine Goes.step (T2 := s₁) (g2 := (mkF m 1 #[rv a1, rv a2, iv 0, iv 2, .val .null, .unset] [(.ref a1)])) (fun _ hr => XS.aloadN X0.here hx rfl (hb hby d3_0) rfl rfl hr) ?_
  have Zs10 : n0 ≤ h0.size := Nat.le_trans Z0 K0.1
  obtain ⟨T11, X11, e11, st11⟩ := initO X0 hx hZ hown (tw hw 11 rfl) (tw hw 12 rfl) (tw hw 13 rfl) e0 (g := (mkF m 1 #[rv a1, rv a2, iv 0, iv 2, .val .null, .unset] [(.ref a1)])) rfl (by rw [hml]; rfl) rfl (hb hby d3_1) (by decide) (W := 0) (by show 2 * 0 + _ ≤ _; exact Nat.le_of_eq rfl) (by decide)
  refine Goes.step (T2 := T11) (g2 := (mkF m 4 #[rv a1, rv a2, iv 0, iv 2, .val .null, .unset] [])) st11 ?_
  refine Goes.step (T2 := T11) (g2 := (mkF m 5 #[rv a1, rv a2, iv 0, iv 2, .val .null, .unset] [(.int (2 : Int32))])) (fun _ hr => XS.iloadN X11.here hx rfl (hb hby d3_4) rfl  hr) ?_
  refine Goes.step (T2 := T11) (g2 := (mkF m 27 #[rv a1, rv a2, iv 0, iv 2, .val .null, .unset] [])) (fun _ hr => XS.ifYes X11.here hx rfl (pc0 := 5) (pc' := 27) rfl (hb hby d3_5) rfl ((if0 _ _).trans (feq (by decide : ¬ ((2 : Int32) = (0 : Int32)))).2) (by decide) (by decide) hr) ?_
  obtain ⟨T12, X12, e12, st12⟩ := getS2 X11 hx hZ hown (host := "") (Or.inl (tw hw 14 rfl)) Via.refl e11 (S_String_COMPACT_STRINGS_old.ext (Old.keep O0 K0 hws).2) (g := (mkF m 27 #[rv a1, rv a2, iv 0, iv 2, .val .null, .unset] [])) rfl (hb hby d3_27)
  refine Goes.step (T2 := T12) (g2 := (mkF m 30 #[rv a1, rv a2, iv 0, iv 2, .val .null, .unset] [(.int cs)])) st12 ?_
  refine Goes.step (T2 := T12) (g2 := (mkF m 33 #[rv a1, rv a2, iv 0, iv 2, .val .null, .unset] [])) (fun _ hr => XS.ifNo X12.here hx rfl (hb hby d3_30) rfl ((if0 _ _).trans (feq (hcs : ¬ (cs = (0 : Int32)))).1) hr) ?_
  refine Goes.step (T2 := T12) (g2 := (mkF m 34 #[rv a1, rv a2, iv 0, iv 2, .val .null, .unset] [(.ref a2)])) (fun _ hr => XS.aloadN X12.here hx rfl (hb hby d3_33) rfl rfl hr) ?_
  refine Goes.step (T2 := T12) (g2 := (mkF m 35 #[rv a1, rv a2, iv 0, iv 2, .val .null, .unset] [(.int (0 : Int32)), (.ref a2)])) (fun _ hr => XS.iloadN X12.here hx rfl (hb hby d3_34) rfl  hr) ?_
  refine Goes.step (T2 := T12) (g2 := (mkF m 36 #[rv a1, rv a2, iv 0, iv 2, .val .null, .unset] [(.int (2 : Int32)), (.int (0 : Int32)), (.ref a2)])) (fun _ hr => XS.iloadN X12.here hx rfl (hb hby d3_35) rfl  hr) ?_
  have Zs13 : n0 ≤ h0.size := Nat.le_trans Z0 K0.1
  obtain ⟨_, _, ⟨T14, L14, k14, n14⟩, -, X14, ⟨Lc14, hQ14, l14, y14, z14⟩, st14⟩ := Jvm.LawKit.callS X12 hx (y := Y1) hown (mvT hZ (tw hw 15 rfl)) (mvT hZ (tw hw 16 rfl)) (mvT hZ (tw hw 17 rfl)) (mvT hZ (tw hw 18 rfl)) (by decide) (backOf (W := 0) (rm_cmpn2 l Z a0 hw [] a2 k2 c0 c1 h0 n0 Zs13 (Old.keep O0 K0 hws) V_a2 hlow0 hlow1) hZ (tw hw 18 rfl) (tw hw 17 rfl) (by decide) (by decide)) (g := (mkF m 36 #[rv a1, rv a2, iv 0, iv 2, .val .null, .unset] [(.int (2 : Int32)), (.int (0 : Int32)), (.ref a2)])) rfl (by rw [hml]; rfl) (argsL := [(.ref a2), (.int (0 : Int32)), (.int (2 : Int32))]) (rest := []) (lenOf pd_1 rfl) rfl (by show 2 * 0 + _ ≤ _; exact Nat.le_of_eq rfl) (hb hby d3_36) (fun _ _ => ⟨rfl, e12, (by decide : 0 + 1 ≤ _), (by decide : 0 + 2 ≤ _)⟩)
  dsimp only [Pt.U, Pt.locs, Pt.cells, Pt.slots] at X14 l14 y14 z14 st14 hQ14
  subst l14 y14 z14
  obtain ⟨w14, kw14, rfl, N14q, Kc14, P14_0, P14_1⟩ := hQ14
  have N14 := Fr.app N0 N14q
  have E_a1_14 : Exa Z T14.heap a1 "java/lang/String" := E_a1.keep Kc14
  have F_a1_coder_14 : Fld Z T14.heap a1 "java/lang/String" "coder" "B" (.int (0 : Int32)) := F_a1_coder.keep Kc14 nin0
  have F_a1_value_14 : Fld Z T14.heap a1 "java/lang/String" "value" "[B" .null := F_a1_value.keep Kc14 nin0
  have V_a2_14 : Arv Z T14.heap a2 k2 .char (2 : Int32) [(.int c0), (.int c1)] (.int (0 : Int32)) := V_a2.keep Kc14 nin0
  have K14 : Keep h0 T14.heap [a1] := K0.trans Kc14 all0
  have sz_w14 : h0.size ≤ w14 := Nat.le_trans K0.1 P14_0
  have ge_w14 : n0 ≤ w14 := Nat.le_trans Z0 sz_w14
  have V_w14_14c : Arv Z T14.heap w14 kw14 .byte (2 : Int32) [(.int (nar .byte (c0.toInt8.toInt32))), (.int (nar .byte (c1.toInt8.toInt32)))] (.int (0 : Int32)) := P14_1
  refine Goes.step (T2 := T14) (g2 := (mkF m 39 #[rv a1, rv a2, iv 0, iv 2, .val .null, .unset] [(.ref w14)])) st14 ?_
  refine Goes.step (T2 := T14) (g2 := (mkF m 41 #[rv a1, rv a2, iv 0, iv 2, .val .null, rv w14] [])) (fun _ hr => XS.astore X14.here hx rfl (hb hby d3_39) rfl rfl (l' := #[rv a1, rv a2, iv 0, iv 2, .val .null, rv w14]) rfl hr) ?_
  refine Goes.step (T2 := T14) (g2 := (mkF m 42 #[rv a1, rv a2, iv 0, iv 2, .val .null, rv w14] [(.ref a1)])) (fun _ hr => XS.aloadN X14.here hx rfl (hb hby d3_41) rfl rfl hr) ?_
  refine Goes.step (T2 := T14) (g2 := (mkF m 44 #[rv a1, rv a2, iv 0, iv 2, .val .null, rv w14] [(.ref w14), (.ref a1)])) (fun _ hr => XS.aload X14.here hx rfl (hb hby d3_42) rfl rfl hr) ?_
  refine Goes.step (T2 := T14) (g2 := (mkF m 45 #[rv a1, rv a2, iv 0, iv 2, .val .null, rv w14] [(.int (2 : Int32)), (.ref w14), (.ref a1)])) (fun _ hr => XS.iloadN X14.here hx rfl (hb hby d3_44) rfl  hr) ?_
  have Zs15 : n0 ≤ T14.heap.size := Nat.le_trans Z0 K14.1
  obtain ⟨_, _, ⟨T16, L16, k16, n16⟩, -, X16, ⟨Lc16, hQ16, l16, y16, z16⟩, st16⟩ := Jvm.LawKit.callS X14 hx (y := Y2) hown (mvT hZ (tw hw 23 rfl)) (mvT hZ (tw hw 24 rfl)) (mvT hZ (tw hw 17 rfl)) (mvT hZ (tw hw 25 rfl)) (by decide) (backOf (W := 1) (rm_cod2 l Z a0 hw [] w14 kw14 c0 c1 T14.heap n0 Zs15 (Old.keep O0 K14 hws) V_w14_14c) hZ (tw hw 25 rfl) (tw hw 17 rfl) (by decide) (by decide)) (g := (mkF m 45 #[rv a1, rv a2, iv 0, iv 2, .val .null, rv w14] [(.int (2 : Int32)), (.ref w14), (.ref a1)])) rfl (by rw [hml]; rfl) (argsL := [(.ref w14), (.int (2 : Int32))]) (rest := [(.ref a1)]) (lenOf pd_2 rfl) rfl (by show 2 * 0 + _ ≤ _; exact Nat.le_of_eq rfl) (hb hby d3_45) (fun _ _ => ⟨rfl, rfl, (by decide : 1 + 0 ≤ _), (by decide : 2 + 0 ≤ _)⟩)
  dsimp only [Pt.U, Pt.locs, Pt.cells, Pt.slots] at X16 l16 y16 z16 st16 hQ16
  subst l16 y16 z16
  obtain ⟨rfl, N16q, e16⟩ := hQ16
  have N16 := Fr.app N14 N16q
  refine Goes.step (T2 := T16) (g2 := (mkF m 48 #[rv a1, rv a2, iv 0, iv 2, .val .null, rv w14] [(.int (0 : Int32)), (.ref a1)])) st16 ?_
  obtain ⟨T17, h17, X17, e17, W17, st17⟩ := putFN X16 hx hZ hown (tw hw 26 rfl) Via.refl e16 F_a1_coder_14 E_a1_14 (Or.inr ⟨(tw hw 27 rfl), rfl, hnm⟩) (tw hw 2 rfl) (ty := .byte) (v' := (.int (0 : Int32))) (by decide) rfl rfl (g := (mkF m 48 #[rv a1, rv a2, iv 0, iv 2, .val .null, rv w14] [(.int (0 : Int32)), (.ref a1)])) rfl rfl (hb hby d3_48)
  have E_a1_17 : Exa Z h17 a1 "java/lang/String" := E_a1_14.wr W17
  have F_a1_value_17 : Fld Z h17 a1 "java/lang/String" "value" "[B" .null := F_a1_value_14.other W17 (Or.inr (slot_ne (Or.inr (tw hw 29 rfl)) (Or.inr (tw hw 27 rfl)) (by decide) (t := (.array .byte)) (t' := .byte) (by decide) (by decide)))
  have V_a2_17 : Arv Z h17 a2 k2 .char (2 : Int32) [(.int c0), (.int c1)] (.int (0 : Int32)) := V_a2_14.other W17 (Ne.symm ne_a1_a2)
  have V_w14_17 : Arv Z h17 w14 kw14 .byte (2 : Int32) [(.int (nar .byte (c0.toInt8.toInt32))), (.int (nar .byte (c1.toInt8.toInt32)))] (.int (0 : Int32)) := V_w14_14c.other W17 (Ne.symm (Nat.ne_of_lt (Nat.lt_of_lt_of_le E_a1.lt P14_0)))
  have K17 : Keep h0 h17 [a1] := K14.wr W17 (Or.inl (List.mem_of_getElem? (i := 0) rfl))
  have N17 := Fr.snoc X17 N16 ge_a1
  have F_a1_coder_17 : Fld Z h17 a1 "java/lang/String" "coder" "B" (.int (0 : Int32)) := F_a1_coder_14.same W17
  refine Goes.step (T2 := T17) (g2 := (mkF m 51 #[rv a1, rv a2, iv 0, iv 2, .val .null, rv w14] [])) st17 ?_
  refine Goes.step (T2 := T17) (g2 := (mkF m 52 #[rv a1, rv a2, iv 0, iv 2, .val .null, rv w14] [(.ref a1)])) (fun _ hr => XS.aloadN X17.here hx rfl (hb hby d3_51) rfl rfl hr) ?_
  refine Goes.step (T2 := T17) (g2 := (mkF m 54 #[rv a1, rv a2, iv 0, iv 2, .val .null, rv w14] [(.ref w14), (.ref a1)])) (fun _ hr => XS.aload X17.here hx rfl (hb hby d3_52) rfl rfl hr) ?_
  obtain ⟨T18, h18, X18, e18, W18, st18⟩ := putF X17 hx hZ hown (host := "") (Or.inl (tw hw 28 rfl)) Via.refl e17 F_a1_value_17 E_a1_17 (Or.inr ⟨(tw hw 29 rfl), rfl, hnm⟩) (tw hw 2 rfl) (ty := (.array .byte)) (by decide) rfl rfl (g := (mkF m 54 #[rv a1, rv a2, iv 0, iv 2, .val .null, rv w14] [(.ref w14), (.ref a1)])) rfl rfl (hb hby d3_54)
  have E_a1_18 : Exa Z h18 a1 "java/lang/String" := E_a1_17.wr W18
  have V_a2_18 : Arv Z h18 a2 k2 .char (2 : Int32) [(.int c0), (.int c1)] (.int (0 : Int32)) := V_a2_17.other W18 (Ne.symm ne_a1_a2)
  have V_w14_18 : Arv Z h18 w14 kw14 .byte (2 : Int32) [(.int (nar .byte (c0.toInt8.toInt32))), (.int (nar .byte (c1.toInt8.toInt32)))] (.int (0 : Int32)) := V_w14_17.other W18 (Ne.symm (Nat.ne_of_lt (Nat.lt_of_lt_of_le E_a1.lt P14_0)))
  have F_a1_coder_18 : Fld Z h18 a1 "java/lang/String" "coder" "B" (.int (0 : Int32)) := F_a1_coder_17.other W18 (Or.inr (slot_ne (Or.inr (tw hw 27 rfl)) (Or.inr (tw hw 29 rfl)) (by decide) (t := .byte) (t' := (.array .byte)) (by decide) (by decide)))
  have K18 : Keep h0 h18 [a1] := K17.wr W18 (Or.inl (List.mem_of_getElem? (i := 0) rfl))
  have N18 := Fr.snoc X18 N17 ge_a1
  have F_a1_value_18 : Fld Z h18 a1 "java/lang/String" "value" "[B" (.ref w14) := F_a1_value_17.same W18
  refine Goes.step (T2 := T18) (g2 := (mkF m 57 #[rv a1, rv a2, iv 0, iv 2, .val .null, rv w14] [])) st18 ?_
  exact Goes.ret (v := none) X18 (by decide) (by decide) (fun _ => rfl) (by show Q_rm_str4_2 Z a1 a2 k2 cs c0 c1 h0 n0 _ T18.heap _; rw [e18]; exact ⟨rfl, N18, K18⟩) (fun fs hr => X18.returnOut hx Bd.returns (hb hby d3_57) hr)
theorem d4_0 : decode jdk_42_method_3_code 0 = .ok (.aload_n 0, 1) := by decide +kernel
theorem d4_1 : decode jdk_42_method_3_code 1 = .ok (.aload_n 1, 1) := by decide +kernel
theorem d4_2 : decode jdk_42_method_3_code 2 = .ok (.iconst 0, 1) := by decide +kernel
theorem d4_3 : decode jdk_42_method_3_code 3 = .ok (.aload_n 1, 1) := by decide +kernel
theorem d4_4 : decode jdk_42_method_3_code 4 = .ok (.arraylength, 1) := by decide +kernel
theorem d4_5 : decode jdk_42_method_3_code 5 = .ok (.aconst_null, 1) := by decide +kernel
theorem d4_6 : decode jdk_42_method_3_code 6 = .ok (.invokespecial 27, 3) := by decide +kernel
theorem d4_9 : decode jdk_42_method_3_code 9 = .ok (.return_, 1) := by decide +kernel
def Q_rm_str1_2 (Z : State) (a1 : Addr) (a2 : Addr) (k2 : ClassId) (cs : Int32) (c0 : Int32) (c1 : Int32) (h0 : Heap) (n0 : Nat) (v : Option Value) (h : Heap) (L : List Loc) : Prop := v = none ∧ Fr n0 L ∧ Keep h0 h [a1]
set_option maxRecDepth 65536 in
set_option maxHeartbeats 40000000 in
theorem rm_str1_2 (l : Launch) (Z : State) (a0 : Array Value) (hw : ∀ d ∈ tables_1, d.before a0 Z = true) (ws : List Jvm.Cond) (a1 : Addr) (a2 : Addr) (k2 : ClassId) (cs : Int32) (c0 : Int32) (c1 : Int32) (h0 : Heap) (n0 : Nat) (Z0 : n0 ≤ h0.size) (O0 : Old Z n0 h0) (E_a1 : Exa Z h0 a1 "java/lang/String") (F_a1_coder : Fld Z h0 a1 "java/lang/String" "coder" "B" (.int (0 : Int32))) (F_a1_value : Fld Z h0 a1 "java/lang/String" "value" "[B" .null) (V_a2 : Arv Z h0 a2 k2 .char (2 : Int32) [(.int c0), (.int c1)] (.int (0 : Int32))) (S_String_COMPACT_STRINGS_old : Sta Z Z.heap "java/lang/String" "COMPACT_STRINGS" "Z" (.int cs)) (ge_a1 : n0 ≤ a1) (ne_a1_a2 : a1 ≠ a2) (hcs : ¬ (cs = (0 : Int32))) (hlow0 : ¬ ((255 : Int32) < c0)) (hlow1 : ¬ ((255 : Int32) < c1)) :
    MetFree l Y4 (head1 (Jvm.Cond.code Y4 jdk_42_method_3_code 2 none :: ws) ({ frames := 3, cells := 1, slots := 2, locals := 52 } : Room)) (fun a U => a = #[(.ref a1), (.ref a2)] ∧ Z.Warmed39 U.vm ∧ U.heap = h0) (fun _ _ _ _ _ => True) (fun _ U o U' => ∃ v L, o = .returned v ∧ Q_rm_str1_2 Z a1 a2 k2 cs c0 c1 h0 n0 v U'.heap L ∧ FrameEnd U o U' L ({ frames := 3, cells := 1, slots := 2, locals := 52 } : Room).cells ({ frames := 3, cells := 1, slots := 2, locals := 52 } : Room).slots) := by
  refine MetFree.of_bodySF (plainFor_of_name pn_java_lang_String) hisR ?_
  intro p e s m args below meth c s₁ Bd hml0 hP hK
  obtain ⟨rfl, hZ, hh⟩ := hP
  have hx := Bd.exec
  have hby := Bd.bytes
  have hml : c.maxLocals = 2 := hml0
  have hown : s.vm.findClass "java/lang/String" = some m.cls := findClass_of_methodNamed Bd.named
  have hnm := (name_of_methodNamed Bd.named Bd.method).1
  have X0 : Stand p l e ({ frames := 3, cells := 1, slots := 2, locals := 52 } : Room) s m #[(.ref a1), (.ref a2)] below meth c s₁ [] 0 0 := Stand.of_body Bd
  have e0 : s₁.heap = h0 := by rw [← hh, Bd.state]; rfl
  have N0 := Fr.nil n0
  refine Goes.out (l := l) (c := c) (R := ({ frames := 3, cells := 1, slots := 2, locals := 52 } : Room)) (Q := Q_rm_str1_2 Z a1 a2 k2 cs c0 c1 h0 n0) Bd.notSynchronized ?_
  refine Goes.cast (g2 := mkF m 0 #[rv a1, rv a2] []) (by first | (simp [entryFrame, mkF, argsToLocals, Value.category]; done) | rfl) ?_
  have K0 : Keep h0 h0 [a1] := Keep.refl h0 _
  have hws : ∀ x ∈ [a1], n0 ≤ x := (allS ge_a1 all0)
  refine Goes.step (T2 := s₁) (g2 := (mkF m 1 #[rv a1, rv a2] [(.ref a1)])) (fun _ hr => XS.aloadN X0.here hx rfl (hb hby d4_0) rfl rfl hr) ?_
  refine Goes.step (T2 := s₁) (g2 := (mkF m 2 #[rv a1, rv a2] [(.ref a2), (.ref a1)])) (fun _ hr => XS.aloadN X0.here hx rfl (hb hby d4_1) rfl rfl hr) ?_
  refine Goes.step (T2 := s₁) (g2 := (mkF m 3 #[rv a1, rv a2] [(.int (0 : Int32)), (.ref a2), (.ref a1)])) (fun _ hr => XS.iconst X0.here hx rfl (hb hby d4_2) hr) ?_
  refine Goes.step (T2 := s₁) (g2 := (mkF m 4 #[rv a1, rv a2] [(.ref a2), (.int (0 : Int32)), (.ref a2), (.ref a1)])) (fun _ hr => XS.aloadN X0.here hx rfl (hb hby d4_3) rfl rfl hr) ?_
  obtain ⟨cl19, Ar19, -, S19, Nn19, -, -⟩ := id V_a2
  refine Goes.step (T2 := s₁) (g2 := (mkF m 5 #[rv a1, rv a2] [(.int (2 : Int32)), (.int (0 : Int32)), (.ref a2), (.ref a1)])) (fun t hr => X0.arraylength hx (own_at e0 Ar19.1) (State.isArrayOf_alike hZ.alike Ar19.2.1) (g := (mkF m 4 #[rv a1, rv a2] [(.ref a2), (.int (0 : Int32)), (.ref a2), (.ref a1)])) rfl rfl (hb hby d4_4) t (by rw [len_of S19 Nn19]; exact hr)) ?_
  refine Goes.step (T2 := s₁) (g2 := (mkF m 6 #[rv a1, rv a2] [.null, (.int (2 : Int32)), (.int (0 : Int32)), (.ref a2), (.ref a1)])) (fun _ hr => XS.aconstNull X0.here hx rfl (hb hby d4_5) hr) ?_
  have Zs20 : n0 ≤ h0.size := Nat.le_trans Z0 K0.1
  obtain ⟨_, _, ⟨T21, L21, k21, n21⟩, -, X21, ⟨Lc21, hQ21, l21, y21, z21⟩, st21⟩ := X0.specialBack hx (y := Y3) rfl hown (mvT hZ (tw hw 7 rfl)) (mvT hZ (tw hw 8 rfl)) (mvT hZ (tw hw 10 rfl)) (by decide) (backOf (W := 0) (rm_str4_2 l Z a0 hw [] a1 a2 k2 cs c0 c1 h0 n0 Zs20 (Old.keep O0 K0 hws) E_a1 F_a1_coder F_a1_value V_a2 S_String_COMPACT_STRINGS_old ge_a1 ne_a1_a2 hcs hlow0 hlow1) hZ (tw hw 10 rfl) (tw hw 3 rfl) (by decide) (by decide)) (g := (mkF m 6 #[rv a1, rv a2] [.null, (.int (2 : Int32)), (.int (0 : Int32)), (.ref a2), (.ref a1)])) rfl (by rw [hml]; rfl) (Steps.refl _) (a := a1) (argsL := [(.ref a2), (.int (0 : Int32)), (.int (2 : Int32)), .null]) (rest := []) (lenOf pd_3 rfl) rfl (by show 2 * 0 + _ ≤ _; exact Nat.le_of_eq rfl) (hb hby d4_6) (fun _ _ => ⟨rfl, e0, (by decide : 0 + 1 ≤ _), (by decide : 0 + 2 ≤ _)⟩)
  dsimp only [Pt.U, Pt.locs, Pt.cells, Pt.slots] at X21 l21 y21 z21 st21 hQ21
  subst l21 y21 z21
  obtain ⟨rfl, N21q, Kc21⟩ := hQ21
  have N21 := Fr.app N0 N21q
  have E_a1_21 : Exa Z T21.heap a1 "java/lang/String" := E_a1.keep Kc21
  have V_a2_21 : Arv Z T21.heap a2 k2 .char (2 : Int32) [(.int c0), (.int c1)] (.int (0 : Int32)) := V_a2.keep Kc21 (ninS (Ne.symm ne_a1_a2) nin0)
  have K21 : Keep h0 T21.heap [a1] := K0.trans Kc21 (allS (Or.inl (List.mem_of_getElem? (i := 0) rfl)) all0)
  refine Goes.step (T2 := T21) (g2 := (mkF m 9 #[rv a1, rv a2] [])) (fun _ hr => st21.trans hr) ?_
  exact Goes.ret (v := none) X21 (by decide) (by decide) (fun _ => rfl) (by show Q_rm_str1_2 Z a1 a2 k2 cs c0 c1 h0 n0 _ T21.heap _; exact ⟨rfl, N21, K21⟩) (fun fs hr => X21.returnOut hx Bd.returns (hb hby d4_9) hr)
theorem d5_0 : decode jdk_2650_method_3_code 0 = .ok (.aload_n 0, 1) := by decide +kernel
theorem d5_1 : decode jdk_2650_method_3_code 1 = .ok (.invokespecial 1, 3) := by decide +kernel
theorem d5_4 : decode jdk_2650_method_3_code 4 = .ok (.aload_n 0, 1) := by decide +kernel
theorem d5_5 : decode jdk_2650_method_3_code 5 = .ok (.iconst 1, 1) := by decide +kernel
theorem d5_6 : decode jdk_2650_method_3_code 6 = .ok (.putfield 7, 3) := by decide +kernel
theorem d5_9 : decode jdk_2650_method_3_code 9 = .ok (.aload_n 0, 1) := by decide +kernel
theorem d5_10 : decode jdk_2650_method_3_code 10 = .ok (.lload_n 1, 1) := by decide +kernel
theorem d5_11 : decode jdk_2650_method_3_code 11 = .ok (.putfield 13, 3) := by decide +kernel
theorem d5_14 : decode jdk_2650_method_3_code 14 = .ok (.return_, 1) := by decide +kernel
theorem pn_java_util_OptionalLong : plainName "java/util/OptionalLong" = true := by first | (simp [plainName, overriddenIn]; done) | decide +kernel
def Q_rm_oli (Z : State) (a1 : Addr) (q1 : Int64) (h0 : Heap) (n0 : Nat) (v : Option Value) (h : Heap) (L : List Loc) : Prop := v = none ∧ Fr n0 L ∧ Keep h0 h [a1] ∧ Fld Z h a1 "java/util/OptionalLong" "isPresent" "Z" (.int (1 : Int32)) ∧ Fld Z h a1 "java/util/OptionalLong" "value" "J" (.long q1)
set_option maxRecDepth 65536 in
set_option maxHeartbeats 40000000 in
theorem rm_oli (l : Launch) (Z : State) (a0 : Array Value) (hw : ∀ d ∈ tables_1, d.before a0 Z = true) (ws : List Jvm.Cond) (a1 : Addr) (q1 : Int64) (h0 : Heap) (n0 : Nat) (Z0 : n0 ≤ h0.size) (O0 : Old Z n0 h0) (E_a1 : Exa Z h0 a1 "java/util/OptionalLong") (F_a1_isPresent : Fld Z h0 a1 "java/util/OptionalLong" "isPresent" "Z" (.int (0 : Int32))) (F_a1_value : Fld Z h0 a1 "java/util/OptionalLong" "value" "J" (.long (0 : Int64))) (ge_a1 : n0 ≤ a1) :
    MetFree l Y5 (head1 (Jvm.Cond.code Y5 jdk_2650_method_3_code 3 none :: ws) ({ frames := 1, cells := 0, slots := 0, locals := 12 } : Room)) (fun a U => a = #[(.ref a1), (.long q1)] ∧ Z.Warmed39 U.vm ∧ U.heap = h0) (fun _ _ _ _ _ => True) (fun _ U o U' => ∃ v L, o = .returned v ∧ Q_rm_oli Z a1 q1 h0 n0 v U'.heap L ∧ FrameEnd U o U' L ({ frames := 1, cells := 0, slots := 0, locals := 12 } : Room).cells ({ frames := 1, cells := 0, slots := 0, locals := 12 } : Room).slots) := by
  refine MetFree.of_bodySF (plainFor_of_name pn_java_util_OptionalLong) hisR ?_
  intro p e s m args below meth c s₁ Bd hml0 hP hK
  obtain ⟨rfl, hZ, hh⟩ := hP
  have hx := Bd.exec
  have hby := Bd.bytes
  have hml : c.maxLocals = 3 := hml0
  have hown : s.vm.findClass "java/util/OptionalLong" = some m.cls := findClass_of_methodNamed Bd.named
  have hnm := (name_of_methodNamed Bd.named Bd.method).1
  have X0 : Stand p l e ({ frames := 1, cells := 0, slots := 0, locals := 12 } : Room) s m #[(.ref a1), (.long q1)] below meth c s₁ [] 0 0 := Stand.of_body Bd
  have e0 : s₁.heap = h0 := by rw [← hh, Bd.state]; rfl
  have N0 := Fr.nil n0
  refine Goes.out (l := l) (c := c) (R := ({ frames := 1, cells := 0, slots := 0, locals := 12 } : Room)) (Q := Q_rm_oli Z a1 q1 h0 n0) Bd.notSynchronized ?_
  refine Goes.cast (g2 := mkF m 0 #[rv a1, .val (.long q1), .second] []) (by first | (simp [entryFrame, mkF, argsToLocals, Value.category]; done) | rfl) ?_
  have K0 : Keep h0 h0 [a1] := Keep.refl h0 _
  have hws : ∀ x ∈ [a1], n0 ≤ x := (allS ge_a1 all0)
  refine Goes.step (T2 := s₁) (g2 := (mkF m 1 #[rv a1, .val (.long q1), .second] [(.ref a1)])) (fun _ hr => XS.aloadN X0.here hx rfl (hb hby d5_0) rfl rfl hr) ?_
  have Zs22 : n0 ≤ h0.size := Nat.le_trans Z0 K0.1
  obtain ⟨T23, X23, e23, st23⟩ := initO X0 hx hZ hown (tw hw 121 rfl) (tw hw 12 rfl) (tw hw 13 rfl) e0 (g := (mkF m 1 #[rv a1, .val (.long q1), .second] [(.ref a1)])) rfl (by rw [hml]; rfl) rfl (hb hby d5_1) (by decide) (W := 0) (by show 2 * 0 + _ ≤ _; exact Nat.le_of_eq rfl) (by decide)
  refine Goes.step (T2 := T23) (g2 := (mkF m 4 #[rv a1, .val (.long q1), .second] [])) st23 ?_
  refine Goes.step (T2 := T23) (g2 := (mkF m 5 #[rv a1, .val (.long q1), .second] [(.ref a1)])) (fun _ hr => XS.aloadN X23.here hx rfl (hb hby d5_4) rfl rfl hr) ?_
  refine Goes.step (T2 := T23) (g2 := (mkF m 6 #[rv a1, .val (.long q1), .second] [(.int (1 : Int32)), (.ref a1)])) (fun _ hr => XS.iconst X23.here hx rfl (hb hby d5_5) hr) ?_
  obtain ⟨T24, h24, X24, e24, W24, st24⟩ := putFN X23 hx hZ hown (tw hw 110 rfl) Via.refl e23 F_a1_isPresent E_a1 (Or.inr ⟨(tw hw 111 rfl), rfl, hnm⟩) (tw hw 116 rfl) (ty := .boolean) (v' := (.int (1 : Int32))) (by decide) rfl rfl (g := (mkF m 6 #[rv a1, .val (.long q1), .second] [(.int (1 : Int32)), (.ref a1)])) rfl rfl (hb hby d5_6)
  have E_a1_24 : Exa Z h24 a1 "java/util/OptionalLong" := E_a1.wr W24
  have F_a1_value_24 : Fld Z h24 a1 "java/util/OptionalLong" "value" "J" (.long (0 : Int64)) := F_a1_value.other W24 (Or.inr (slot_ne (Or.inr (tw hw 123 rfl)) (Or.inr (tw hw 111 rfl)) (by decide) (t := .long) (t' := .boolean) (by decide) (by decide)))
  have K24 : Keep h0 h24 [a1] := K0.wr W24 (Or.inl (List.mem_of_getElem? (i := 0) rfl))
  have N24 := Fr.snoc X24 N0 ge_a1
  have F_a1_isPresent_24 : Fld Z h24 a1 "java/util/OptionalLong" "isPresent" "Z" (.int (1 : Int32)) := F_a1_isPresent.same W24
  refine Goes.step (T2 := T24) (g2 := (mkF m 9 #[rv a1, .val (.long q1), .second] [])) st24 ?_
  refine Goes.step (T2 := T24) (g2 := (mkF m 10 #[rv a1, .val (.long q1), .second] [(.ref a1)])) (fun _ hr => XS.aloadN X24.here hx rfl (hb hby d5_9) rfl rfl hr) ?_
  refine Goes.step (T2 := T24) (g2 := (mkF m 11 #[rv a1, .val (.long q1), .second] [(.long q1), (.ref a1)])) (fun _ hr => Jvm.Free.XT.lloadN X24.here hx rfl (hb hby d5_10) rfl hr) ?_
  obtain ⟨T25, h25, X25, e25, W25, st25⟩ := putF X24 hx hZ hown (host := "") (Or.inl (tw hw 122 rfl)) Via.refl e24 F_a1_value_24 E_a1_24 (Or.inr ⟨(tw hw 123 rfl), rfl, hnm⟩) (tw hw 116 rfl) (ty := .long) (by decide) rfl rfl (g := (mkF m 11 #[rv a1, .val (.long q1), .second] [(.long q1), (.ref a1)])) rfl rfl (hb hby d5_11)
  have E_a1_25 : Exa Z h25 a1 "java/util/OptionalLong" := E_a1_24.wr W25
  have F_a1_isPresent_25 : Fld Z h25 a1 "java/util/OptionalLong" "isPresent" "Z" (.int (1 : Int32)) := F_a1_isPresent_24.other W25 (Or.inr (slot_ne (Or.inr (tw hw 111 rfl)) (Or.inr (tw hw 123 rfl)) (by decide) (t := .boolean) (t' := .long) (by decide) (by decide)))
  have K25 : Keep h0 h25 [a1] := K24.wr W25 (Or.inl (List.mem_of_getElem? (i := 0) rfl))
  have N25 := Fr.snoc X25 N24 ge_a1
  have F_a1_value_25 : Fld Z h25 a1 "java/util/OptionalLong" "value" "J" (.long q1) := F_a1_value_24.same W25
  refine Goes.step (T2 := T25) (g2 := (mkF m 14 #[rv a1, .val (.long q1), .second] [])) st25 ?_
  exact Goes.ret (v := none) X25 (by decide) (by decide) (fun _ => rfl) (by show Q_rm_oli Z a1 q1 h0 n0 _ T25.heap _; rw [e25]; exact ⟨rfl, N25, K25, F_a1_isPresent_25, F_a1_value_25⟩) (fun fs hr => X25.returnOut hx Bd.returns (hb hby d5_14) hr)
theorem d6_0 : decode jdk_2650_method_4_code 0 = .ok (.new 8, 3) := by decide +kernel
theorem d6_3 : decode jdk_2650_method_4_code 3 = .ok (.dup, 1) := by decide +kernel
theorem d6_4 : decode jdk_2650_method_4_code 4 = .ok (.lload_n 0, 1) := by decide +kernel
theorem d6_5 : decode jdk_2650_method_4_code 5 = .ok (.invokespecial 21, 3) := by decide +kernel
theorem d6_8 : decode jdk_2650_method_4_code 8 = .ok (.areturn, 1) := by decide +kernel
def Q_rm_olof (Z : State) (q1 : Int64) (h0 : Heap) (n0 : Nat) (v : Option Value) (h : Heap) (L : List Loc) : Prop := ∃ w : Addr, v = some (.ref w) ∧ Fr n0 L ∧ Keep h0 h [] ∧ h0.size ≤ w ∧ Exa Z h w "java/util/OptionalLong" ∧ Fld Z h w "java/util/OptionalLong" "isPresent" "Z" (.int (1 : Int32)) ∧ Fld Z h w "java/util/OptionalLong" "value" "J" (.long q1)
set_option maxRecDepth 65536 in
set_option maxHeartbeats 40000000 in
theorem rm_olof (l : Launch) (Z : State) (a0 : Array Value) (hw : ∀ d ∈ tables_1, d.before a0 Z = true) (ws : List Jvm.Cond) (q1 : Int64) (h0 : Heap) (n0 : Nat) (Z0 : n0 ≤ h0.size) (O0 : Old Z n0 h0) :
    MetFree l Y6 (head1 (Jvm.Cond.code Y6 jdk_2650_method_4_code 2 (some (.object "java/util/OptionalLong")) :: ws) ({ frames := 2, cells := 1, slots := 2, locals := 27 } : Room)) (fun a U => a = #[(.long q1)] ∧ Z.Warmed39 U.vm ∧ U.heap = h0) (fun _ _ _ _ _ => True) (fun _ U o U' => ∃ v L, o = .returned v ∧ Q_rm_olof Z q1 h0 n0 v U'.heap L ∧ FrameEnd U o U' L ({ frames := 2, cells := 1, slots := 2, locals := 27 } : Room).cells ({ frames := 2, cells := 1, slots := 2, locals := 27 } : Room).slots) := by
  refine MetFree.of_bodySF (plainFor_of_name pn_java_util_OptionalLong) hisR ?_
  intro p e s m args below meth c s₁ Bd hml0 hP hK
  obtain ⟨rfl, hZ, hh⟩ := hP
  have hx := Bd.exec
  have hby := Bd.bytes
  have hml : c.maxLocals = 2 := hml0
  have hown : s.vm.findClass "java/util/OptionalLong" = some m.cls := findClass_of_methodNamed Bd.named
  have hnm := (name_of_methodNamed Bd.named Bd.method).1
  have X0 : Stand p l e ({ frames := 2, cells := 1, slots := 2, locals := 27 } : Room) s m #[(.long q1)] below meth c s₁ [] 0 0 := Stand.of_body Bd
  have e0 : s₁.heap = h0 := by rw [← hh, Bd.state]; rfl
  have N0 := Fr.nil n0
  refine Goes.out (l := l) (c := c) (R := ({ frames := 2, cells := 1, slots := 2, locals := 27 } : Room)) (Q := Q_rm_olof Z q1 h0 n0) Bd.notSynchronized ?_
  refine Goes.cast (g2 := mkF m 0 #[.val (.long q1), .second] []) (by first | (simp [entryFrame, mkF, argsToLocals, Value.category]; done) | rfl) ?_
  have K0 : Keep h0 h0 [] := Keep.refl h0 _
  have hws : ∀ x ∈ ([] : List Addr), n0 ≤ x := all0
  obtain ⟨T26, h26, X26, e26, E26, A26, D26, -, st26⟩ := newO X0 hx hZ hown (tw hw 115 rfl) (tw hw 116 rfl) (tw hw 36 rfl) e0 (g := (mkF m 0 #[.val (.long q1), .second] [])) rfl (hb hby d6_0) (by decide) (by decide)
  obtain ⟨b26, g26⟩ : ∃ z, z = h0.size := ⟨_, rfl⟩
  rw [← g26] at A26 D26 st26
  have sz_b26 : h0.size ≤ b26 := Nat.le_trans K0.1 (Nat.le_of_eq g26.symm)
  have ge_b26 : n0 ≤ b26 := Nat.le_trans Z0 sz_b26
  have K26 : Keep h0 h26 [] := K0.ext E26
  have F_b26_isPresent_26 : Fld Z h26 b26 "java/util/OptionalLong" "isPresent" "Z" (.int (0 : Int32)) := D26 (Or.inr (tw hw 111 rfl)) (ty := .boolean) (by decide)
  have F_b26_value_26 : Fld Z h26 b26 "java/util/OptionalLong" "value" "J" (.long (0 : Int64)) := D26 (Or.inr (tw hw 123 rfl)) (ty := .long) (by decide)
  refine Goes.step (T2 := T26) (g2 := (mkF m 3 #[.val (.long q1), .second] [(.ref b26)])) st26 ?_
  refine Goes.step (T2 := T26) (g2 := (mkF m 4 #[.val (.long q1), .second] [(.ref b26), (.ref b26)])) (fun _ hr => XS.dup X26.here hx rfl (hb hby d6_3) rfl rfl hr) ?_
  refine Goes.step (T2 := T26) (g2 := (mkF m 5 #[.val (.long q1), .second] [(.long q1), (.ref b26), (.ref b26)])) (fun _ hr => Jvm.Free.XT.lloadN X26.here hx rfl (hb hby d6_4) rfl hr) ?_
  have Zs27 : n0 ≤ h26.size := Nat.le_trans Z0 K26.1
  obtain ⟨_, _, ⟨T28, L28, k28, n28⟩, -, X28, ⟨Lc28, hQ28, l28, y28, z28⟩, st28⟩ := X26.specialBack hx (y := Y5) rfl hown (mvT hZ (tw hw 117 rfl)) (mvT hZ (tw hw 118 rfl)) (mvT hZ (tw hw 120 rfl)) (by decide) (backOf (W := 1) (rm_oli l Z a0 hw [] b26 q1 h26 n0 Zs27 (Old.keep O0 K26 hws) A26 F_b26_isPresent_26 F_b26_value_26 ge_b26) hZ (tw hw 120 rfl) (tw hw 36 rfl) (by decide) (by decide)) (g := (mkF m 5 #[.val (.long q1), .second] [(.long q1), (.ref b26), (.ref b26)])) rfl (by rw [hml]; rfl) (Steps.refl _) (a := b26) (argsL := [(.long q1)]) (rest := [(.ref b26)]) (lenOf pd_4 rfl) rfl (by show 2 * 0 + _ ≤ _; exact Nat.le_of_eq rfl) (hb hby d6_5) (fun _ _ => ⟨rfl, e26, (by decide : 1 + 0 ≤ _), (by decide : 2 + 0 ≤ _)⟩)
  dsimp only [Pt.U, Pt.locs, Pt.cells, Pt.slots] at X28 l28 y28 z28 st28 hQ28
  subst l28 y28 z28
  obtain ⟨rfl, N28q, Kc28, P28_0, P28_1⟩ := hQ28
  have N28 := Fr.app N0 N28q
  have E_b26_28 : Exa Z T28.heap b26 "java/util/OptionalLong" := A26.keep Kc28
  have K28 : Keep h0 T28.heap [] := K26.trans Kc28 (allS (Or.inr sz_b26) all0)
  have F_b26_isPresent_28c : Fld Z T28.heap b26 "java/util/OptionalLong" "isPresent" "Z" (.int (1 : Int32)) := P28_0
  have F_b26_value_28c : Fld Z T28.heap b26 "java/util/OptionalLong" "value" "J" (.long q1) := P28_1
  refine Goes.step (T2 := T28) (g2 := (mkF m 8 #[.val (.long q1), .second] [(.ref b26)])) (fun _ hr => st28.trans hr) ?_
  exact Goes.ret (v := some (.ref b26)) X28 (by decide) (by decide) (fun h => by rw [Bd.returns] at h; cases h) (by show Q_rm_olof Z q1 h0 n0 _ T28.heap _; exact ⟨b26, rfl, N28, K28, sz_b26, E_b26_28, F_b26_isPresent_28c, F_b26_value_28c⟩) (fun fs hr => retOut X28 hx Bd.returns rfl (Or.inr (Or.inr (Or.inr (Or.inr ⟨rfl, rfl, rfl⟩)))) (hb hby d6_8) hr)
theorem d7_0 : decode jdk_2650_method_2_code 0 = .ok (.getstatic 17, 3) := by decide +kernel
theorem d7_3 : decode jdk_2650_method_2_code 3 = .ok (.areturn, 1) := by decide +kernel
def Q_rm_olem (Z : State) (em : Addr) (h0 : Heap) (n0 : Nat) (v : Option Value) (h : Heap) (L : List Loc) : Prop := v = some (.ref em) ∧ Fr n0 L ∧ h = h0
set_option maxRecDepth 65536 in
set_option maxHeartbeats 40000000 in
theorem rm_olem (l : Launch) (Z : State) (a0 : Array Value) (hw : ∀ d ∈ tables_1, d.before a0 Z = true) (ws : List Jvm.Cond) (em : Addr) (h0 : Heap) (n0 : Nat) (Z0 : n0 ≤ h0.size) (O0 : Old Z n0 h0) (S_OptionalLong_EMPTY_old : Sta Z Z.heap "java/util/OptionalLong" "EMPTY" "Ljava/util/OptionalLong;" (.ref em)) :
    MetFree l Y7 (head1 (Jvm.Cond.code Y7 jdk_2650_method_2_code 0 (some (.object "java/util/OptionalLong")) :: ws) ({ frames := 0, cells := 0, slots := 0, locals := 0 } : Room)) (fun a U => a = #[] ∧ Z.Warmed39 U.vm ∧ U.heap = h0) (fun _ _ _ _ _ => True) (fun _ U o U' => ∃ v L, o = .returned v ∧ Q_rm_olem Z em h0 n0 v U'.heap L ∧ FrameEnd U o U' L ({ frames := 0, cells := 0, slots := 0, locals := 0 } : Room).cells ({ frames := 0, cells := 0, slots := 0, locals := 0 } : Room).slots) := by
  refine MetFree.of_bodySF (plainFor_of_name pn_java_util_OptionalLong) hisR ?_
  intro p e s m args below meth c s₁ Bd hml0 hP hK
  obtain ⟨rfl, hZ, hh⟩ := hP
  have hx := Bd.exec
  have hby := Bd.bytes
  have hml : c.maxLocals = 0 := hml0
  have hown : s.vm.findClass "java/util/OptionalLong" = some m.cls := findClass_of_methodNamed Bd.named
  have hnm := (name_of_methodNamed Bd.named Bd.method).1
  have X0 : Stand p l e ({ frames := 0, cells := 0, slots := 0, locals := 0 } : Room) s m #[] below meth c s₁ [] 0 0 := Stand.of_body Bd
  have e0 : s₁.heap = h0 := by rw [← hh, Bd.state]; rfl
  have N0 := Fr.nil n0
  refine Goes.out (l := l) (c := c) (R := ({ frames := 0, cells := 0, slots := 0, locals := 0 } : Room)) (Q := Q_rm_olem Z em h0 n0) Bd.notSynchronized ?_
  refine Goes.cast (g2 := mkF m 0 #[] []) (by first | (simp [entryFrame, mkF, argsToLocals, Value.category]; done) | rfl) ?_
  have K0 : Keep h0 h0 [] := Keep.refl h0 _
  have hws : ∀ x ∈ ([] : List Addr), n0 ≤ x := all0
  obtain ⟨T29, X29, e29, st29⟩ := getS2 X0 hx hZ hown (host := "") (Or.inl (tw hw 38 rfl)) Via.refl e0 (S_OptionalLong_EMPTY_old.ext (Old.keep O0 K0 hws).2) (g := (mkF m 0 #[] [])) rfl (hb hby d7_0)
  refine Goes.step (T2 := T29) (g2 := (mkF m 3 #[] [(.ref em)])) st29 ?_
  exact Goes.ret (v := some (.ref em)) X29 (by decide) (by decide) (fun h => by rw [Bd.returns] at h; cases h) ⟨rfl, N0, e29⟩ (fun fs hr => retOut X29 hx Bd.returns rfl (Or.inr (Or.inr (Or.inr (Or.inr ⟨rfl, rfl, rfl⟩)))) (hb hby d7_3) hr)
theorem d8_0 : decode jdk_2650_method_6_code 0 = .ok (.aload_n 0, 1) := by decide +kernel
theorem d8_1 : decode jdk_2650_method_6_code 1 = .ok (.getfield 7, 3) := by decide +kernel
theorem d8_4 : decode jdk_2650_method_6_code 4 = .ok (.ireturn, 1) := by decide +kernel
def Q_rm_olp0 (Z : State) (a1 : Addr) (h0 : Heap) (n0 : Nat) (v : Option Value) (h : Heap) (L : List Loc) : Prop := v = some (.int (0 : Int32)) ∧ Fr n0 L ∧ h = h0
set_option maxRecDepth 65536 in
set_option maxHeartbeats 40000000 in
theorem rm_olp0 (l : Launch) (Z : State) (a0 : Array Value) (hw : ∀ d ∈ tables_1, d.before a0 Z = true) (ws : List Jvm.Cond) (a1 : Addr) (h0 : Heap) (n0 : Nat) (Z0 : n0 ≤ h0.size) (O0 : Old Z n0 h0) (F_a1_isPresent : Fld Z h0 a1 "java/util/OptionalLong" "isPresent" "Z" (.int (0 : Int32))) :
    MetFree l Y8 (head1 (Jvm.Cond.code Y8 jdk_2650_method_6_code 1 (some .boolean) :: ws) ({ frames := 0, cells := 0, slots := 0, locals := 0 } : Room)) (fun a U => a = #[(.ref a1)] ∧ Z.Warmed39 U.vm ∧ U.heap = h0) (fun _ _ _ _ _ => True) (fun _ U o U' => ∃ v L, o = .returned v ∧ Q_rm_olp0 Z a1 h0 n0 v U'.heap L ∧ FrameEnd U o U' L ({ frames := 0, cells := 0, slots := 0, locals := 0 } : Room).cells ({ frames := 0, cells := 0, slots := 0, locals := 0 } : Room).slots) := by
  refine MetFree.of_bodySF (plainFor_of_name pn_java_util_OptionalLong) hisR ?_
  intro p e s m args below meth c s₁ Bd hml0 hP hK
  obtain ⟨rfl, hZ, hh⟩ := hP
  have hx := Bd.exec
  have hby := Bd.bytes
  have hml : c.maxLocals = 1 := hml0
  have hown : s.vm.findClass "java/util/OptionalLong" = some m.cls := findClass_of_methodNamed Bd.named
  have hnm := (name_of_methodNamed Bd.named Bd.method).1
  have X0 : Stand p l e ({ frames := 0, cells := 0, slots := 0, locals := 0 } : Room) s m #[(.ref a1)] below meth c s₁ [] 0 0 := Stand.of_body Bd
  have e0 : s₁.heap = h0 := by rw [← hh, Bd.state]; rfl
  have N0 := Fr.nil n0
  refine Goes.out (l := l) (c := c) (R := ({ frames := 0, cells := 0, slots := 0, locals := 0 } : Room)) (Q := Q_rm_olp0 Z a1 h0 n0) Bd.notSynchronized ?_
  refine Goes.cast (g2 := mkF m 0 #[rv a1] []) (by first | (simp [entryFrame, mkF, argsToLocals, Value.category]; done) | rfl) ?_
  have K0 : Keep h0 h0 [] := Keep.refl h0 _
  have hws : ∀ x ∈ ([] : List Addr), n0 ≤ x := all0
  refine Goes.step (T2 := s₁) (g2 := (mkF m 1 #[rv a1] [(.ref a1)])) (fun _ hr => XS.aloadN X0.here hx rfl (hb hby d8_0) rfl rfl hr) ?_
  obtain ⟨T30, X30, e30, st30⟩ := getF X0 hx hZ hown (host := "") (Or.inl (tw hw 110 rfl)) Via.refl e0 F_a1_isPresent (g := (mkF m 1 #[rv a1] [(.ref a1)])) rfl rfl (hb hby d8_1)
  refine Goes.step (T2 := T30) (g2 := (mkF m 4 #[rv a1] [(.int (0 : Int32))])) st30 ?_
  exact Goes.ret (v := some (.int (0 : Int32))) X30 (by decide) (by decide) (fun h => by rw [Bd.returns] at h; cases h) ⟨rfl, N0, e30⟩ (fun fs hr => retN X30 hx (t := .boolean) Bd.returns (by simp) (hb hby d8_4) hr)
def Q_rm_olp1 (Z : State) (a1 : Addr) (h0 : Heap) (n0 : Nat) (v : Option Value) (h : Heap) (L : List Loc) : Prop := v = some (.int (1 : Int32)) ∧ Fr n0 L ∧ h = h0
set_option maxRecDepth 65536 in
set_option maxHeartbeats 40000000 in
theorem rm_olp1 (l : Launch) (Z : State) (a0 : Array Value) (hw : ∀ d ∈ tables_1, d.before a0 Z = true) (ws : List Jvm.Cond) (a1 : Addr) (h0 : Heap) (n0 : Nat) (Z0 : n0 ≤ h0.size) (O0 : Old Z n0 h0) (F_a1_isPresent : Fld Z h0 a1 "java/util/OptionalLong" "isPresent" "Z" (.int (1 : Int32))) :
    MetFree l Y8 (head1 (Jvm.Cond.code Y8 jdk_2650_method_6_code 1 (some .boolean) :: ws) ({ frames := 0, cells := 0, slots := 0, locals := 0 } : Room)) (fun a U => a = #[(.ref a1)] ∧ Z.Warmed39 U.vm ∧ U.heap = h0) (fun _ _ _ _ _ => True) (fun _ U o U' => ∃ v L, o = .returned v ∧ Q_rm_olp1 Z a1 h0 n0 v U'.heap L ∧ FrameEnd U o U' L ({ frames := 0, cells := 0, slots := 0, locals := 0 } : Room).cells ({ frames := 0, cells := 0, slots := 0, locals := 0 } : Room).slots) := by
  refine MetFree.of_bodySF (plainFor_of_name pn_java_util_OptionalLong) hisR ?_
  intro p e s m args below meth c s₁ Bd hml0 hP hK
  obtain ⟨rfl, hZ, hh⟩ := hP
  have hx := Bd.exec
  have hby := Bd.bytes
  have hml : c.maxLocals = 1 := hml0
  have hown : s.vm.findClass "java/util/OptionalLong" = some m.cls := findClass_of_methodNamed Bd.named
  have hnm := (name_of_methodNamed Bd.named Bd.method).1
  have X0 : Stand p l e ({ frames := 0, cells := 0, slots := 0, locals := 0 } : Room) s m #[(.ref a1)] below meth c s₁ [] 0 0 := Stand.of_body Bd
  have e0 : s₁.heap = h0 := by rw [← hh, Bd.state]; rfl
  have N0 := Fr.nil n0
  refine Goes.out (l := l) (c := c) (R := ({ frames := 0, cells := 0, slots := 0, locals := 0 } : Room)) (Q := Q_rm_olp1 Z a1 h0 n0) Bd.notSynchronized ?_
  refine Goes.cast (g2 := mkF m 0 #[rv a1] []) (by first | (simp [entryFrame, mkF, argsToLocals, Value.category]; done) | rfl) ?_
  have K0 : Keep h0 h0 [] := Keep.refl h0 _
  have hws : ∀ x ∈ ([] : List Addr), n0 ≤ x := all0
  refine Goes.step (T2 := s₁) (g2 := (mkF m 1 #[rv a1] [(.ref a1)])) (fun _ hr => XS.aloadN X0.here hx rfl (hb hby d8_0) rfl rfl hr) ?_
  obtain ⟨T31, X31, e31, st31⟩ := getF X0 hx hZ hown (host := "") (Or.inl (tw hw 110 rfl)) Via.refl e0 F_a1_isPresent (g := (mkF m 1 #[rv a1] [(.ref a1)])) rfl rfl (hb hby d8_1)
  refine Goes.step (T2 := T31) (g2 := (mkF m 4 #[rv a1] [(.int (1 : Int32))])) st31 ?_
  exact Goes.ret (v := some (.int (1 : Int32))) X31 (by decide) (by decide) (fun h => by rw [Bd.returns] at h; cases h) ⟨rfl, N0, e31⟩ (fun fs hr => retN X31 hx (t := .boolean) Bd.returns (by simp) (hb hby d8_4) hr)
theorem d9_0 : decode jdk_2650_method_5_code 0 = .ok (.aload_n 0, 1) := by decide +kernel
theorem d9_1 : decode jdk_2650_method_5_code 1 = .ok (.getfield 7, 3) := by decide +kernel
theorem d9_4 : decode jdk_2650_method_5_code 4 = .ok (.ifCond .ne 13, 3) := by decide +kernel
theorem d9_17 : decode jdk_2650_method_5_code 17 = .ok (.aload_n 0, 1) := by decide +kernel
theorem d9_18 : decode jdk_2650_method_5_code 18 = .ok (.getfield 13, 3) := by decide +kernel
theorem d9_21 : decode jdk_2650_method_5_code 21 = .ok (.lreturn, 1) := by decide +kernel
def Q_rm_olg (Z : State) (a1 : Addr) (q1 : Int64) (h0 : Heap) (n0 : Nat) (v : Option Value) (h : Heap) (L : List Loc) : Prop := v = some (.long q1) ∧ Fr n0 L ∧ h = h0
set_option maxRecDepth 65536 in
set_option maxHeartbeats 40000000 in
theorem rm_olg (l : Launch) (Z : State) (a0 : Array Value) (hw : ∀ d ∈ tables_1, d.before a0 Z = true) (ws : List Jvm.Cond) (a1 : Addr) (q1 : Int64) (h0 : Heap) (n0 : Nat) (Z0 : n0 ≤ h0.size) (O0 : Old Z n0 h0) (F_a1_isPresent : Fld Z h0 a1 "java/util/OptionalLong" "isPresent" "Z" (.int (1 : Int32))) (F_a1_value : Fld Z h0 a1 "java/util/OptionalLong" "value" "J" (.long q1)) :
    MetFree l Y9 (head1 (Jvm.Cond.code Y9 jdk_2650_method_5_code 1 (some .long) :: ws) ({ frames := 0, cells := 0, slots := 0, locals := 0 } : Room)) (fun a U => a = #[(.ref a1)] ∧ Z.Warmed39 U.vm ∧ U.heap = h0) (fun _ _ _ _ _ => True) (fun _ U o U' => ∃ v L, o = .returned v ∧ Q_rm_olg Z a1 q1 h0 n0 v U'.heap L ∧ FrameEnd U o U' L ({ frames := 0, cells := 0, slots := 0, locals := 0 } : Room).cells ({ frames := 0, cells := 0, slots := 0, locals := 0 } : Room).slots) := by
  refine MetFree.of_bodySF (plainFor_of_name pn_java_util_OptionalLong) hisR ?_
  intro p e s m args below meth c s₁ Bd hml0 hP hK
  obtain ⟨rfl, hZ, hh⟩ := hP
  have hx := Bd.exec
  have hby := Bd.bytes
  have hml : c.maxLocals = 1 := hml0
  have hown : s.vm.findClass "java/util/OptionalLong" = some m.cls := findClass_of_methodNamed Bd.named
  have hnm := (name_of_methodNamed Bd.named Bd.method).1
  have X0 : Stand p l e ({ frames := 0, cells := 0, slots := 0, locals := 0 } : Room) s m #[(.ref a1)] below meth c s₁ [] 0 0 := Stand.of_body Bd
  have e0 : s₁.heap = h0 := by rw [← hh, Bd.state]; rfl
  have N0 := Fr.nil n0
  refine Goes.out (l := l) (c := c) (R := ({ frames := 0, cells := 0, slots := 0, locals := 0 } : Room)) (Q := Q_rm_olg Z a1 q1 h0 n0) Bd.notSynchronized ?_
  refine Goes.cast (g2 := mkF m 0 #[rv a1] []) (by first | (simp [entryFrame, mkF, argsToLocals, Value.category]; done) | rfl) ?_
  have K0 : Keep h0 h0 [] := Keep.refl h0 _
  have hws : ∀ x ∈ ([] : List Addr), n0 ≤ x := all0
  refine Goes.step (T2 := s₁) (g2 := (mkF m 1 #[rv a1] [(.ref a1)])) (fun _ hr => XS.aloadN X0.here hx rfl (hb hby d9_0) rfl rfl hr) ?_
  obtain ⟨T32, X32, e32, st32⟩ := getF X0 hx hZ hown (host := "") (Or.inl (tw hw 110 rfl)) Via.refl e0 F_a1_isPresent (g := (mkF m 1 #[rv a1] [(.ref a1)])) rfl rfl (hb hby d9_1)
  refine Goes.step (T2 := T32) (g2 := (mkF m 4 #[rv a1] [(.int (1 : Int32))])) st32 ?_
  refine Goes.step (T2 := T32) (g2 := (mkF m 17 #[rv a1] [])) (fun _ hr => XS.ifYes X32.here hx rfl (pc0 := 4) (pc' := 17) rfl (hb hby d9_4) rfl ((if0 _ _).trans (feq (by decide : ¬ ((1 : Int32) = (0 : Int32)))).2) (by decide) (by decide) hr) ?_
  refine Goes.step (T2 := T32) (g2 := (mkF m 18 #[rv a1] [(.ref a1)])) (fun _ hr => XS.aloadN X32.here hx rfl (hb hby d9_17) rfl rfl hr) ?_
  obtain ⟨T33, X33, e33, st33⟩ := getF X32 hx hZ hown (host := "") (Or.inl (tw hw 122 rfl)) Via.refl e32 F_a1_value (g := (mkF m 18 #[rv a1] [(.ref a1)])) rfl rfl (hb hby d9_18)
  refine Goes.step (T2 := T33) (g2 := (mkF m 21 #[rv a1] [(.long q1)])) st33 ?_
  exact Goes.ret (v := some (.long q1)) X33 (by decide) (by decide) (fun h => by rw [Bd.returns] at h; cases h) ⟨rfl, N0, e33⟩ (fun fs hr => retOut X33 hx Bd.returns rfl (Or.inr (Or.inl ⟨rfl, rfl, _, rfl⟩)) (hb hby d9_21) hr)
theorem d10_0 : decode jdk_31_method_11_code 0 = .ok (.aload_n 0, 1) := by decide +kernel
theorem d10_1 : decode jdk_31_method_11_code 1 = .ok (.ifnonnull 12, 3) := by decide +kernel
theorem d10_13 : decode jdk_31_method_11_code 13 = .ok (.aload_n 0, 1) := by decide +kernel
theorem d10_14 : decode jdk_31_method_11_code 14 = .ok (.areturn, 1) := by decide +kernel
theorem pn_java_util_Objects : plainName "java/util/Objects" = true := by first | (simp [plainName, overriddenIn]; done) | decide +kernel
def Q_rm_rnn2 (Z : State) (a1 : Addr) (a2 : Addr) (h0 : Heap) (n0 : Nat) (v : Option Value) (h : Heap) (L : List Loc) : Prop := v = some (.ref a1) ∧ Fr n0 L ∧ h = h0
set_option maxRecDepth 65536 in
set_option maxHeartbeats 40000000 in
theorem rm_rnn2 (l : Launch) (Z : State) (a0 : Array Value) (hw : ∀ d ∈ tables_1, d.before a0 Z = true) (ws : List Jvm.Cond) (a1 : Addr) (a2 : Addr) (h0 : Heap) (n0 : Nat) (Z0 : n0 ≤ h0.size) (O0 : Old Z n0 h0) :
    MetFree l Y10 (head1 (Jvm.Cond.code Y10 jdk_31_method_11_code 2 (some (.object "java/lang/Object")) :: ws) ({ frames := 0, cells := 0, slots := 0, locals := 0 } : Room)) (fun a U => a = #[(.ref a1), (.ref a2)] ∧ Z.Warmed39 U.vm ∧ U.heap = h0) (fun _ _ _ _ _ => True) (fun _ U o U' => ∃ v L, o = .returned v ∧ Q_rm_rnn2 Z a1 a2 h0 n0 v U'.heap L ∧ FrameEnd U o U' L ({ frames := 0, cells := 0, slots := 0, locals := 0 } : Room).cells ({ frames := 0, cells := 0, slots := 0, locals := 0 } : Room).slots) := by
  refine MetFree.of_bodySF (plainFor_of_name pn_java_util_Objects) hisR ?_
  intro p e s m args below meth c s₁ Bd hml0 hP hK
  obtain ⟨rfl, hZ, hh⟩ := hP
  have hx := Bd.exec
  have hby := Bd.bytes
  have hml : c.maxLocals = 2 := hml0
  have hown : s.vm.findClass "java/util/Objects" = some m.cls := findClass_of_methodNamed Bd.named
  have hnm := (name_of_methodNamed Bd.named Bd.method).1
  have X0 : Stand p l e ({ frames := 0, cells := 0, slots := 0, locals := 0 } : Room) s m #[(.ref a1), (.ref a2)] below meth c s₁ [] 0 0 := Stand.of_body Bd
  have e0 : s₁.heap = h0 := by rw [← hh, Bd.state]; rfl
  have N0 := Fr.nil n0
  refine Goes.out (l := l) (c := c) (R := ({ frames := 0, cells := 0, slots := 0, locals := 0 } : Room)) (Q := Q_rm_rnn2 Z a1 a2 h0 n0) Bd.notSynchronized ?_
  refine Goes.cast (g2 := mkF m 0 #[rv a1, rv a2] []) (by first | (simp [entryFrame, mkF, argsToLocals, Value.category]; done) | rfl) ?_
  have K0 : Keep h0 h0 [] := Keep.refl h0 _
  have hws : ∀ x ∈ ([] : List Addr), n0 ≤ x := all0
  refine Goes.step (T2 := s₁) (g2 := (mkF m 1 #[rv a1, rv a2] [(.ref a1)])) (fun _ hr => XS.aloadN X0.here hx rfl (hb hby d10_0) rfl rfl hr) ?_
  refine Goes.step (T2 := s₁) (g2 := (mkF m 13 #[rv a1, rv a2] [])) (fun _ hr => Jvm.Free.XT.ifnonnullYes X0.here hx rfl (pc0 := 1) (pc' := 13) rfl (hb hby d10_1) rfl (by decide) (by decide) hr) ?_
  refine Goes.step (T2 := s₁) (g2 := (mkF m 14 #[rv a1, rv a2] [(.ref a1)])) (fun _ hr => XS.aloadN X0.here hx rfl (hb hby d10_13) rfl rfl hr) ?_
  exact Goes.ret (v := some (.ref a1)) X0 (by decide) (by decide) (fun h => by rw [Bd.returns] at h; cases h) ⟨rfl, N0, e0⟩ (fun fs hr => retOut X0 hx Bd.returns rfl (Or.inr (Or.inr (Or.inr (Or.inr ⟨rfl, rfl, rfl⟩)))) (hb hby d10_14) hr)
theorem d11_0 : decode jdk_30_method_1_code 0 = .ok (.aload_n 0, 1) := by decide +kernel
theorem d11_1 : decode jdk_30_method_1_code 1 = .ok (.invokespecial 1, 3) := by decide +kernel
theorem d11_4 : decode jdk_30_method_1_code 4 = .ok (.return_, 1) := by decide +kernel
theorem pn_java_lang_Record : plainName "java/lang/Record" = true := by first | (simp [plainName, overriddenIn]; done) | decide +kernel
def Q_rm_rec (Z : State) (a1 : Addr) (h0 : Heap) (n0 : Nat) (v : Option Value) (h : Heap) (L : List Loc) : Prop := v = none ∧ Fr n0 L ∧ h = h0
set_option maxRecDepth 65536 in
set_option maxHeartbeats 40000000 in
theorem rm_rec (l : Launch) (Z : State) (a0 : Array Value) (hw : ∀ d ∈ tables_1, d.before a0 Z = true) (ws : List Jvm.Cond) (a1 : Addr) (h0 : Heap) (n0 : Nat) (Z0 : n0 ≤ h0.size) (O0 : Old Z n0 h0) :
    MetFree l Y11 (head1 (Jvm.Cond.code Y11 jdk_30_method_1_code 1 none :: ws) ({ frames := 1, cells := 0, slots := 0, locals := 12 } : Room)) (fun a U => a = #[(.ref a1)] ∧ Z.Warmed39 U.vm ∧ U.heap = h0) (fun _ _ _ _ _ => True) (fun _ U o U' => ∃ v L, o = .returned v ∧ Q_rm_rec Z a1 h0 n0 v U'.heap L ∧ FrameEnd U o U' L ({ frames := 1, cells := 0, slots := 0, locals := 12 } : Room).cells ({ frames := 1, cells := 0, slots := 0, locals := 12 } : Room).slots) := by
  refine MetFree.of_bodySF (plainFor_of_name pn_java_lang_Record) hisR ?_
  intro p e s m args below meth c s₁ Bd hml0 hP hK
  obtain ⟨rfl, hZ, hh⟩ := hP
  have hx := Bd.exec
  have hby := Bd.bytes
  have hml : c.maxLocals = 1 := hml0
  have hown : s.vm.findClass "java/lang/Record" = some m.cls := findClass_of_methodNamed Bd.named
  have hnm := (name_of_methodNamed Bd.named Bd.method).1
  have X0 : Stand p l e ({ frames := 1, cells := 0, slots := 0, locals := 12 } : Room) s m #[(.ref a1)] below meth c s₁ [] 0 0 := Stand.of_body Bd
  have e0 : s₁.heap = h0 := by rw [← hh, Bd.state]; rfl
  have N0 := Fr.nil n0
  refine Goes.out (l := l) (c := c) (R := ({ frames := 1, cells := 0, slots := 0, locals := 12 } : Room)) (Q := Q_rm_rec Z a1 h0 n0) Bd.notSynchronized ?_
  refine Goes.cast (g2 := mkF m 0 #[rv a1] []) (by first | (simp [entryFrame, mkF, argsToLocals, Value.category]; done) | rfl) ?_
  have K0 : Keep h0 h0 [] := Keep.refl h0 _
  have hws : ∀ x ∈ ([] : List Addr), n0 ≤ x := all0
  refine Goes.step (T2 := s₁) (g2 := (mkF m 1 #[rv a1] [(.ref a1)])) (fun _ hr => XS.aloadN X0.here hx rfl (hb hby d11_0) rfl rfl hr) ?_
  have Zs34 : n0 ≤ h0.size := Nat.le_trans Z0 K0.1
  obtain ⟨T35, X35, e35, st35⟩ := initO X0 hx hZ hown (tw hw 49 rfl) (tw hw 12 rfl) (tw hw 13 rfl) e0 (g := (mkF m 1 #[rv a1] [(.ref a1)])) rfl (by rw [hml]; rfl) rfl (hb hby d11_1) (by decide) (W := 0) (by show 2 * 0 + _ ≤ _; exact Nat.le_of_eq rfl) (by decide)
  refine Goes.step (T2 := T35) (g2 := (mkF m 4 #[rv a1] [])) st35 ?_
  exact Goes.ret (v := none) X35 (by decide) (by decide) (fun _ => rfl) ⟨rfl, N0, e35⟩ (fun fs hr => X35.returnOut hx Bd.returns (hb hby d11_4) hr)
theorem d12_0 : decode prog_11_method_1_code 0 = .ok (.aload_n 0, 1) := by decide +kernel
theorem d12_1 : decode prog_11_method_1_code 1 = .ok (.invokespecial 1, 3) := by decide +kernel
theorem d12_4 : decode prog_11_method_1_code 4 = .ok (.aload_n 1, 1) := by decide +kernel
theorem d12_5 : decode prog_11_method_1_code 5 = .ok (.ldc 7, 2) := by decide +kernel
theorem d12_7 : decode prog_11_method_1_code 7 = .ok (.invokestatic 9, 3) := by decide +kernel
theorem d12_10 : decode prog_11_method_1_code 10 = .ok (.pop, 1) := by decide +kernel
theorem d12_11 : decode prog_11_method_1_code 11 = .ok (.aload 5, 2) := by decide +kernel
theorem d12_13 : decode prog_11_method_1_code 13 = .ok (.ldc 15, 2) := by decide +kernel
theorem d12_15 : decode prog_11_method_1_code 15 = .ok (.invokestatic 9, 3) := by decide +kernel
theorem d12_18 : decode prog_11_method_1_code 18 = .ok (.pop, 1) := by decide +kernel
theorem d12_19 : decode prog_11_method_1_code 19 = .ok (.aload_n 0, 1) := by decide +kernel
theorem d12_20 : decode prog_11_method_1_code 20 = .ok (.aload_n 1, 1) := by decide +kernel
theorem d12_21 : decode prog_11_method_1_code 21 = .ok (.putfield 17, 3) := by decide +kernel
theorem d12_24 : decode prog_11_method_1_code 24 = .ok (.aload_n 0, 1) := by decide +kernel
theorem d12_25 : decode prog_11_method_1_code 25 = .ok (.iload_n 2, 1) := by decide +kernel
theorem d12_26 : decode prog_11_method_1_code 26 = .ok (.putfield 22, 3) := by decide +kernel
theorem d12_29 : decode prog_11_method_1_code 29 = .ok (.aload_n 0, 1) := by decide +kernel
theorem d12_30 : decode prog_11_method_1_code 30 = .ok (.lload_n 3, 1) := by decide +kernel
theorem d12_31 : decode prog_11_method_1_code 31 = .ok (.putfield 26, 3) := by decide +kernel
theorem d12_34 : decode prog_11_method_1_code 34 = .ok (.aload_n 0, 1) := by decide +kernel
theorem d12_35 : decode prog_11_method_1_code 35 = .ok (.aload 5, 2) := by decide +kernel
theorem d12_37 : decode prog_11_method_1_code 37 = .ok (.putfield 30, 3) := by decide +kernel
theorem d12_40 : decode prog_11_method_1_code 40 = .ok (.aload_n 0, 1) := by decide +kernel
theorem d12_41 : decode prog_11_method_1_code 41 = .ok (.lload 6, 2) := by decide +kernel
theorem d12_43 : decode prog_11_method_1_code 43 = .ok (.putfield 33, 3) := by decide +kernel
theorem d12_46 : decode prog_11_method_1_code 46 = .ok (.aload_n 0, 1) := by decide +kernel
theorem d12_47 : decode prog_11_method_1_code 47 = .ok (.lload 8, 2) := by decide +kernel
theorem d12_49 : decode prog_11_method_1_code 49 = .ok (.putfield 36, 3) := by decide +kernel
theorem d12_52 : decode prog_11_method_1_code 52 = .ok (.return_, 1) := by decide +kernel
theorem pn_com_example_log_lag_gauge_loglaggauge_model_PartLooks : plainName "com/example/log_lag_gauge/loglaggauge/model/PartLooks" = true := by first | (simp [plainName, overriddenIn]; done) | decide +kernel
def Q_rm_pl0 (Z : State) (a1 : Addr) (w1 : Addr) (w2 : Addr) (q1 : Int64) (h0 : Heap) (n0 : Nat) (v : Option Value) (h : Heap) (L : List Loc) : Prop := v = none ∧ Fr n0 L ∧ Keep h0 h [a1] ∧ Fld Z h a1 "com/example/log_lag_gauge/loglaggauge/model/PartLooks" "part" "Ljava/lang/String;" (.ref w1) ∧ Fld Z h a1 "com/example/log_lag_gauge/loglaggauge/model/PartLooks" "succeeded" "Z" (.int (0 : Int32)) ∧ Fld Z h a1 "com/example/log_lag_gauge/loglaggauge/model/PartLooks" "durationMs" "J" (.long q1) ∧ Fld Z h a1 "com/example/log_lag_gauge/loglaggauge/model/PartLooks" "lastSuccessMs" "Ljava/util/OptionalLong;" (.ref w2) ∧ Fld Z h a1 "com/example/log_lag_gauge/loglaggauge/model/PartLooks" "looks" "J" (.long (1 : Int64)) ∧ Fld Z h a1 "com/example/log_lag_gauge/loglaggauge/model/PartLooks" "failures" "J" (.long (1 : Int64))
set_option maxRecDepth 65536 in
set_option maxHeartbeats 40000000 in
theorem rm_pl0 (l : Launch) (Z : State) (a0 : Array Value) (hw : ∀ d ∈ tables_1, d.before a0 Z = true) (ws : List Jvm.Cond) (a1 : Addr) (w1 : Addr) (w2 : Addr) (q1 : Int64) (h0 : Heap) (n0 : Nat) (Z0 : n0 ≤ h0.size) (O0 : Old Z n0 h0) (E_a1 : Exa Z h0 a1 "com/example/log_lag_gauge/loglaggauge/model/PartLooks") (F_a1_part : Fld Z h0 a1 "com/example/log_lag_gauge/loglaggauge/model/PartLooks" "part" "Ljava/lang/String;" .null) (F_a1_succeeded : Fld Z h0 a1 "com/example/log_lag_gauge/loglaggauge/model/PartLooks" "succeeded" "Z" (.int (0 : Int32))) (F_a1_durationMs : Fld Z h0 a1 "com/example/log_lag_gauge/loglaggauge/model/PartLooks" "durationMs" "J" (.long (0 : Int64))) (F_a1_lastSuccessMs : Fld Z h0 a1 "com/example/log_lag_gauge/loglaggauge/model/PartLooks" "lastSuccessMs" "Ljava/util/OptionalLong;" .null) (F_a1_looks : Fld Z h0 a1 "com/example/log_lag_gauge/loglaggauge/model/PartLooks" "looks" "J" (.long (0 : Int64))) (F_a1_failures : Fld Z h0 a1 "com/example/log_lag_gauge/loglaggauge/model/PartLooks" "failures" "J" (.long (0 : Int64))) (ge_a1 : n0 ≤ a1) :
    MetFree l Y12 (head1 (Jvm.Cond.code Y12 prog_11_method_1_code 10 none :: ws) ({ frames := 2, cells := 4, slots := 76, locals := 24 } : Room)) (fun a U => a = #[(.ref a1), (.ref w1), (.int (0 : Int32)), (.long q1), (.ref w2), (.long (1 : Int64)), (.long (1 : Int64))] ∧ Z.Warmed39 U.vm ∧ U.heap = h0) (fun _ _ _ _ _ => True) (fun _ U o U' => ∃ v L, o = .returned v ∧ Q_rm_pl0 Z a1 w1 w2 q1 h0 n0 v U'.heap L ∧ ReturnedEndW U o U' L ({ frames := 2, cells := 4, slots := 76, locals := 24 } : Room).cells ({ frames := 2, cells := 4, slots := 76, locals := 24 } : Room).slots) := by
  refine MetFree.of_bodySF (plainFor_of_name pn_com_example_log_lag_gauge_loglaggauge_model_PartLooks) hisR ?_
  intro p e s m args below meth c s₁ Bd hml0 hP hK
  obtain ⟨rfl, hZ, hh⟩ := hP
  have hx := Bd.exec
  have hby := Bd.bytes
  have hml : c.maxLocals = 10 := hml0
  have hown : s.vm.findClass "com/example/log_lag_gauge/loglaggauge/model/PartLooks" = some m.cls := findClass_of_methodNamed Bd.named
  have hnm := (name_of_methodNamed Bd.named Bd.method).1
  have X0 : Stand p l e ({ frames := 2, cells := 4, slots := 76, locals := 24 } : Room) (s.setVm s.vm) m #[(.ref a1), (.ref w1), (.int (0 : Int32)), (.long q1), (.ref w2), (.long (1 : Int64)), (.long (1 : Int64))] below meth c s₁ [] 0 0 := Stand.of_body Bd
  have e0 : s₁.heap = h0 := by rw [← hh, Bd.state]; rfl
  have N0 := Fr.nil n0
  refine GoesW.out (l := l) (c := c) (R := ({ frames := 2, cells := 4, slots := 76, locals := 24 } : Room)) (Q := Q_rm_pl0 Z a1 w1 w2 q1 h0 n0) Bd.notSynchronized ?_
  refine GoesW.cast (g2 := mkF m 0 #[rv a1, rv w1, iv 0, .val (.long q1), .second, rv w2, .val (.long (1 : Int64)), .second, .val (.long (1 : Int64)), .second] []) (by first | (simp [entryFrame, mkF, argsToLocals, Value.category]; done) | rfl) ?_
  have K0 : Keep h0 h0 [a1] := Keep.refl h0 _
  have hws : ∀ x ∈ [a1], n0 ≤ x := (allS ge_a1 all0)
  have Sn0 : s.Since s.vm 0 := (State.WarmedH.refl s).since 0
  have kle0 : 0 ≤ h0.size := Nat.zero_le _
  have wSA := own_wsa hw
  refine GoesW.step (T2 := s₁) (g2 := (mkF m 1 #[rv a1, rv w1, iv 0, .val (.long q1), .second, rv w2, .val (.long (1 : Int64)), .second, .val (.long (1 : Int64)), .second] [(.ref a1)])) (fun _ hr => XS.aloadN X0.here hx rfl (hb hby d12_0) rfl rfl hr) ?_
  have Zs36 : n0 ≤ h0.size := Nat.le_trans Z0 K0.1
  obtain ⟨_, _, ⟨T37, L37, k37, n37⟩, -, X37, ⟨Lc37, hQ37, l37, y37, z37⟩, st37⟩ := X0.specialBack hx (y := Y11) rfl hown (mvT hZ (tw hw 44 rfl)) (mvT hZ (tw hw 45 rfl)) (mvT hZ (tw hw 48 rfl)) (by decide) (backOf (W := 0) (rm_rec l Z a0 hw [] a1 h0 n0 Zs36 (Old.keep O0 K0 hws)) hZ (tw hw 48 rfl) (tw hw 47 rfl) (by decide) (by decide)) (g := (mkF m 1 #[rv a1, rv w1, iv 0, .val (.long q1), .second, rv w2, .val (.long (1 : Int64)), .second, .val (.long (1 : Int64)), .second] [(.ref a1)])) rfl (by rw [hml]; rfl) (Steps.refl _) (a := a1) (argsL := []) (rest := []) (lenOf pd_5 rfl) rfl (by show 2 * 0 + _ ≤ _; exact Nat.le_of_eq rfl) (hb hby d12_1) (fun _ _ => ⟨rfl, e0, (by decide : 0 + 0 ≤ _), (by decide : 0 + 0 ≤ _)⟩)
  dsimp only [Pt.U, Pt.locs, Pt.cells, Pt.slots] at X37 l37 y37 z37 st37 hQ37
  subst l37 y37 z37
  obtain ⟨rfl, N37q, e37⟩ := hQ37
  have N37 := Fr.app N0 N37q
  refine GoesW.step (T2 := T37) (g2 := (mkF m 4 #[rv a1, rv w1, iv 0, .val (.long q1), .second, rv w2, .val (.long (1 : Int64)), .second, .val (.long (1 : Int64)), .second] [])) (fun _ hr => st37.trans hr) ?_
  refine GoesW.step (T2 := T37) (g2 := (mkF m 5 #[rv a1, rv w1, iv 0, .val (.long q1), .second, rv w2, .val (.long (1 : Int64)), .second, .val (.long (1 : Int64)), .second] [(.ref w1)])) (fun _ hr => XS.aloadN X37.here hx rfl (hb hby d12_4) rfl rfl hr) ?_
  obtain ⟨a38, T38, h38, j38, X38, e38, E38, Sn38, kle38q, hZ38, hown38, st38⟩ := ldcS X37 hx hZ hown (tw hw 50 rfl) wSA e37 Sn0 kle0 (g := (mkF m 5 #[rv a1, rv w1, iv 0, .val (.long q1), .second, rv w2, .val (.long (1 : Int64)), .second, .val (.long (1 : Int64)), .second] [(.ref w1)])) rfl (hb hby d12_5) (n := 16) (by decide) (by decide) (by decide) (by decide)
  have E_a1_38 : Exa Z h38 a1 "com/example/log_lag_gauge/loglaggauge/model/PartLooks" := E_a1.ext E38
  have F_a1_part_38 : Fld Z h38 a1 "com/example/log_lag_gauge/loglaggauge/model/PartLooks" "part" "Ljava/lang/String;" .null := F_a1_part.ext E38
  have F_a1_succeeded_38 : Fld Z h38 a1 "com/example/log_lag_gauge/loglaggauge/model/PartLooks" "succeeded" "Z" (.int (0 : Int32)) := F_a1_succeeded.ext E38
  have F_a1_durationMs_38 : Fld Z h38 a1 "com/example/log_lag_gauge/loglaggauge/model/PartLooks" "durationMs" "J" (.long (0 : Int64)) := F_a1_durationMs.ext E38
  have F_a1_lastSuccessMs_38 : Fld Z h38 a1 "com/example/log_lag_gauge/loglaggauge/model/PartLooks" "lastSuccessMs" "Ljava/util/OptionalLong;" .null := F_a1_lastSuccessMs.ext E38
  have F_a1_looks_38 : Fld Z h38 a1 "com/example/log_lag_gauge/loglaggauge/model/PartLooks" "looks" "J" (.long (0 : Int64)) := F_a1_looks.ext E38
  have F_a1_failures_38 : Fld Z h38 a1 "com/example/log_lag_gauge/loglaggauge/model/PartLooks" "failures" "J" (.long (0 : Int64)) := F_a1_failures.ext E38
  have K38 : Keep h0 h38 [a1] := K0.ext E38
  refine GoesW.step (T2 := T38) (g2 := (mkF m 7 #[rv a1, rv w1, iv 0, .val (.long q1), .second, rv w2, .val (.long (1 : Int64)), .second, .val (.long (1 : Int64)), .second] [(.ref a38), (.ref w1)])) st38 ?_
  have Zs39 : n0 ≤ h38.size := Nat.le_trans Z0 K38.1
  obtain ⟨_, _, ⟨T40, L40, k40, n40⟩, -, X40, ⟨Lc40, hQ40, l40, y40, z40⟩, st40⟩ := Jvm.LawKit.callS X38 hx (y := Y10) hown38 (mvT hZ38 (tw hw 53 rfl)) (mvT hZ38 (tw hw 54 rfl)) (mvT hZ38 (tw hw 55 rfl)) (mvT hZ38 (tw hw 56 rfl)) (by decide) (backOf (W := 0) (rm_rnn2 l Z a0 hw [] w1 a38 h38 n0 Zs39 (Old.keep O0 K38 hws)) hZ38 (tw hw 56 rfl) (tw hw 55 rfl) (by decide) (by decide)) (g := (mkF m 7 #[rv a1, rv w1, iv 0, .val (.long q1), .second, rv w2, .val (.long (1 : Int64)), .second, .val (.long (1 : Int64)), .second] [(.ref a38), (.ref w1)])) rfl (by rw [hml]; rfl) (argsL := [(.ref w1), (.ref a38)]) (rest := []) (lenOf pd_6 rfl) rfl (by show 2 * 0 + _ ≤ _; exact Nat.le_of_eq rfl) (hb hby d12_7) (fun _ _ => ⟨rfl, e38, (by decide : 2 + 0 ≤ _), (by decide : 20 + 0 ≤ _)⟩)
  dsimp only [Pt.U, Pt.locs, Pt.cells, Pt.slots] at X40 l40 y40 z40 st40 hQ40
  subst l40 y40 z40
  obtain ⟨rfl, N40q, e40⟩ := hQ40
  have N40 := Fr.app N37 N40q
  refine GoesW.step (T2 := T40) (g2 := (mkF m 10 #[rv a1, rv w1, iv 0, .val (.long q1), .second, rv w2, .val (.long (1 : Int64)), .second, .val (.long (1 : Int64)), .second] [(.ref w1)])) st40 ?_
  refine GoesW.step (T2 := T40) (g2 := (mkF m 11 #[rv a1, rv w1, iv 0, .val (.long q1), .second, rv w2, .val (.long (1 : Int64)), .second, .val (.long (1 : Int64)), .second] [])) (fun _ hr => Jvm.Free.XT.pop X40.here hx rfl (hb hby d12_10) rfl rfl hr) ?_
  refine GoesW.step (T2 := T40) (g2 := (mkF m 13 #[rv a1, rv w1, iv 0, .val (.long q1), .second, rv w2, .val (.long (1 : Int64)), .second, .val (.long (1 : Int64)), .second] [(.ref w2)])) (fun _ hr => XS.aload X40.here hx rfl (hb hby d12_11) rfl rfl hr) ?_
  obtain ⟨a41, T41, h41, j41, X41, e41, E41, Sn41, kle41q, hZ41, hown41, st41⟩ := ldcS X40 hx hZ38 hown38 (tw hw 57 rfl) wSA e40 Sn38 kle38q (g := (mkF m 13 #[rv a1, rv w1, iv 0, .val (.long q1), .second, rv w2, .val (.long (1 : Int64)), .second, .val (.long (1 : Int64)), .second] [(.ref w2)])) rfl (hb hby d12_13) (n := 52) (by decide) (by decide) (by decide) (by decide)
  have E_a1_41 : Exa Z h41 a1 "com/example/log_lag_gauge/loglaggauge/model/PartLooks" := E_a1_38.ext E41
  have F_a1_part_41 : Fld Z h41 a1 "com/example/log_lag_gauge/loglaggauge/model/PartLooks" "part" "Ljava/lang/String;" .null := F_a1_part_38.ext E41
  have F_a1_succeeded_41 : Fld Z h41 a1 "com/example/log_lag_gauge/loglaggauge/model/PartLooks" "succeeded" "Z" (.int (0 : Int32)) := F_a1_succeeded_38.ext E41
  have F_a1_durationMs_41 : Fld Z h41 a1 "com/example/log_lag_gauge/loglaggauge/model/PartLooks" "durationMs" "J" (.long (0 : Int64)) := F_a1_durationMs_38.ext E41
  have F_a1_lastSuccessMs_41 : Fld Z h41 a1 "com/example/log_lag_gauge/loglaggauge/model/PartLooks" "lastSuccessMs" "Ljava/util/OptionalLong;" .null := F_a1_lastSuccessMs_38.ext E41
  have F_a1_looks_41 : Fld Z h41 a1 "com/example/log_lag_gauge/loglaggauge/model/PartLooks" "looks" "J" (.long (0 : Int64)) := F_a1_looks_38.ext E41
  have F_a1_failures_41 : Fld Z h41 a1 "com/example/log_lag_gauge/loglaggauge/model/PartLooks" "failures" "J" (.long (0 : Int64)) := F_a1_failures_38.ext E41
  have K41 : Keep h0 h41 [a1] := K38.ext E41
  refine GoesW.step (T2 := T41) (g2 := (mkF m 15 #[rv a1, rv w1, iv 0, .val (.long q1), .second, rv w2, .val (.long (1 : Int64)), .second, .val (.long (1 : Int64)), .second] [(.ref a41), (.ref w2)])) st41 ?_
  have Zs42 : n0 ≤ h41.size := Nat.le_trans Z0 K41.1
  obtain ⟨_, _, ⟨T43, L43, k43, n43⟩, -, X43, ⟨Lc43, hQ43, l43, y43, z43⟩, st43⟩ := Jvm.LawKit.callS X41 hx (y := Y10) hown41 (mvT hZ41 (tw hw 53 rfl)) (mvT hZ41 (tw hw 54 rfl)) (mvT hZ41 (tw hw 55 rfl)) (mvT hZ41 (tw hw 56 rfl)) (by decide) (backOf (W := 0) (rm_rnn2 l Z a0 hw [] w2 a41 h41 n0 Zs42 (Old.keep O0 K41 hws)) hZ41 (tw hw 56 rfl) (tw hw 55 rfl) (by decide) (by decide)) (g := (mkF m 15 #[rv a1, rv w1, iv 0, .val (.long q1), .second, rv w2, .val (.long (1 : Int64)), .second, .val (.long (1 : Int64)), .second] [(.ref a41), (.ref w2)])) rfl (by rw [hml]; rfl) (argsL := [(.ref w2), (.ref a41)]) (rest := []) (lenOf pd_6 rfl) rfl (by show 2 * 0 + _ ≤ _; exact Nat.le_of_eq rfl) (hb hby d12_15) (fun _ _ => ⟨rfl, e41, (by decide : 4 + 0 ≤ _), (by decide : 76 + 0 ≤ _)⟩)
  dsimp only [Pt.U, Pt.locs, Pt.cells, Pt.slots] at X43 l43 y43 z43 st43 hQ43
  subst l43 y43 z43
  obtain ⟨rfl, N43q, e43⟩ := hQ43
  have N43 := Fr.app N40 N43q
  refine GoesW.step (T2 := T43) (g2 := (mkF m 18 #[rv a1, rv w1, iv 0, .val (.long q1), .second, rv w2, .val (.long (1 : Int64)), .second, .val (.long (1 : Int64)), .second] [(.ref w2)])) st43 ?_
  refine GoesW.step (T2 := T43) (g2 := (mkF m 19 #[rv a1, rv w1, iv 0, .val (.long q1), .second, rv w2, .val (.long (1 : Int64)), .second, .val (.long (1 : Int64)), .second] [])) (fun _ hr => Jvm.Free.XT.pop X43.here hx rfl (hb hby d12_18) rfl rfl hr) ?_
  refine GoesW.step (T2 := T43) (g2 := (mkF m 20 #[rv a1, rv w1, iv 0, .val (.long q1), .second, rv w2, .val (.long (1 : Int64)), .second, .val (.long (1 : Int64)), .second] [(.ref a1)])) (fun _ hr => XS.aloadN X43.here hx rfl (hb hby d12_19) rfl rfl hr) ?_
  refine GoesW.step (T2 := T43) (g2 := (mkF m 21 #[rv a1, rv w1, iv 0, .val (.long q1), .second, rv w2, .val (.long (1 : Int64)), .second, .val (.long (1 : Int64)), .second] [(.ref w1), (.ref a1)])) (fun _ hr => XS.aloadN X43.here hx rfl (hb hby d12_20) rfl rfl hr) ?_
  obtain ⟨T44, h44, X44, e44, W44, st44⟩ := putF X43 hx hZ41 hown41 (host := "") (Or.inl (tw hw 58 rfl)) Via.refl e43 F_a1_part_41 E_a1_41 (Or.inr ⟨(tw hw 59 rfl), rfl, hnm⟩) (tw hw 40 rfl) (ty := (.object "java/lang/String")) (by decide) rfl rfl (g := (mkF m 21 #[rv a1, rv w1, iv 0, .val (.long q1), .second, rv w2, .val (.long (1 : Int64)), .second, .val (.long (1 : Int64)), .second] [(.ref w1), (.ref a1)])) rfl rfl (hb hby d12_21)
  have E_a1_44 : Exa Z h44 a1 "com/example/log_lag_gauge/loglaggauge/model/PartLooks" := E_a1_41.wr W44
  have F_a1_succeeded_44 : Fld Z h44 a1 "com/example/log_lag_gauge/loglaggauge/model/PartLooks" "succeeded" "Z" (.int (0 : Int32)) := F_a1_succeeded_41.other W44 (Or.inr (slot_ne (Or.inr (tw hw 61 rfl)) (Or.inr (tw hw 59 rfl)) (by decide) (t := .boolean) (t' := (.object "java/lang/String")) (by decide) (by decide)))
  have F_a1_durationMs_44 : Fld Z h44 a1 "com/example/log_lag_gauge/loglaggauge/model/PartLooks" "durationMs" "J" (.long (0 : Int64)) := F_a1_durationMs_41.other W44 (Or.inr (slot_ne (Or.inr (tw hw 63 rfl)) (Or.inr (tw hw 59 rfl)) (by decide) (t := .long) (t' := (.object "java/lang/String")) (by decide) (by decide)))
  have F_a1_lastSuccessMs_44 : Fld Z h44 a1 "com/example/log_lag_gauge/loglaggauge/model/PartLooks" "lastSuccessMs" "Ljava/util/OptionalLong;" .null := F_a1_lastSuccessMs_41.other W44 (Or.inr (slot_ne (Or.inr (tw hw 65 rfl)) (Or.inr (tw hw 59 rfl)) (by decide) (t := (.object "java/util/OptionalLong")) (t' := (.object "java/lang/String")) (by decide) (by decide)))
  have F_a1_looks_44 : Fld Z h44 a1 "com/example/log_lag_gauge/loglaggauge/model/PartLooks" "looks" "J" (.long (0 : Int64)) := F_a1_looks_41.other W44 (Or.inr (slot_ne (Or.inr (tw hw 67 rfl)) (Or.inr (tw hw 59 rfl)) (by decide) (t := .long) (t' := (.object "java/lang/String")) (by decide) (by decide)))
  have F_a1_failures_44 : Fld Z h44 a1 "com/example/log_lag_gauge/loglaggauge/model/PartLooks" "failures" "J" (.long (0 : Int64)) := F_a1_failures_41.other W44 (Or.inr (slot_ne (Or.inr (tw hw 69 rfl)) (Or.inr (tw hw 59 rfl)) (by decide) (t := .long) (t' := (.object "java/lang/String")) (by decide) (by decide)))
  have K44 : Keep h0 h44 [a1] := K41.wr W44 (Or.inl (List.mem_of_getElem? (i := 0) rfl))
  have kle44 : j41 ≤ h44.size := Nat.le_trans kle41q (Nat.le_of_eq W44.size.symm)
  have N44 := Fr.snoc X44 N43 ge_a1
  have F_a1_part_44 : Fld Z h44 a1 "com/example/log_lag_gauge/loglaggauge/model/PartLooks" "part" "Ljava/lang/String;" (.ref w1) := F_a1_part_41.same W44
  refine GoesW.step (T2 := T44) (g2 := (mkF m 24 #[rv a1, rv w1, iv 0, .val (.long q1), .second, rv w2, .val (.long (1 : Int64)), .second, .val (.long (1 : Int64)), .second] [])) st44 ?_
  refine GoesW.step (T2 := T44) (g2 := (mkF m 25 #[rv a1, rv w1, iv 0, .val (.long q1), .second, rv w2, .val (.long (1 : Int64)), .second, .val (.long (1 : Int64)), .second] [(.ref a1)])) (fun _ hr => XS.aloadN X44.here hx rfl (hb hby d12_24) rfl rfl hr) ?_
  refine GoesW.step (T2 := T44) (g2 := (mkF m 26 #[rv a1, rv w1, iv 0, .val (.long q1), .second, rv w2, .val (.long (1 : Int64)), .second, .val (.long (1 : Int64)), .second] [(.int (0 : Int32)), (.ref a1)])) (fun _ hr => XS.iloadN X44.here hx rfl (hb hby d12_25) rfl  hr) ?_
  obtain ⟨T45, h45, X45, e45, W45, st45⟩ := putFN X44 hx hZ41 hown41 (tw hw 60 rfl) Via.refl e44 F_a1_succeeded_44 E_a1_44 (Or.inr ⟨(tw hw 61 rfl), rfl, hnm⟩) (tw hw 40 rfl) (ty := .boolean) (v' := (.int (0 : Int32))) (by decide) rfl rfl (g := (mkF m 26 #[rv a1, rv w1, iv 0, .val (.long q1), .second, rv w2, .val (.long (1 : Int64)), .second, .val (.long (1 : Int64)), .second] [(.int (0 : Int32)), (.ref a1)])) rfl rfl (hb hby d12_26)
  have E_a1_45 : Exa Z h45 a1 "com/example/log_lag_gauge/loglaggauge/model/PartLooks" := E_a1_44.wr W45
  have F_a1_durationMs_45 : Fld Z h45 a1 "com/example/log_lag_gauge/loglaggauge/model/PartLooks" "durationMs" "J" (.long (0 : Int64)) := F_a1_durationMs_44.other W45 (Or.inr (slot_ne (Or.inr (tw hw 63 rfl)) (Or.inr (tw hw 61 rfl)) (by decide) (t := .long) (t' := .boolean) (by decide) (by decide)))
  have F_a1_lastSuccessMs_45 : Fld Z h45 a1 "com/example/log_lag_gauge/loglaggauge/model/PartLooks" "lastSuccessMs" "Ljava/util/OptionalLong;" .null := F_a1_lastSuccessMs_44.other W45 (Or.inr (slot_ne (Or.inr (tw hw 65 rfl)) (Or.inr (tw hw 61 rfl)) (by decide) (t := (.object "java/util/OptionalLong")) (t' := .boolean) (by decide) (by decide)))
  have F_a1_looks_45 : Fld Z h45 a1 "com/example/log_lag_gauge/loglaggauge/model/PartLooks" "looks" "J" (.long (0 : Int64)) := F_a1_looks_44.other W45 (Or.inr (slot_ne (Or.inr (tw hw 67 rfl)) (Or.inr (tw hw 61 rfl)) (by decide) (t := .long) (t' := .boolean) (by decide) (by decide)))
  have F_a1_failures_45 : Fld Z h45 a1 "com/example/log_lag_gauge/loglaggauge/model/PartLooks" "failures" "J" (.long (0 : Int64)) := F_a1_failures_44.other W45 (Or.inr (slot_ne (Or.inr (tw hw 69 rfl)) (Or.inr (tw hw 61 rfl)) (by decide) (t := .long) (t' := .boolean) (by decide) (by decide)))
  have F_a1_part_45 : Fld Z h45 a1 "com/example/log_lag_gauge/loglaggauge/model/PartLooks" "part" "Ljava/lang/String;" (.ref w1) := F_a1_part_44.other W45 (Or.inr (slot_ne (Or.inr (tw hw 59 rfl)) (Or.inr (tw hw 61 rfl)) (by decide) (t := (.object "java/lang/String")) (t' := .boolean) (by decide) (by decide)))
  have K45 : Keep h0 h45 [a1] := K44.wr W45 (Or.inl (List.mem_of_getElem? (i := 0) rfl))
  have kle45 : j41 ≤ h45.size := Nat.le_trans kle44 (Nat.le_of_eq W45.size.symm)
  have N45 := Fr.snoc X45 N44 ge_a1
  have F_a1_succeeded_45 : Fld Z h45 a1 "com/example/log_lag_gauge/loglaggauge/model/PartLooks" "succeeded" "Z" (.int (0 : Int32)) := F_a1_succeeded_44.same W45
  refine GoesW.step (T2 := T45) (g2 := (mkF m 29 #[rv a1, rv w1, iv 0, .val (.long q1), .second, rv w2, .val (.long (1 : Int64)), .second, .val (.long (1 : Int64)), .second] [])) st45 ?_
  refine GoesW.step (T2 := T45) (g2 := (mkF m 30 #[rv a1, rv w1, iv 0, .val (.long q1), .second, rv w2, .val (.long (1 : Int64)), .second, .val (.long (1 : Int64)), .second] [(.ref a1)])) (fun _ hr => XS.aloadN X45.here hx rfl (hb hby d12_29) rfl rfl hr) ?_
  refine GoesW.step (T2 := T45) (g2 := (mkF m 31 #[rv a1, rv w1, iv 0, .val (.long q1), .second, rv w2, .val (.long (1 : Int64)), .second, .val (.long (1 : Int64)), .second] [(.long q1), (.ref a1)])) (fun _ hr => Jvm.Free.XT.lloadN X45.here hx rfl (hb hby d12_30) rfl hr) ?_
  obtain ⟨T46, h46, X46, e46, W46, st46⟩ := putF X45 hx hZ41 hown41 (host := "") (Or.inl (tw hw 62 rfl)) Via.refl e45 F_a1_durationMs_45 E_a1_45 (Or.inr ⟨(tw hw 63 rfl), rfl, hnm⟩) (tw hw 40 rfl) (ty := .long) (by decide) rfl rfl (g := (mkF m 31 #[rv a1, rv w1, iv 0, .val (.long q1), .second, rv w2, .val (.long (1 : Int64)), .second, .val (.long (1 : Int64)), .second] [(.long q1), (.ref a1)])) rfl rfl (hb hby d12_31)
  have E_a1_46 : Exa Z h46 a1 "com/example/log_lag_gauge/loglaggauge/model/PartLooks" := E_a1_45.wr W46
  have F_a1_lastSuccessMs_46 : Fld Z h46 a1 "com/example/log_lag_gauge/loglaggauge/model/PartLooks" "lastSuccessMs" "Ljava/util/OptionalLong;" .null := F_a1_lastSuccessMs_45.other W46 (Or.inr (slot_ne (Or.inr (tw hw 65 rfl)) (Or.inr (tw hw 63 rfl)) (by decide) (t := (.object "java/util/OptionalLong")) (t' := .long) (by decide) (by decide)))
  have F_a1_looks_46 : Fld Z h46 a1 "com/example/log_lag_gauge/loglaggauge/model/PartLooks" "looks" "J" (.long (0 : Int64)) := F_a1_looks_45.other W46 (Or.inr (slot_ne (Or.inr (tw hw 67 rfl)) (Or.inr (tw hw 63 rfl)) (by decide) (t := .long) (t' := .long) (by decide) (by decide)))
  have F_a1_failures_46 : Fld Z h46 a1 "com/example/log_lag_gauge/loglaggauge/model/PartLooks" "failures" "J" (.long (0 : Int64)) := F_a1_failures_45.other W46 (Or.inr (slot_ne (Or.inr (tw hw 69 rfl)) (Or.inr (tw hw 63 rfl)) (by decide) (t := .long) (t' := .long) (by decide) (by decide)))
  have F_a1_part_46 : Fld Z h46 a1 "com/example/log_lag_gauge/loglaggauge/model/PartLooks" "part" "Ljava/lang/String;" (.ref w1) := F_a1_part_45.other W46 (Or.inr (slot_ne (Or.inr (tw hw 59 rfl)) (Or.inr (tw hw 63 rfl)) (by decide) (t := (.object "java/lang/String")) (t' := .long) (by decide) (by decide)))
  have F_a1_succeeded_46 : Fld Z h46 a1 "com/example/log_lag_gauge/loglaggauge/model/PartLooks" "succeeded" "Z" (.int (0 : Int32)) := F_a1_succeeded_45.other W46 (Or.inr (slot_ne (Or.inr (tw hw 61 rfl)) (Or.inr (tw hw 63 rfl)) (by decide) (t := .boolean) (t' := .long) (by decide) (by decide)))
  have K46 : Keep h0 h46 [a1] := K45.wr W46 (Or.inl (List.mem_of_getElem? (i := 0) rfl))
  have kle46 : j41 ≤ h46.size := Nat.le_trans kle45 (Nat.le_of_eq W46.size.symm)
  have N46 := Fr.snoc X46 N45 ge_a1
  have F_a1_durationMs_46 : Fld Z h46 a1 "com/example/log_lag_gauge/loglaggauge/model/PartLooks" "durationMs" "J" (.long q1) := F_a1_durationMs_45.same W46
  refine GoesW.step (T2 := T46) (g2 := (mkF m 34 #[rv a1, rv w1, iv 0, .val (.long q1), .second, rv w2, .val (.long (1 : Int64)), .second, .val (.long (1 : Int64)), .second] [])) st46 ?_
  refine GoesW.step (T2 := T46) (g2 := (mkF m 35 #[rv a1, rv w1, iv 0, .val (.long q1), .second, rv w2, .val (.long (1 : Int64)), .second, .val (.long (1 : Int64)), .second] [(.ref a1)])) (fun _ hr => XS.aloadN X46.here hx rfl (hb hby d12_34) rfl rfl hr) ?_
  refine GoesW.step (T2 := T46) (g2 := (mkF m 37 #[rv a1, rv w1, iv 0, .val (.long q1), .second, rv w2, .val (.long (1 : Int64)), .second, .val (.long (1 : Int64)), .second] [(.ref w2), (.ref a1)])) (fun _ hr => XS.aload X46.here hx rfl (hb hby d12_35) rfl rfl hr) ?_
  obtain ⟨T47, h47, X47, e47, W47, st47⟩ := putF X46 hx hZ41 hown41 (host := "") (Or.inl (tw hw 64 rfl)) Via.refl e46 F_a1_lastSuccessMs_46 E_a1_46 (Or.inr ⟨(tw hw 65 rfl), rfl, hnm⟩) (tw hw 40 rfl) (ty := (.object "java/util/OptionalLong")) (by decide) rfl rfl (g := (mkF m 37 #[rv a1, rv w1, iv 0, .val (.long q1), .second, rv w2, .val (.long (1 : Int64)), .second, .val (.long (1 : Int64)), .second] [(.ref w2), (.ref a1)])) rfl rfl (hb hby d12_37)
  have E_a1_47 : Exa Z h47 a1 "com/example/log_lag_gauge/loglaggauge/model/PartLooks" := E_a1_46.wr W47
  have F_a1_looks_47 : Fld Z h47 a1 "com/example/log_lag_gauge/loglaggauge/model/PartLooks" "looks" "J" (.long (0 : Int64)) := F_a1_looks_46.other W47 (Or.inr (slot_ne (Or.inr (tw hw 67 rfl)) (Or.inr (tw hw 65 rfl)) (by decide) (t := .long) (t' := (.object "java/util/OptionalLong")) (by decide) (by decide)))
  have F_a1_failures_47 : Fld Z h47 a1 "com/example/log_lag_gauge/loglaggauge/model/PartLooks" "failures" "J" (.long (0 : Int64)) := F_a1_failures_46.other W47 (Or.inr (slot_ne (Or.inr (tw hw 69 rfl)) (Or.inr (tw hw 65 rfl)) (by decide) (t := .long) (t' := (.object "java/util/OptionalLong")) (by decide) (by decide)))
  have F_a1_part_47 : Fld Z h47 a1 "com/example/log_lag_gauge/loglaggauge/model/PartLooks" "part" "Ljava/lang/String;" (.ref w1) := F_a1_part_46.other W47 (Or.inr (slot_ne (Or.inr (tw hw 59 rfl)) (Or.inr (tw hw 65 rfl)) (by decide) (t := (.object "java/lang/String")) (t' := (.object "java/util/OptionalLong")) (by decide) (by decide)))
  have F_a1_succeeded_47 : Fld Z h47 a1 "com/example/log_lag_gauge/loglaggauge/model/PartLooks" "succeeded" "Z" (.int (0 : Int32)) := F_a1_succeeded_46.other W47 (Or.inr (slot_ne (Or.inr (tw hw 61 rfl)) (Or.inr (tw hw 65 rfl)) (by decide) (t := .boolean) (t' := (.object "java/util/OptionalLong")) (by decide) (by decide)))
  have F_a1_durationMs_47 : Fld Z h47 a1 "com/example/log_lag_gauge/loglaggauge/model/PartLooks" "durationMs" "J" (.long q1) := F_a1_durationMs_46.other W47 (Or.inr (slot_ne (Or.inr (tw hw 63 rfl)) (Or.inr (tw hw 65 rfl)) (by decide) (t := .long) (t' := (.object "java/util/OptionalLong")) (by decide) (by decide)))
  have K47 : Keep h0 h47 [a1] := K46.wr W47 (Or.inl (List.mem_of_getElem? (i := 0) rfl))
  have kle47 : j41 ≤ h47.size := Nat.le_trans kle46 (Nat.le_of_eq W47.size.symm)
  have N47 := Fr.snoc X47 N46 ge_a1
  have F_a1_lastSuccessMs_47 : Fld Z h47 a1 "com/example/log_lag_gauge/loglaggauge/model/PartLooks" "lastSuccessMs" "Ljava/util/OptionalLong;" (.ref w2) := F_a1_lastSuccessMs_46.same W47
  refine GoesW.step (T2 := T47) (g2 := (mkF m 40 #[rv a1, rv w1, iv 0, .val (.long q1), .second, rv w2, .val (.long (1 : Int64)), .second, .val (.long (1 : Int64)), .second] [])) st47 ?_
  refine GoesW.step (T2 := T47) (g2 := (mkF m 41 #[rv a1, rv w1, iv 0, .val (.long q1), .second, rv w2, .val (.long (1 : Int64)), .second, .val (.long (1 : Int64)), .second] [(.ref a1)])) (fun _ hr => XS.aloadN X47.here hx rfl (hb hby d12_40) rfl rfl hr) ?_
  refine GoesW.step (T2 := T47) (g2 := (mkF m 43 #[rv a1, rv w1, iv 0, .val (.long q1), .second, rv w2, .val (.long (1 : Int64)), .second, .val (.long (1 : Int64)), .second] [(.long (1 : Int64)), (.ref a1)])) (fun _ hr => Jvm.Free.XT.lload X47.here hx rfl (hb hby d12_41) rfl hr) ?_
  obtain ⟨T48, h48, X48, e48, W48, st48⟩ := putF X47 hx hZ41 hown41 (host := "") (Or.inl (tw hw 66 rfl)) Via.refl e47 F_a1_looks_47 E_a1_47 (Or.inr ⟨(tw hw 67 rfl), rfl, hnm⟩) (tw hw 40 rfl) (ty := .long) (by decide) rfl rfl (g := (mkF m 43 #[rv a1, rv w1, iv 0, .val (.long q1), .second, rv w2, .val (.long (1 : Int64)), .second, .val (.long (1 : Int64)), .second] [(.long (1 : Int64)), (.ref a1)])) rfl rfl (hb hby d12_43)
  have E_a1_48 : Exa Z h48 a1 "com/example/log_lag_gauge/loglaggauge/model/PartLooks" := E_a1_47.wr W48
  have F_a1_failures_48 : Fld Z h48 a1 "com/example/log_lag_gauge/loglaggauge/model/PartLooks" "failures" "J" (.long (0 : Int64)) := F_a1_failures_47.other W48 (Or.inr (slot_ne (Or.inr (tw hw 69 rfl)) (Or.inr (tw hw 67 rfl)) (by decide) (t := .long) (t' := .long) (by decide) (by decide)))
  have F_a1_part_48 : Fld Z h48 a1 "com/example/log_lag_gauge/loglaggauge/model/PartLooks" "part" "Ljava/lang/String;" (.ref w1) := F_a1_part_47.other W48 (Or.inr (slot_ne (Or.inr (tw hw 59 rfl)) (Or.inr (tw hw 67 rfl)) (by decide) (t := (.object "java/lang/String")) (t' := .long) (by decide) (by decide)))
  have F_a1_succeeded_48 : Fld Z h48 a1 "com/example/log_lag_gauge/loglaggauge/model/PartLooks" "succeeded" "Z" (.int (0 : Int32)) := F_a1_succeeded_47.other W48 (Or.inr (slot_ne (Or.inr (tw hw 61 rfl)) (Or.inr (tw hw 67 rfl)) (by decide) (t := .boolean) (t' := .long) (by decide) (by decide)))
  have F_a1_durationMs_48 : Fld Z h48 a1 "com/example/log_lag_gauge/loglaggauge/model/PartLooks" "durationMs" "J" (.long q1) := F_a1_durationMs_47.other W48 (Or.inr (slot_ne (Or.inr (tw hw 63 rfl)) (Or.inr (tw hw 67 rfl)) (by decide) (t := .long) (t' := .long) (by decide) (by decide)))
  have F_a1_lastSuccessMs_48 : Fld Z h48 a1 "com/example/log_lag_gauge/loglaggauge/model/PartLooks" "lastSuccessMs" "Ljava/util/OptionalLong;" (.ref w2) := F_a1_lastSuccessMs_47.other W48 (Or.inr (slot_ne (Or.inr (tw hw 65 rfl)) (Or.inr (tw hw 67 rfl)) (by decide) (t := (.object "java/util/OptionalLong")) (t' := .long) (by decide) (by decide)))
  have K48 : Keep h0 h48 [a1] := K47.wr W48 (Or.inl (List.mem_of_getElem? (i := 0) rfl))
  have kle48 : j41 ≤ h48.size := Nat.le_trans kle47 (Nat.le_of_eq W48.size.symm)
  have N48 := Fr.snoc X48 N47 ge_a1
  have F_a1_looks_48 : Fld Z h48 a1 "com/example/log_lag_gauge/loglaggauge/model/PartLooks" "looks" "J" (.long (1 : Int64)) := F_a1_looks_47.same W48
  refine GoesW.step (T2 := T48) (g2 := (mkF m 46 #[rv a1, rv w1, iv 0, .val (.long q1), .second, rv w2, .val (.long (1 : Int64)), .second, .val (.long (1 : Int64)), .second] [])) st48 ?_
  refine GoesW.step (T2 := T48) (g2 := (mkF m 47 #[rv a1, rv w1, iv 0, .val (.long q1), .second, rv w2, .val (.long (1 : Int64)), .second, .val (.long (1 : Int64)), .second] [(.ref a1)])) (fun _ hr => XS.aloadN X48.here hx rfl (hb hby d12_46) rfl rfl hr) ?_
  refine GoesW.step (T2 := T48) (g2 := (mkF m 49 #[rv a1, rv w1, iv 0, .val (.long q1), .second, rv w2, .val (.long (1 : Int64)), .second, .val (.long (1 : Int64)), .second] [(.long (1 : Int64)), (.ref a1)])) (fun _ hr => Jvm.Free.XT.lload X48.here hx rfl (hb hby d12_47) rfl hr) ?_
  obtain ⟨T49, h49, X49, e49, W49, st49⟩ := putF X48 hx hZ41 hown41 (host := "") (Or.inl (tw hw 68 rfl)) Via.refl e48 F_a1_failures_48 E_a1_48 (Or.inr ⟨(tw hw 69 rfl), rfl, hnm⟩) (tw hw 40 rfl) (ty := .long) (by decide) rfl rfl (g := (mkF m 49 #[rv a1, rv w1, iv 0, .val (.long q1), .second, rv w2, .val (.long (1 : Int64)), .second, .val (.long (1 : Int64)), .second] [(.long (1 : Int64)), (.ref a1)])) rfl rfl (hb hby d12_49)
  have E_a1_49 : Exa Z h49 a1 "com/example/log_lag_gauge/loglaggauge/model/PartLooks" := E_a1_48.wr W49
  have F_a1_part_49 : Fld Z h49 a1 "com/example/log_lag_gauge/loglaggauge/model/PartLooks" "part" "Ljava/lang/String;" (.ref w1) := F_a1_part_48.other W49 (Or.inr (slot_ne (Or.inr (tw hw 59 rfl)) (Or.inr (tw hw 69 rfl)) (by decide) (t := (.object "java/lang/String")) (t' := .long) (by decide) (by decide)))
  have F_a1_succeeded_49 : Fld Z h49 a1 "com/example/log_lag_gauge/loglaggauge/model/PartLooks" "succeeded" "Z" (.int (0 : Int32)) := F_a1_succeeded_48.other W49 (Or.inr (slot_ne (Or.inr (tw hw 61 rfl)) (Or.inr (tw hw 69 rfl)) (by decide) (t := .boolean) (t' := .long) (by decide) (by decide)))
  have F_a1_durationMs_49 : Fld Z h49 a1 "com/example/log_lag_gauge/loglaggauge/model/PartLooks" "durationMs" "J" (.long q1) := F_a1_durationMs_48.other W49 (Or.inr (slot_ne (Or.inr (tw hw 63 rfl)) (Or.inr (tw hw 69 rfl)) (by decide) (t := .long) (t' := .long) (by decide) (by decide)))
  have F_a1_lastSuccessMs_49 : Fld Z h49 a1 "com/example/log_lag_gauge/loglaggauge/model/PartLooks" "lastSuccessMs" "Ljava/util/OptionalLong;" (.ref w2) := F_a1_lastSuccessMs_48.other W49 (Or.inr (slot_ne (Or.inr (tw hw 65 rfl)) (Or.inr (tw hw 69 rfl)) (by decide) (t := (.object "java/util/OptionalLong")) (t' := .long) (by decide) (by decide)))
  have F_a1_looks_49 : Fld Z h49 a1 "com/example/log_lag_gauge/loglaggauge/model/PartLooks" "looks" "J" (.long (1 : Int64)) := F_a1_looks_48.other W49 (Or.inr (slot_ne (Or.inr (tw hw 67 rfl)) (Or.inr (tw hw 69 rfl)) (by decide) (t := .long) (t' := .long) (by decide) (by decide)))
  have K49 : Keep h0 h49 [a1] := K48.wr W49 (Or.inl (List.mem_of_getElem? (i := 0) rfl))
  have kle49 : j41 ≤ h49.size := Nat.le_trans kle48 (Nat.le_of_eq W49.size.symm)
  have N49 := Fr.snoc X49 N48 ge_a1
  have F_a1_failures_49 : Fld Z h49 a1 "com/example/log_lag_gauge/loglaggauge/model/PartLooks" "failures" "J" (.long (1 : Int64)) := F_a1_failures_48.same W49
  refine GoesW.step (T2 := T49) (g2 := (mkF m 52 #[rv a1, rv w1, iv 0, .val (.long q1), .second, rv w2, .val (.long (1 : Int64)), .second, .val (.long (1 : Int64)), .second] [])) st49 ?_
  exact GoesW.ret (v := none) X49 Sn41 (by rw [e49]; exact kle49) (by decide) (by decide) (fun _ => rfl) (by show Q_rm_pl0 Z a1 w1 w2 q1 h0 n0 _ T49.heap _; rw [e49]; exact ⟨rfl, N49, K49, F_a1_part_49, F_a1_succeeded_49, F_a1_durationMs_49, F_a1_lastSuccessMs_49, F_a1_looks_49, F_a1_failures_49⟩) (fun fs hr => X49.returnOut hx Bd.returns (hb hby d12_52) hr)
theorem d13_0 : decode prog_11_method_2_code 0 = .ok (.iload_n 1, 1) := by decide +kernel
theorem d13_1 : decode prog_11_method_2_code 1 = .ok (.ifCond .eq 16, 3) := by decide +kernel
theorem d13_17 : decode prog_11_method_2_code 17 = .ok (.invokestatic 45, 3) := by decide +kernel
theorem d13_20 : decode prog_11_method_2_code 20 = .ok (.astore 6, 2) := by decide +kernel
theorem d13_22 : decode prog_11_method_2_code 22 = .ok (.lconst 1, 1) := by decide +kernel
theorem d13_23 : decode prog_11_method_2_code 23 = .ok (.lstore 7, 2) := by decide +kernel
theorem d13_25 : decode prog_11_method_2_code 25 = .ok (.new 18, 3) := by decide +kernel
theorem d13_28 : decode prog_11_method_2_code 28 = .ok (.dup, 1) := by decide +kernel
theorem d13_29 : decode prog_11_method_2_code 29 = .ok (.aload_n 0, 1) := by decide +kernel
theorem d13_30 : decode prog_11_method_2_code 30 = .ok (.iload_n 1, 1) := by decide +kernel
theorem d13_31 : decode prog_11_method_2_code 31 = .ok (.lload_n 2, 1) := by decide +kernel
theorem d13_32 : decode prog_11_method_2_code 32 = .ok (.aload 6, 2) := by decide +kernel
theorem d13_34 : decode prog_11_method_2_code 34 = .ok (.lconst 1, 1) := by decide +kernel
theorem d13_35 : decode prog_11_method_2_code 35 = .ok (.lload 7, 2) := by decide +kernel
theorem d13_37 : decode prog_11_method_2_code 37 = .ok (.invokespecial 49, 3) := by decide +kernel
theorem d13_40 : decode prog_11_method_2_code 40 = .ok (.areturn, 1) := by decide +kernel
def Q_rm_one0 (Z : State) (w1 : Addr) (q1 : Int64) (q2 : Int64) (em : Addr) (h0 : Heap) (n0 : Nat) (v : Option Value) (h : Heap) (L : List Loc) : Prop := ∃ w : Addr, v = some (.ref w) ∧ Fr n0 L ∧ Keep h0 h [] ∧ h0.size ≤ w ∧ Exa Z h w "com/example/log_lag_gauge/loglaggauge/model/PartLooks" ∧ Fld Z h w "com/example/log_lag_gauge/loglaggauge/model/PartLooks" "part" "Ljava/lang/String;" (.ref w1) ∧ Fld Z h w "com/example/log_lag_gauge/loglaggauge/model/PartLooks" "succeeded" "Z" (.int (0 : Int32)) ∧ Fld Z h w "com/example/log_lag_gauge/loglaggauge/model/PartLooks" "durationMs" "J" (.long q1) ∧ Fld Z h w "com/example/log_lag_gauge/loglaggauge/model/PartLooks" "lastSuccessMs" "Ljava/util/OptionalLong;" (.ref em) ∧ Fld Z h w "com/example/log_lag_gauge/loglaggauge/model/PartLooks" "looks" "J" (.long (1 : Int64)) ∧ Fld Z h w "com/example/log_lag_gauge/loglaggauge/model/PartLooks" "failures" "J" (.long (1 : Int64))
set_option maxRecDepth 65536 in
set_option maxHeartbeats 40000000 in
theorem rm_one0 (l : Launch) (Z : State) (a0 : Array Value) (hw : ∀ d ∈ tables_1, d.before a0 Z = true) (ws : List Jvm.Cond) (w1 : Addr) (q1 : Int64) (q2 : Int64) (em : Addr) (h0 : Heap) (n0 : Nat) (Z0 : n0 ≤ h0.size) (O0 : Old Z n0 h0) (S_OptionalLong_EMPTY_old : Sta Z Z.heap "java/util/OptionalLong" "EMPTY" "Ljava/util/OptionalLong;" (.ref em)) (E_em_old : Exa Z Z.heap em "java/util/OptionalLong") (F_em_isPresent_old : Fld Z Z.heap em "java/util/OptionalLong" "isPresent" "Z" (.int (0 : Int32))) (F_em_value_old : Fld Z Z.heap em "java/util/OptionalLong" "value" "J" (.long (0 : Int64))) :
    MetFree l Y13 (head1 (Jvm.Cond.code Y13 prog_11_method_2_code 9 (some (.object "com/example/log_lag_gauge/loglaggauge/model/PartLooks")) :: ws) ({ frames := 3, cells := 5, slots := 82, locals := 46 } : Room)) (fun a U => a = #[(.ref w1), (.int (0 : Int32)), (.long q1), (.long q2)] ∧ Z.Warmed39 U.vm ∧ U.heap = h0) (fun _ _ _ _ _ => True) (fun _ U o U' => ∃ v L, o = .returned v ∧ Q_rm_one0 Z w1 q1 q2 em h0 n0 v U'.heap L ∧ ReturnedEndW U o U' L ({ frames := 3, cells := 5, slots := 82, locals := 46 } : Room).cells ({ frames := 3, cells := 5, slots := 82, locals := 46 } : Room).slots) := by
  refine MetFree.of_bodySF (plainFor_of_name pn_com_example_log_lag_gauge_loglaggauge_model_PartLooks) hisR ?_
  intro p e s m args below meth c s₁ Bd hml0 hP hK
  obtain ⟨rfl, hZ, hh⟩ := hP
  have hx := Bd.exec
  have hby := Bd.bytes
  have hml : c.maxLocals = 9 := hml0
  have hown : s.vm.findClass "com/example/log_lag_gauge/loglaggauge/model/PartLooks" = some m.cls := findClass_of_methodNamed Bd.named
  have hnm := (name_of_methodNamed Bd.named Bd.method).1
  have X0 : Stand p l e ({ frames := 3, cells := 5, slots := 82, locals := 46 } : Room) (s.setVm s.vm) m #[(.ref w1), (.int (0 : Int32)), (.long q1), (.long q2)] below meth c s₁ [] 0 0 := Stand.of_body Bd
  have e0 : s₁.heap = h0 := by rw [← hh, Bd.state]; rfl
  have N0 := Fr.nil n0
  refine GoesW.out (l := l) (c := c) (R := ({ frames := 3, cells := 5, slots := 82, locals := 46 } : Room)) (Q := Q_rm_one0 Z w1 q1 q2 em h0 n0) Bd.notSynchronized ?_
  refine GoesW.cast (g2 := mkF m 0 #[rv w1, iv 0, .val (.long q1), .second, .val (.long q2), .second, .unset, .unset, .unset] []) (by first | (simp [entryFrame, mkF, argsToLocals, Value.category]; done) | rfl) ?_
  have K0 : Keep h0 h0 [] := Keep.refl h0 _
  have hws : ∀ x ∈ ([] : List Addr), n0 ≤ x := all0
  have Sn0 : s.Since s.vm 0 := (State.WarmedH.refl s).since 0
  have kle0 : 0 ≤ h0.size := Nat.zero_le _
  have wSA := own_wsa hw
  refine GoesW.step (T2 := s₁) (g2 := (mkF m 1 #[rv w1, iv 0, .val (.long q1), .second, .val (.long q2), .second, .unset, .unset, .unset] [(.int (0 : Int32))])) (fun _ hr => XS.iloadN X0.here hx rfl (hb hby d13_0) rfl  hr) ?_
  refine GoesW.step (T2 := s₁) (g2 := (mkF m 17 #[rv w1, iv 0, .val (.long q1), .second, .val (.long q2), .second, .unset, .unset, .unset] [])) (fun _ hr => XS.ifYes X0.here hx rfl (pc0 := 1) (pc' := 17) rfl (hb hby d13_1) rfl ((if0 _ _).trans (teq (by decide : (0 : Int32) = (0 : Int32))).1) (by decide) (by decide) hr) ?_
  have Zs50 : n0 ≤ h0.size := Nat.le_trans Z0 K0.1
  obtain ⟨_, _, ⟨T51, L51, k51, n51⟩, -, X51, ⟨Lc51, hQ51, l51, y51, z51⟩, st51⟩ := Jvm.LawKit.callS X0 hx (y := Y7) hown (mvT hZ (tw hw 34 rfl)) (mvT hZ (tw hw 35 rfl)) (mvT hZ (tw hw 36 rfl)) (mvT hZ (tw hw 37 rfl)) (by decide) (backOf (W := 0) (rm_olem l Z a0 hw [] em h0 n0 Zs50 (Old.keep O0 K0 hws) S_OptionalLong_EMPTY_old) hZ (tw hw 37 rfl) (tw hw 36 rfl) (by decide) (by decide)) (g := (mkF m 17 #[rv w1, iv 0, .val (.long q1), .second, .val (.long q2), .second, .unset, .unset, .unset] [])) rfl (by rw [hml]; rfl) (argsL := []) (rest := []) (lenOf pd_7 rfl) rfl (by show 2 * 0 + _ ≤ _; exact Nat.le_of_eq rfl) (hb hby d13_17) (fun _ _ => ⟨rfl, e0, (by decide : 0 + 0 ≤ _), (by decide : 0 + 0 ≤ _)⟩)
  dsimp only [Pt.U, Pt.locs, Pt.cells, Pt.slots] at X51 l51 y51 z51 st51 hQ51
  subst l51 y51 z51
  obtain ⟨rfl, N51q, e51⟩ := hQ51
  have N51 := Fr.app N0 N51q
  refine GoesW.step (T2 := T51) (g2 := (mkF m 20 #[rv w1, iv 0, .val (.long q1), .second, .val (.long q2), .second, .unset, .unset, .unset] [(.ref em)])) st51 ?_
  refine GoesW.step (T2 := T51) (g2 := (mkF m 22 #[rv w1, iv 0, .val (.long q1), .second, .val (.long q2), .second, rv em, .unset, .unset] [])) (fun _ hr => XS.astore X51.here hx rfl (hb hby d13_20) rfl rfl (l' := #[rv w1, iv 0, .val (.long q1), .second, .val (.long q2), .second, rv em, .unset, .unset]) rfl hr) ?_
  refine GoesW.step (T2 := T51) (g2 := (mkF m 23 #[rv w1, iv 0, .val (.long q1), .second, .val (.long q2), .second, rv em, .unset, .unset] [(.long (1 : Int64))])) (fun _ hr => Jvm.Free.XT.lconst X51.here hx rfl (hb hby d13_22) hr) ?_
  refine GoesW.step (T2 := T51) (g2 := (mkF m 25 #[rv w1, iv 0, .val (.long q1), .second, .val (.long q2), .second, rv em, .val (.long (1 : Int64)), .second] [])) (fun _ hr => Jvm.Free.XT.lstore X51.here hx rfl (hb hby d13_23) rfl (l' := #[rv w1, iv 0, .val (.long q1), .second, .val (.long q2), .second, rv em, .val (.long (1 : Int64)), .second]) rfl hr) ?_
  obtain ⟨T52, h52, X52, e52, E52, A52, D52, -, st52⟩ := newO X51 hx hZ hown (tw hw 39 rfl) (tw hw 40 rfl) (tw hw 32 rfl) e51 (g := (mkF m 25 #[rv w1, iv 0, .val (.long q1), .second, .val (.long q2), .second, rv em, .val (.long (1 : Int64)), .second] [])) rfl (hb hby d13_25) (by decide) (by decide)
  obtain ⟨b52, g52⟩ : ∃ z, z = h0.size := ⟨_, rfl⟩
  rw [← g52] at A52 D52 st52
  have sz_b52 : h0.size ≤ b52 := Nat.le_trans K0.1 (Nat.le_of_eq g52.symm)
  have ge_b52 : n0 ≤ b52 := Nat.le_trans Z0 sz_b52
  have K52 : Keep h0 h52 [] := K0.ext E52
  have kle52 : 0 ≤ h52.size := Nat.le_trans kle0 E52.1
  have F_b52_part_52 : Fld Z h52 b52 "com/example/log_lag_gauge/loglaggauge/model/PartLooks" "part" "Ljava/lang/String;" .null := D52 (Or.inr (tw hw 59 rfl)) (ty := (.object "java/lang/String")) (by decide)
  have F_b52_succeeded_52 : Fld Z h52 b52 "com/example/log_lag_gauge/loglaggauge/model/PartLooks" "succeeded" "Z" (.int (0 : Int32)) := D52 (Or.inr (tw hw 61 rfl)) (ty := .boolean) (by decide)
  have F_b52_durationMs_52 : Fld Z h52 b52 "com/example/log_lag_gauge/loglaggauge/model/PartLooks" "durationMs" "J" (.long (0 : Int64)) := D52 (Or.inr (tw hw 63 rfl)) (ty := .long) (by decide)
  have F_b52_lastSuccessMs_52 : Fld Z h52 b52 "com/example/log_lag_gauge/loglaggauge/model/PartLooks" "lastSuccessMs" "Ljava/util/OptionalLong;" .null := D52 (Or.inr (tw hw 65 rfl)) (ty := (.object "java/util/OptionalLong")) (by decide)
  have F_b52_looks_52 : Fld Z h52 b52 "com/example/log_lag_gauge/loglaggauge/model/PartLooks" "looks" "J" (.long (0 : Int64)) := D52 (Or.inr (tw hw 67 rfl)) (ty := .long) (by decide)
  have F_b52_failures_52 : Fld Z h52 b52 "com/example/log_lag_gauge/loglaggauge/model/PartLooks" "failures" "J" (.long (0 : Int64)) := D52 (Or.inr (tw hw 69 rfl)) (ty := .long) (by decide)
  refine GoesW.step (T2 := T52) (g2 := (mkF m 28 #[rv w1, iv 0, .val (.long q1), .second, .val (.long q2), .second, rv em, .val (.long (1 : Int64)), .second] [(.ref b52)])) st52 ?_
  refine GoesW.step (T2 := T52) (g2 := (mkF m 29 #[rv w1, iv 0, .val (.long q1), .second, .val (.long q2), .second, rv em, .val (.long (1 : Int64)), .second] [(.ref b52), (.ref b52)])) (fun _ hr => XS.dup X52.here hx rfl (hb hby d13_28) rfl rfl hr) ?_
  refine GoesW.step (T2 := T52) (g2 := (mkF m 30 #[rv w1, iv 0, .val (.long q1), .second, .val (.long q2), .second, rv em, .val (.long (1 : Int64)), .second] [(.ref w1), (.ref b52), (.ref b52)])) (fun _ hr => XS.aloadN X52.here hx rfl (hb hby d13_29) rfl rfl hr) ?_
  refine GoesW.step (T2 := T52) (g2 := (mkF m 31 #[rv w1, iv 0, .val (.long q1), .second, .val (.long q2), .second, rv em, .val (.long (1 : Int64)), .second] [(.int (0 : Int32)), (.ref w1), (.ref b52), (.ref b52)])) (fun _ hr => XS.iloadN X52.here hx rfl (hb hby d13_30) rfl  hr) ?_
  refine GoesW.step (T2 := T52) (g2 := (mkF m 32 #[rv w1, iv 0, .val (.long q1), .second, .val (.long q2), .second, rv em, .val (.long (1 : Int64)), .second] [(.long q1), (.int (0 : Int32)), (.ref w1), (.ref b52), (.ref b52)])) (fun _ hr => Jvm.Free.XT.lloadN X52.here hx rfl (hb hby d13_31) rfl hr) ?_
  refine GoesW.step (T2 := T52) (g2 := (mkF m 34 #[rv w1, iv 0, .val (.long q1), .second, .val (.long q2), .second, rv em, .val (.long (1 : Int64)), .second] [(.ref em), (.long q1), (.int (0 : Int32)), (.ref w1), (.ref b52), (.ref b52)])) (fun _ hr => XS.aload X52.here hx rfl (hb hby d13_32) rfl rfl hr) ?_
  refine GoesW.step (T2 := T52) (g2 := (mkF m 35 #[rv w1, iv 0, .val (.long q1), .second, .val (.long q2), .second, rv em, .val (.long (1 : Int64)), .second] [(.long (1 : Int64)), (.ref em), (.long q1), (.int (0 : Int32)), (.ref w1), (.ref b52), (.ref b52)])) (fun _ hr => Jvm.Free.XT.lconst X52.here hx rfl (hb hby d13_34) hr) ?_
  refine GoesW.step (T2 := T52) (g2 := (mkF m 37 #[rv w1, iv 0, .val (.long q1), .second, .val (.long q2), .second, rv em, .val (.long (1 : Int64)), .second] [(.long (1 : Int64)), (.long (1 : Int64)), (.ref em), (.long q1), (.int (0 : Int32)), (.ref w1), (.ref b52), (.ref b52)])) (fun _ hr => Jvm.Free.XT.lload X52.here hx rfl (hb hby d13_35) rfl hr) ?_
  have Zs53 : n0 ≤ h52.size := Nat.le_trans Z0 K52.1
  obtain ⟨_, _, ⟨T54, L54, k54, n54⟩, -, X54, Sc54, gr54, ⟨Lc54, hQ54, l54, y54, z54⟩, st54⟩ := X52.specialBackS hx (y := Y12) rfl hown (mvT hZ (tw hw 41 rfl)) (mvT hZ (tw hw 42 rfl)) (mvT hZ (tw hw 43 rfl)) (by decide) (backOfS (W := 1) (rm_pl0 l Z a0 hw [] b52 w1 em q1 h52 n0 Zs53 (Old.keep O0 K52 hws) A52 F_b52_part_52 F_b52_succeeded_52 F_b52_durationMs_52 F_b52_lastSuccessMs_52 F_b52_looks_52 F_b52_failures_52 ge_b52) hZ (tw hw 43 rfl) (tw hw 32 rfl) (by decide) (by decide)) (g := (mkF m 37 #[rv w1, iv 0, .val (.long q1), .second, .val (.long q2), .second, rv em, .val (.long (1 : Int64)), .second] [(.long (1 : Int64)), (.long (1 : Int64)), (.ref em), (.long q1), (.int (0 : Int32)), (.ref w1), (.ref b52), (.ref b52)])) rfl (by rw [hml]; rfl) (Steps.refl _) (a := b52) (argsL := [(.ref w1), (.int (0 : Int32)), (.long q1), (.ref em), (.long (1 : Int64)), (.long (1 : Int64))]) (rest := [(.ref b52)]) (lenOf pd_8 rfl) rfl (by show 2 * 0 + _ ≤ _; exact Nat.le_of_eq rfl) (hb hby d13_37) (fun _ _ => ⟨rfl, e52, (by decide : 1 + 4 ≤ _), (by decide : 6 + 76 ≤ _)⟩)
  dsimp only [Pt.U, Pt.locs, Pt.cells, Pt.slots] at X54 l54 y54 z54 st54 hQ54 Sc54 gr54
  subst l54 y54 z54
  have Sn54 := Sn0.trans Sc54 (Nat.le_trans (show 0 ≤ T52.heap.size by rw [(e52 : T52.heap = h52)]; exact kle52) gr54)
  have hZ54 : Z.Warmed39 (s.setVm T54.vm).vm := State.Warmed39.trans (t := s.setVm s.vm) hZ Sc54.1
  have hown54 : (s.setVm T54.vm).vm.findClass "com/example/log_lag_gauge/loglaggauge/model/PartLooks" = some m.cls := by rw [show (s.setVm T54.vm).vm = T54.vm from rfl, Sc54.1.alike.findClass]; exact hown
  have kle54 : T54.heap.size ≤ T54.heap.size := Nat.le_refl _
  obtain ⟨rfl, N54q, Kc54, P54_0, P54_1, P54_2, P54_3, P54_4, P54_5⟩ := hQ54
  have N54 := Fr.app N51 N54q
  have E_b52_54 : Exa Z T54.heap b52 "com/example/log_lag_gauge/loglaggauge/model/PartLooks" := A52.keep Kc54
  have K54 : Keep h0 T54.heap [] := K52.trans Kc54 (allS (Or.inr sz_b52) all0)
  have F_b52_part_54c : Fld Z T54.heap b52 "com/example/log_lag_gauge/loglaggauge/model/PartLooks" "part" "Ljava/lang/String;" (.ref w1) := P54_0
  have F_b52_succeeded_54c : Fld Z T54.heap b52 "com/example/log_lag_gauge/loglaggauge/model/PartLooks" "succeeded" "Z" (.int (0 : Int32)) := P54_1
  have F_b52_durationMs_54c : Fld Z T54.heap b52 "com/example/log_lag_gauge/loglaggauge/model/PartLooks" "durationMs" "J" (.long q1) := P54_2
  have F_b52_lastSuccessMs_54c : Fld Z T54.heap b52 "com/example/log_lag_gauge/loglaggauge/model/PartLooks" "lastSuccessMs" "Ljava/util/OptionalLong;" (.ref em) := P54_3
  have F_b52_looks_54c : Fld Z T54.heap b52 "com/example/log_lag_gauge/loglaggauge/model/PartLooks" "looks" "J" (.long (1 : Int64)) := P54_4
  have F_b52_failures_54c : Fld Z T54.heap b52 "com/example/log_lag_gauge/loglaggauge/model/PartLooks" "failures" "J" (.long (1 : Int64)) := P54_5
  refine GoesW.step (T2 := T54) (g2 := (mkF m 40 #[rv w1, iv 0, .val (.long q1), .second, .val (.long q2), .second, rv em, .val (.long (1 : Int64)), .second] [(.ref b52)])) (fun _ hr => st54.trans hr) ?_
  exact GoesW.ret (v := some (.ref b52)) X54 Sn54 kle54 (by decide) (by decide) (fun h => by rw [Bd.returns] at h; cases h) (by show Q_rm_one0 Z w1 q1 q2 em h0 n0 _ T54.heap _; exact ⟨b52, rfl, N54, K54, sz_b52, E_b52_54, F_b52_part_54c, F_b52_succeeded_54c, F_b52_durationMs_54c, F_b52_lastSuccessMs_54c, F_b52_looks_54c, F_b52_failures_54c⟩) (fun fs hr => retOut X54 hx Bd.returns rfl (Or.inr (Or.inr (Or.inr (Or.inr ⟨rfl, rfl, rfl⟩)))) (hb hby d13_40) hr)
def Q_rm_pl1 (Z : State) (a1 : Addr) (w1 : Addr) (w2 : Addr) (q1 : Int64) (h0 : Heap) (n0 : Nat) (v : Option Value) (h : Heap) (L : List Loc) : Prop := v = none ∧ Fr n0 L ∧ Keep h0 h [a1] ∧ Fld Z h a1 "com/example/log_lag_gauge/loglaggauge/model/PartLooks" "part" "Ljava/lang/String;" (.ref w1) ∧ Fld Z h a1 "com/example/log_lag_gauge/loglaggauge/model/PartLooks" "succeeded" "Z" (.int (1 : Int32)) ∧ Fld Z h a1 "com/example/log_lag_gauge/loglaggauge/model/PartLooks" "durationMs" "J" (.long q1) ∧ Fld Z h a1 "com/example/log_lag_gauge/loglaggauge/model/PartLooks" "lastSuccessMs" "Ljava/util/OptionalLong;" (.ref w2) ∧ Fld Z h a1 "com/example/log_lag_gauge/loglaggauge/model/PartLooks" "looks" "J" (.long (1 : Int64)) ∧ Fld Z h a1 "com/example/log_lag_gauge/loglaggauge/model/PartLooks" "failures" "J" (.long (0 : Int64))
set_option maxRecDepth 65536 in
set_option maxHeartbeats 40000000 in
theorem rm_pl1 (l : Launch) (Z : State) (a0 : Array Value) (hw : ∀ d ∈ tables_1, d.before a0 Z = true) (ws : List Jvm.Cond) (a1 : Addr) (w1 : Addr) (w2 : Addr) (q1 : Int64) (h0 : Heap) (n0 : Nat) (Z0 : n0 ≤ h0.size) (O0 : Old Z n0 h0) (E_a1 : Exa Z h0 a1 "com/example/log_lag_gauge/loglaggauge/model/PartLooks") (F_a1_part : Fld Z h0 a1 "com/example/log_lag_gauge/loglaggauge/model/PartLooks" "part" "Ljava/lang/String;" .null) (F_a1_succeeded : Fld Z h0 a1 "com/example/log_lag_gauge/loglaggauge/model/PartLooks" "succeeded" "Z" (.int (0 : Int32))) (F_a1_durationMs : Fld Z h0 a1 "com/example/log_lag_gauge/loglaggauge/model/PartLooks" "durationMs" "J" (.long (0 : Int64))) (F_a1_lastSuccessMs : Fld Z h0 a1 "com/example/log_lag_gauge/loglaggauge/model/PartLooks" "lastSuccessMs" "Ljava/util/OptionalLong;" .null) (F_a1_looks : Fld Z h0 a1 "com/example/log_lag_gauge/loglaggauge/model/PartLooks" "looks" "J" (.long (0 : Int64))) (F_a1_failures : Fld Z h0 a1 "com/example/log_lag_gauge/loglaggauge/model/PartLooks" "failures" "J" (.long (0 : Int64))) (ge_a1 : n0 ≤ a1) :
    MetFree l Y12 (head1 (Jvm.Cond.code Y12 prog_11_method_1_code 10 none :: ws) ({ frames := 2, cells := 4, slots := 76, locals := 24 } : Room)) (fun a U => a = #[(.ref a1), (.ref w1), (.int (1 : Int32)), (.long q1), (.ref w2), (.long (1 : Int64)), (.long (0 : Int64))] ∧ Z.Warmed39 U.vm ∧ U.heap = h0) (fun _ _ _ _ _ => True) (fun _ U o U' => ∃ v L, o = .returned v ∧ Q_rm_pl1 Z a1 w1 w2 q1 h0 n0 v U'.heap L ∧ ReturnedEndW U o U' L ({ frames := 2, cells := 4, slots := 76, locals := 24 } : Room).cells ({ frames := 2, cells := 4, slots := 76, locals := 24 } : Room).slots) := by
  refine MetFree.of_bodySF (plainFor_of_name pn_com_example_log_lag_gauge_loglaggauge_model_PartLooks) hisR ?_
  intro p e s m args below meth c s₁ Bd hml0 hP hK
  obtain ⟨rfl, hZ, hh⟩ := hP
  have hx := Bd.exec
  have hby := Bd.bytes
  have hml : c.maxLocals = 10 := hml0
  have hown : s.vm.findClass "com/example/log_lag_gauge/loglaggauge/model/PartLooks" = some m.cls := findClass_of_methodNamed Bd.named
  have hnm := (name_of_methodNamed Bd.named Bd.method).1
  have X0 : Stand p l e ({ frames := 2, cells := 4, slots := 76, locals := 24 } : Room) (s.setVm s.vm) m #[(.ref a1), (.ref w1), (.int (1 : Int32)), (.long q1), (.ref w2), (.long (1 : Int64)), (.long (0 : Int64))] below meth c s₁ [] 0 0 := Stand.of_body Bd
  have e0 : s₁.heap = h0 := by rw [← hh, Bd.state]; rfl
  have N0 := Fr.nil n0
  refine GoesW.out (l := l) (c := c) (R := ({ frames := 2, cells := 4, slots := 76, locals := 24 } : Room)) (Q := Q_rm_pl1 Z a1 w1 w2 q1 h0 n0) Bd.notSynchronized ?_
  refine GoesW.cast (g2 := mkF m 0 #[rv a1, rv w1, iv 1, .val (.long q1), .second, rv w2, .val (.long (1 : Int64)), .second, .val (.long (0 : Int64)), .second] []) (by first | (simp [entryFrame, mkF, argsToLocals, Value.category]; done) | rfl) ?_
  have K0 : Keep h0 h0 [a1] := Keep.refl h0 _
  have hws : ∀ x ∈ [a1], n0 ≤ x := (allS ge_a1 all0)
  have Sn0 : s.Since s.vm 0 := (State.WarmedH.refl s).since 0
  have kle0 : 0 ≤ h0.size := Nat.zero_le _
  have wSA := own_wsa hw
  refine GoesW.step (T2 := s₁) (g2 := (mkF m 1 #[rv a1, rv w1, iv 1, .val (.long q1), .second, rv w2, .val (.long (1 : Int64)), .second, .val (.long (0 : Int64)), .second] [(.ref a1)])) (fun _ hr => XS.aloadN X0.here hx rfl (hb hby d12_0) rfl rfl hr) ?_
  have Zs55 : n0 ≤ h0.size := Nat.le_trans Z0 K0.1
  obtain ⟨_, _, ⟨T56, L56, k56, n56⟩, -, X56, ⟨Lc56, hQ56, l56, y56, z56⟩, st56⟩ := X0.specialBack hx (y := Y11) rfl hown (mvT hZ (tw hw 44 rfl)) (mvT hZ (tw hw 45 rfl)) (mvT hZ (tw hw 48 rfl)) (by decide) (backOf (W := 0) (rm_rec l Z a0 hw [] a1 h0 n0 Zs55 (Old.keep O0 K0 hws)) hZ (tw hw 48 rfl) (tw hw 47 rfl) (by decide) (by decide)) (g := (mkF m 1 #[rv a1, rv w1, iv 1, .val (.long q1), .second, rv w2, .val (.long (1 : Int64)), .second, .val (.long (0 : Int64)), .second] [(.ref a1)])) rfl (by rw [hml]; rfl) (Steps.refl _) (a := a1) (argsL := []) (rest := []) (lenOf pd_5 rfl) rfl (by show 2 * 0 + _ ≤ _; exact Nat.le_of_eq rfl) (hb hby d12_1) (fun _ _ => ⟨rfl, e0, (by decide : 0 + 0 ≤ _), (by decide : 0 + 0 ≤ _)⟩)
  dsimp only [Pt.U, Pt.locs, Pt.cells, Pt.slots] at X56 l56 y56 z56 st56 hQ56
  subst l56 y56 z56
  obtain ⟨rfl, N56q, e56⟩ := hQ56
  have N56 := Fr.app N0 N56q
  refine GoesW.step (T2 := T56) (g2 := (mkF m 4 #[rv a1, rv w1, iv 1, .val (.long q1), .second, rv w2, .val (.long (1 : Int64)), .second, .val (.long (0 : Int64)), .second] [])) (fun _ hr => st56.trans hr) ?_
  refine GoesW.step (T2 := T56) (g2 := (mkF m 5 #[rv a1, rv w1, iv 1, .val (.long q1), .second, rv w2, .val (.long (1 : Int64)), .second, .val (.long (0 : Int64)), .second] [(.ref w1)])) (fun _ hr => XS.aloadN X56.here hx rfl (hb hby d12_4) rfl rfl hr) ?_
  obtain ⟨a57, T57, h57, j57, X57, e57, E57, Sn57, kle57q, hZ57, hown57, st57⟩ := ldcS X56 hx hZ hown (tw hw 50 rfl) wSA e56 Sn0 kle0 (g := (mkF m 5 #[rv a1, rv w1, iv 1, .val (.long q1), .second, rv w2, .val (.long (1 : Int64)), .second, .val (.long (0 : Int64)), .second] [(.ref w1)])) rfl (hb hby d12_5) (n := 16) (by decide) (by decide) (by decide) (by decide)
  have E_a1_57 : Exa Z h57 a1 "com/example/log_lag_gauge/loglaggauge/model/PartLooks" := E_a1.ext E57
  have F_a1_part_57 : Fld Z h57 a1 "com/example/log_lag_gauge/loglaggauge/model/PartLooks" "part" "Ljava/lang/String;" .null := F_a1_part.ext E57
  have F_a1_succeeded_57 : Fld Z h57 a1 "com/example/log_lag_gauge/loglaggauge/model/PartLooks" "succeeded" "Z" (.int (0 : Int32)) := F_a1_succeeded.ext E57
  have F_a1_durationMs_57 : Fld Z h57 a1 "com/example/log_lag_gauge/loglaggauge/model/PartLooks" "durationMs" "J" (.long (0 : Int64)) := F_a1_durationMs.ext E57
  have F_a1_lastSuccessMs_57 : Fld Z h57 a1 "com/example/log_lag_gauge/loglaggauge/model/PartLooks" "lastSuccessMs" "Ljava/util/OptionalLong;" .null := F_a1_lastSuccessMs.ext E57
  have F_a1_looks_57 : Fld Z h57 a1 "com/example/log_lag_gauge/loglaggauge/model/PartLooks" "looks" "J" (.long (0 : Int64)) := F_a1_looks.ext E57
  have F_a1_failures_57 : Fld Z h57 a1 "com/example/log_lag_gauge/loglaggauge/model/PartLooks" "failures" "J" (.long (0 : Int64)) := F_a1_failures.ext E57
  have K57 : Keep h0 h57 [a1] := K0.ext E57
  refine GoesW.step (T2 := T57) (g2 := (mkF m 7 #[rv a1, rv w1, iv 1, .val (.long q1), .second, rv w2, .val (.long (1 : Int64)), .second, .val (.long (0 : Int64)), .second] [(.ref a57), (.ref w1)])) st57 ?_
  have Zs58 : n0 ≤ h57.size := Nat.le_trans Z0 K57.1
  obtain ⟨_, _, ⟨T59, L59, k59, n59⟩, -, X59, ⟨Lc59, hQ59, l59, y59, z59⟩, st59⟩ := Jvm.LawKit.callS X57 hx (y := Y10) hown57 (mvT hZ57 (tw hw 53 rfl)) (mvT hZ57 (tw hw 54 rfl)) (mvT hZ57 (tw hw 55 rfl)) (mvT hZ57 (tw hw 56 rfl)) (by decide) (backOf (W := 0) (rm_rnn2 l Z a0 hw [] w1 a57 h57 n0 Zs58 (Old.keep O0 K57 hws)) hZ57 (tw hw 56 rfl) (tw hw 55 rfl) (by decide) (by decide)) (g := (mkF m 7 #[rv a1, rv w1, iv 1, .val (.long q1), .second, rv w2, .val (.long (1 : Int64)), .second, .val (.long (0 : Int64)), .second] [(.ref a57), (.ref w1)])) rfl (by rw [hml]; rfl) (argsL := [(.ref w1), (.ref a57)]) (rest := []) (lenOf pd_6 rfl) rfl (by show 2 * 0 + _ ≤ _; exact Nat.le_of_eq rfl) (hb hby d12_7) (fun _ _ => ⟨rfl, e57, (by decide : 2 + 0 ≤ _), (by decide : 20 + 0 ≤ _)⟩)
  dsimp only [Pt.U, Pt.locs, Pt.cells, Pt.slots] at X59 l59 y59 z59 st59 hQ59
  subst l59 y59 z59
  obtain ⟨rfl, N59q, e59⟩ := hQ59
  have N59 := Fr.app N56 N59q
  refine GoesW.step (T2 := T59) (g2 := (mkF m 10 #[rv a1, rv w1, iv 1, .val (.long q1), .second, rv w2, .val (.long (1 : Int64)), .second, .val (.long (0 : Int64)), .second] [(.ref w1)])) st59 ?_
  refine GoesW.step (T2 := T59) (g2 := (mkF m 11 #[rv a1, rv w1, iv 1, .val (.long q1), .second, rv w2, .val (.long (1 : Int64)), .second, .val (.long (0 : Int64)), .second] [])) (fun _ hr => Jvm.Free.XT.pop X59.here hx rfl (hb hby d12_10) rfl rfl hr) ?_
  refine GoesW.step (T2 := T59) (g2 := (mkF m 13 #[rv a1, rv w1, iv 1, .val (.long q1), .second, rv w2, .val (.long (1 : Int64)), .second, .val (.long (0 : Int64)), .second] [(.ref w2)])) (fun _ hr => XS.aload X59.here hx rfl (hb hby d12_11) rfl rfl hr) ?_
  obtain ⟨a60, T60, h60, j60, X60, e60, E60, Sn60, kle60q, hZ60, hown60, st60⟩ := ldcS X59 hx hZ57 hown57 (tw hw 57 rfl) wSA e59 Sn57 kle57q (g := (mkF m 13 #[rv a1, rv w1, iv 1, .val (.long q1), .second, rv w2, .val (.long (1 : Int64)), .second, .val (.long (0 : Int64)), .second] [(.ref w2)])) rfl (hb hby d12_13) (n := 52) (by decide) (by decide) (by decide) (by decide)
  have E_a1_60 : Exa Z h60 a1 "com/example/log_lag_gauge/loglaggauge/model/PartLooks" := E_a1_57.ext E60
  have F_a1_part_60 : Fld Z h60 a1 "com/example/log_lag_gauge/loglaggauge/model/PartLooks" "part" "Ljava/lang/String;" .null := F_a1_part_57.ext E60
  have F_a1_succeeded_60 : Fld Z h60 a1 "com/example/log_lag_gauge/loglaggauge/model/PartLooks" "succeeded" "Z" (.int (0 : Int32)) := F_a1_succeeded_57.ext E60
  have F_a1_durationMs_60 : Fld Z h60 a1 "com/example/log_lag_gauge/loglaggauge/model/PartLooks" "durationMs" "J" (.long (0 : Int64)) := F_a1_durationMs_57.ext E60
  have F_a1_lastSuccessMs_60 : Fld Z h60 a1 "com/example/log_lag_gauge/loglaggauge/model/PartLooks" "lastSuccessMs" "Ljava/util/OptionalLong;" .null := F_a1_lastSuccessMs_57.ext E60
  have F_a1_looks_60 : Fld Z h60 a1 "com/example/log_lag_gauge/loglaggauge/model/PartLooks" "looks" "J" (.long (0 : Int64)) := F_a1_looks_57.ext E60
  have F_a1_failures_60 : Fld Z h60 a1 "com/example/log_lag_gauge/loglaggauge/model/PartLooks" "failures" "J" (.long (0 : Int64)) := F_a1_failures_57.ext E60
  have K60 : Keep h0 h60 [a1] := K57.ext E60
  refine GoesW.step (T2 := T60) (g2 := (mkF m 15 #[rv a1, rv w1, iv 1, .val (.long q1), .second, rv w2, .val (.long (1 : Int64)), .second, .val (.long (0 : Int64)), .second] [(.ref a60), (.ref w2)])) st60 ?_
  have Zs61 : n0 ≤ h60.size := Nat.le_trans Z0 K60.1
  obtain ⟨_, _, ⟨T62, L62, k62, n62⟩, -, X62, ⟨Lc62, hQ62, l62, y62, z62⟩, st62⟩ := Jvm.LawKit.callS X60 hx (y := Y10) hown60 (mvT hZ60 (tw hw 53 rfl)) (mvT hZ60 (tw hw 54 rfl)) (mvT hZ60 (tw hw 55 rfl)) (mvT hZ60 (tw hw 56 rfl)) (by decide) (backOf (W := 0) (rm_rnn2 l Z a0 hw [] w2 a60 h60 n0 Zs61 (Old.keep O0 K60 hws)) hZ60 (tw hw 56 rfl) (tw hw 55 rfl) (by decide) (by decide)) (g := (mkF m 15 #[rv a1, rv w1, iv 1, .val (.long q1), .second, rv w2, .val (.long (1 : Int64)), .second, .val (.long (0 : Int64)), .second] [(.ref a60), (.ref w2)])) rfl (by rw [hml]; rfl) (argsL := [(.ref w2), (.ref a60)]) (rest := []) (lenOf pd_6 rfl) rfl (by show 2 * 0 + _ ≤ _; exact Nat.le_of_eq rfl) (hb hby d12_15) (fun _ _ => ⟨rfl, e60, (by decide : 4 + 0 ≤ _), (by decide : 76 + 0 ≤ _)⟩)
  dsimp only [Pt.U, Pt.locs, Pt.cells, Pt.slots] at X62 l62 y62 z62 st62 hQ62
  subst l62 y62 z62
  obtain ⟨rfl, N62q, e62⟩ := hQ62
  have N62 := Fr.app N59 N62q
  refine GoesW.step (T2 := T62) (g2 := (mkF m 18 #[rv a1, rv w1, iv 1, .val (.long q1), .second, rv w2, .val (.long (1 : Int64)), .second, .val (.long (0 : Int64)), .second] [(.ref w2)])) st62 ?_
  refine GoesW.step (T2 := T62) (g2 := (mkF m 19 #[rv a1, rv w1, iv 1, .val (.long q1), .second, rv w2, .val (.long (1 : Int64)), .second, .val (.long (0 : Int64)), .second] [])) (fun _ hr => Jvm.Free.XT.pop X62.here hx rfl (hb hby d12_18) rfl rfl hr) ?_
  refine GoesW.step (T2 := T62) (g2 := (mkF m 20 #[rv a1, rv w1, iv 1, .val (.long q1), .second, rv w2, .val (.long (1 : Int64)), .second, .val (.long (0 : Int64)), .second] [(.ref a1)])) (fun _ hr => XS.aloadN X62.here hx rfl (hb hby d12_19) rfl rfl hr) ?_
  refine GoesW.step (T2 := T62) (g2 := (mkF m 21 #[rv a1, rv w1, iv 1, .val (.long q1), .second, rv w2, .val (.long (1 : Int64)), .second, .val (.long (0 : Int64)), .second] [(.ref w1), (.ref a1)])) (fun _ hr => XS.aloadN X62.here hx rfl (hb hby d12_20) rfl rfl hr) ?_
  obtain ⟨T63, h63, X63, e63, W63, st63⟩ := putF X62 hx hZ60 hown60 (host := "") (Or.inl (tw hw 58 rfl)) Via.refl e62 F_a1_part_60 E_a1_60 (Or.inr ⟨(tw hw 59 rfl), rfl, hnm⟩) (tw hw 40 rfl) (ty := (.object "java/lang/String")) (by decide) rfl rfl (g := (mkF m 21 #[rv a1, rv w1, iv 1, .val (.long q1), .second, rv w2, .val (.long (1 : Int64)), .second, .val (.long (0 : Int64)), .second] [(.ref w1), (.ref a1)])) rfl rfl (hb hby d12_21)
  have E_a1_63 : Exa Z h63 a1 "com/example/log_lag_gauge/loglaggauge/model/PartLooks" := E_a1_60.wr W63
  have F_a1_succeeded_63 : Fld Z h63 a1 "com/example/log_lag_gauge/loglaggauge/model/PartLooks" "succeeded" "Z" (.int (0 : Int32)) := F_a1_succeeded_60.other W63 (Or.inr (slot_ne (Or.inr (tw hw 61 rfl)) (Or.inr (tw hw 59 rfl)) (by decide) (t := .boolean) (t' := (.object "java/lang/String")) (by decide) (by decide)))
  have F_a1_durationMs_63 : Fld Z h63 a1 "com/example/log_lag_gauge/loglaggauge/model/PartLooks" "durationMs" "J" (.long (0 : Int64)) := F_a1_durationMs_60.other W63 (Or.inr (slot_ne (Or.inr (tw hw 63 rfl)) (Or.inr (tw hw 59 rfl)) (by decide) (t := .long) (t' := (.object "java/lang/String")) (by decide) (by decide)))
  have F_a1_lastSuccessMs_63 : Fld Z h63 a1 "com/example/log_lag_gauge/loglaggauge/model/PartLooks" "lastSuccessMs" "Ljava/util/OptionalLong;" .null := F_a1_lastSuccessMs_60.other W63 (Or.inr (slot_ne (Or.inr (tw hw 65 rfl)) (Or.inr (tw hw 59 rfl)) (by decide) (t := (.object "java/util/OptionalLong")) (t' := (.object "java/lang/String")) (by decide) (by decide)))
  have F_a1_looks_63 : Fld Z h63 a1 "com/example/log_lag_gauge/loglaggauge/model/PartLooks" "looks" "J" (.long (0 : Int64)) := F_a1_looks_60.other W63 (Or.inr (slot_ne (Or.inr (tw hw 67 rfl)) (Or.inr (tw hw 59 rfl)) (by decide) (t := .long) (t' := (.object "java/lang/String")) (by decide) (by decide)))
  have F_a1_failures_63 : Fld Z h63 a1 "com/example/log_lag_gauge/loglaggauge/model/PartLooks" "failures" "J" (.long (0 : Int64)) := F_a1_failures_60.other W63 (Or.inr (slot_ne (Or.inr (tw hw 69 rfl)) (Or.inr (tw hw 59 rfl)) (by decide) (t := .long) (t' := (.object "java/lang/String")) (by decide) (by decide)))
  have K63 : Keep h0 h63 [a1] := K60.wr W63 (Or.inl (List.mem_of_getElem? (i := 0) rfl))
  have kle63 : j60 ≤ h63.size := Nat.le_trans kle60q (Nat.le_of_eq W63.size.symm)
  have N63 := Fr.snoc X63 N62 ge_a1
  have F_a1_part_63 : Fld Z h63 a1 "com/example/log_lag_gauge/loglaggauge/model/PartLooks" "part" "Ljava/lang/String;" (.ref w1) := F_a1_part_60.same W63
  refine GoesW.step (T2 := T63) (g2 := (mkF m 24 #[rv a1, rv w1, iv 1, .val (.long q1), .second, rv w2, .val (.long (1 : Int64)), .second, .val (.long (0 : Int64)), .second] [])) st63 ?_
  refine GoesW.step (T2 := T63) (g2 := (mkF m 25 #[rv a1, rv w1, iv 1, .val (.long q1), .second, rv w2, .val (.long (1 : Int64)), .second, .val (.long (0 : Int64)), .second] [(.ref a1)])) (fun _ hr => XS.aloadN X63.here hx rfl (hb hby d12_24) rfl rfl hr) ?_
  refine GoesW.step (T2 := T63) (g2 := (mkF m 26 #[rv a1, rv w1, iv 1, .val (.long q1), .second, rv w2, .val (.long (1 : Int64)), .second, .val (.long (0 : Int64)), .second] [(.int (1 : Int32)), (.ref a1)])) (fun _ hr => XS.iloadN X63.here hx rfl (hb hby d12_25) rfl  hr) ?_
  obtain ⟨T64, h64, X64, e64, W64, st64⟩ := putFN X63 hx hZ60 hown60 (tw hw 60 rfl) Via.refl e63 F_a1_succeeded_63 E_a1_63 (Or.inr ⟨(tw hw 61 rfl), rfl, hnm⟩) (tw hw 40 rfl) (ty := .boolean) (v' := (.int (1 : Int32))) (by decide) rfl rfl (g := (mkF m 26 #[rv a1, rv w1, iv 1, .val (.long q1), .second, rv w2, .val (.long (1 : Int64)), .second, .val (.long (0 : Int64)), .second] [(.int (1 : Int32)), (.ref a1)])) rfl rfl (hb hby d12_26)
  have E_a1_64 : Exa Z h64 a1 "com/example/log_lag_gauge/loglaggauge/model/PartLooks" := E_a1_63.wr W64
  have F_a1_durationMs_64 : Fld Z h64 a1 "com/example/log_lag_gauge/loglaggauge/model/PartLooks" "durationMs" "J" (.long (0 : Int64)) := F_a1_durationMs_63.other W64 (Or.inr (slot_ne (Or.inr (tw hw 63 rfl)) (Or.inr (tw hw 61 rfl)) (by decide) (t := .long) (t' := .boolean) (by decide) (by decide)))
  have F_a1_lastSuccessMs_64 : Fld Z h64 a1 "com/example/log_lag_gauge/loglaggauge/model/PartLooks" "lastSuccessMs" "Ljava/util/OptionalLong;" .null := F_a1_lastSuccessMs_63.other W64 (Or.inr (slot_ne (Or.inr (tw hw 65 rfl)) (Or.inr (tw hw 61 rfl)) (by decide) (t := (.object "java/util/OptionalLong")) (t' := .boolean) (by decide) (by decide)))
  have F_a1_looks_64 : Fld Z h64 a1 "com/example/log_lag_gauge/loglaggauge/model/PartLooks" "looks" "J" (.long (0 : Int64)) := F_a1_looks_63.other W64 (Or.inr (slot_ne (Or.inr (tw hw 67 rfl)) (Or.inr (tw hw 61 rfl)) (by decide) (t := .long) (t' := .boolean) (by decide) (by decide)))
  have F_a1_failures_64 : Fld Z h64 a1 "com/example/log_lag_gauge/loglaggauge/model/PartLooks" "failures" "J" (.long (0 : Int64)) := F_a1_failures_63.other W64 (Or.inr (slot_ne (Or.inr (tw hw 69 rfl)) (Or.inr (tw hw 61 rfl)) (by decide) (t := .long) (t' := .boolean) (by decide) (by decide)))
  have F_a1_part_64 : Fld Z h64 a1 "com/example/log_lag_gauge/loglaggauge/model/PartLooks" "part" "Ljava/lang/String;" (.ref w1) := F_a1_part_63.other W64 (Or.inr (slot_ne (Or.inr (tw hw 59 rfl)) (Or.inr (tw hw 61 rfl)) (by decide) (t := (.object "java/lang/String")) (t' := .boolean) (by decide) (by decide)))
  have K64 : Keep h0 h64 [a1] := K63.wr W64 (Or.inl (List.mem_of_getElem? (i := 0) rfl))
  have kle64 : j60 ≤ h64.size := Nat.le_trans kle63 (Nat.le_of_eq W64.size.symm)
  have N64 := Fr.snoc X64 N63 ge_a1
  have F_a1_succeeded_64 : Fld Z h64 a1 "com/example/log_lag_gauge/loglaggauge/model/PartLooks" "succeeded" "Z" (.int (1 : Int32)) := F_a1_succeeded_63.same W64
  refine GoesW.step (T2 := T64) (g2 := (mkF m 29 #[rv a1, rv w1, iv 1, .val (.long q1), .second, rv w2, .val (.long (1 : Int64)), .second, .val (.long (0 : Int64)), .second] [])) st64 ?_
  refine GoesW.step (T2 := T64) (g2 := (mkF m 30 #[rv a1, rv w1, iv 1, .val (.long q1), .second, rv w2, .val (.long (1 : Int64)), .second, .val (.long (0 : Int64)), .second] [(.ref a1)])) (fun _ hr => XS.aloadN X64.here hx rfl (hb hby d12_29) rfl rfl hr) ?_
  refine GoesW.step (T2 := T64) (g2 := (mkF m 31 #[rv a1, rv w1, iv 1, .val (.long q1), .second, rv w2, .val (.long (1 : Int64)), .second, .val (.long (0 : Int64)), .second] [(.long q1), (.ref a1)])) (fun _ hr => Jvm.Free.XT.lloadN X64.here hx rfl (hb hby d12_30) rfl hr) ?_
  obtain ⟨T65, h65, X65, e65, W65, st65⟩ := putF X64 hx hZ60 hown60 (host := "") (Or.inl (tw hw 62 rfl)) Via.refl e64 F_a1_durationMs_64 E_a1_64 (Or.inr ⟨(tw hw 63 rfl), rfl, hnm⟩) (tw hw 40 rfl) (ty := .long) (by decide) rfl rfl (g := (mkF m 31 #[rv a1, rv w1, iv 1, .val (.long q1), .second, rv w2, .val (.long (1 : Int64)), .second, .val (.long (0 : Int64)), .second] [(.long q1), (.ref a1)])) rfl rfl (hb hby d12_31)
  have E_a1_65 : Exa Z h65 a1 "com/example/log_lag_gauge/loglaggauge/model/PartLooks" := E_a1_64.wr W65
  have F_a1_lastSuccessMs_65 : Fld Z h65 a1 "com/example/log_lag_gauge/loglaggauge/model/PartLooks" "lastSuccessMs" "Ljava/util/OptionalLong;" .null := F_a1_lastSuccessMs_64.other W65 (Or.inr (slot_ne (Or.inr (tw hw 65 rfl)) (Or.inr (tw hw 63 rfl)) (by decide) (t := (.object "java/util/OptionalLong")) (t' := .long) (by decide) (by decide)))
  have F_a1_looks_65 : Fld Z h65 a1 "com/example/log_lag_gauge/loglaggauge/model/PartLooks" "looks" "J" (.long (0 : Int64)) := F_a1_looks_64.other W65 (Or.inr (slot_ne (Or.inr (tw hw 67 rfl)) (Or.inr (tw hw 63 rfl)) (by decide) (t := .long) (t' := .long) (by decide) (by decide)))
  have F_a1_failures_65 : Fld Z h65 a1 "com/example/log_lag_gauge/loglaggauge/model/PartLooks" "failures" "J" (.long (0 : Int64)) := F_a1_failures_64.other W65 (Or.inr (slot_ne (Or.inr (tw hw 69 rfl)) (Or.inr (tw hw 63 rfl)) (by decide) (t := .long) (t' := .long) (by decide) (by decide)))
  have F_a1_part_65 : Fld Z h65 a1 "com/example/log_lag_gauge/loglaggauge/model/PartLooks" "part" "Ljava/lang/String;" (.ref w1) := F_a1_part_64.other W65 (Or.inr (slot_ne (Or.inr (tw hw 59 rfl)) (Or.inr (tw hw 63 rfl)) (by decide) (t := (.object "java/lang/String")) (t' := .long) (by decide) (by decide)))
  have F_a1_succeeded_65 : Fld Z h65 a1 "com/example/log_lag_gauge/loglaggauge/model/PartLooks" "succeeded" "Z" (.int (1 : Int32)) := F_a1_succeeded_64.other W65 (Or.inr (slot_ne (Or.inr (tw hw 61 rfl)) (Or.inr (tw hw 63 rfl)) (by decide) (t := .boolean) (t' := .long) (by decide) (by decide)))
  have K65 : Keep h0 h65 [a1] := K64.wr W65 (Or.inl (List.mem_of_getElem? (i := 0) rfl))
  have kle65 : j60 ≤ h65.size := Nat.le_trans kle64 (Nat.le_of_eq W65.size.symm)
  have N65 := Fr.snoc X65 N64 ge_a1
  have F_a1_durationMs_65 : Fld Z h65 a1 "com/example/log_lag_gauge/loglaggauge/model/PartLooks" "durationMs" "J" (.long q1) := F_a1_durationMs_64.same W65
  refine GoesW.step (T2 := T65) (g2 := (mkF m 34 #[rv a1, rv w1, iv 1, .val (.long q1), .second, rv w2, .val (.long (1 : Int64)), .second, .val (.long (0 : Int64)), .second] [])) st65 ?_
  refine GoesW.step (T2 := T65) (g2 := (mkF m 35 #[rv a1, rv w1, iv 1, .val (.long q1), .second, rv w2, .val (.long (1 : Int64)), .second, .val (.long (0 : Int64)), .second] [(.ref a1)])) (fun _ hr => XS.aloadN X65.here hx rfl (hb hby d12_34) rfl rfl hr) ?_
  refine GoesW.step (T2 := T65) (g2 := (mkF m 37 #[rv a1, rv w1, iv 1, .val (.long q1), .second, rv w2, .val (.long (1 : Int64)), .second, .val (.long (0 : Int64)), .second] [(.ref w2), (.ref a1)])) (fun _ hr => XS.aload X65.here hx rfl (hb hby d12_35) rfl rfl hr) ?_
  obtain ⟨T66, h66, X66, e66, W66, st66⟩ := putF X65 hx hZ60 hown60 (host := "") (Or.inl (tw hw 64 rfl)) Via.refl e65 F_a1_lastSuccessMs_65 E_a1_65 (Or.inr ⟨(tw hw 65 rfl), rfl, hnm⟩) (tw hw 40 rfl) (ty := (.object "java/util/OptionalLong")) (by decide) rfl rfl (g := (mkF m 37 #[rv a1, rv w1, iv 1, .val (.long q1), .second, rv w2, .val (.long (1 : Int64)), .second, .val (.long (0 : Int64)), .second] [(.ref w2), (.ref a1)])) rfl rfl (hb hby d12_37)
  have E_a1_66 : Exa Z h66 a1 "com/example/log_lag_gauge/loglaggauge/model/PartLooks" := E_a1_65.wr W66
  have F_a1_looks_66 : Fld Z h66 a1 "com/example/log_lag_gauge/loglaggauge/model/PartLooks" "looks" "J" (.long (0 : Int64)) := F_a1_looks_65.other W66 (Or.inr (slot_ne (Or.inr (tw hw 67 rfl)) (Or.inr (tw hw 65 rfl)) (by decide) (t := .long) (t' := (.object "java/util/OptionalLong")) (by decide) (by decide)))
  have F_a1_failures_66 : Fld Z h66 a1 "com/example/log_lag_gauge/loglaggauge/model/PartLooks" "failures" "J" (.long (0 : Int64)) := F_a1_failures_65.other W66 (Or.inr (slot_ne (Or.inr (tw hw 69 rfl)) (Or.inr (tw hw 65 rfl)) (by decide) (t := .long) (t' := (.object "java/util/OptionalLong")) (by decide) (by decide)))
  have F_a1_part_66 : Fld Z h66 a1 "com/example/log_lag_gauge/loglaggauge/model/PartLooks" "part" "Ljava/lang/String;" (.ref w1) := F_a1_part_65.other W66 (Or.inr (slot_ne (Or.inr (tw hw 59 rfl)) (Or.inr (tw hw 65 rfl)) (by decide) (t := (.object "java/lang/String")) (t' := (.object "java/util/OptionalLong")) (by decide) (by decide)))
  have F_a1_succeeded_66 : Fld Z h66 a1 "com/example/log_lag_gauge/loglaggauge/model/PartLooks" "succeeded" "Z" (.int (1 : Int32)) := F_a1_succeeded_65.other W66 (Or.inr (slot_ne (Or.inr (tw hw 61 rfl)) (Or.inr (tw hw 65 rfl)) (by decide) (t := .boolean) (t' := (.object "java/util/OptionalLong")) (by decide) (by decide)))
  have F_a1_durationMs_66 : Fld Z h66 a1 "com/example/log_lag_gauge/loglaggauge/model/PartLooks" "durationMs" "J" (.long q1) := F_a1_durationMs_65.other W66 (Or.inr (slot_ne (Or.inr (tw hw 63 rfl)) (Or.inr (tw hw 65 rfl)) (by decide) (t := .long) (t' := (.object "java/util/OptionalLong")) (by decide) (by decide)))
  have K66 : Keep h0 h66 [a1] := K65.wr W66 (Or.inl (List.mem_of_getElem? (i := 0) rfl))
  have kle66 : j60 ≤ h66.size := Nat.le_trans kle65 (Nat.le_of_eq W66.size.symm)
  have N66 := Fr.snoc X66 N65 ge_a1
  have F_a1_lastSuccessMs_66 : Fld Z h66 a1 "com/example/log_lag_gauge/loglaggauge/model/PartLooks" "lastSuccessMs" "Ljava/util/OptionalLong;" (.ref w2) := F_a1_lastSuccessMs_65.same W66
  refine GoesW.step (T2 := T66) (g2 := (mkF m 40 #[rv a1, rv w1, iv 1, .val (.long q1), .second, rv w2, .val (.long (1 : Int64)), .second, .val (.long (0 : Int64)), .second] [])) st66 ?_
  refine GoesW.step (T2 := T66) (g2 := (mkF m 41 #[rv a1, rv w1, iv 1, .val (.long q1), .second, rv w2, .val (.long (1 : Int64)), .second, .val (.long (0 : Int64)), .second] [(.ref a1)])) (fun _ hr => XS.aloadN X66.here hx rfl (hb hby d12_40) rfl rfl hr) ?_
  refine GoesW.step (T2 := T66) (g2 := (mkF m 43 #[rv a1, rv w1, iv 1, .val (.long q1), .second, rv w2, .val (.long (1 : Int64)), .second, .val (.long (0 : Int64)), .second] [(.long (1 : Int64)), (.ref a1)])) (fun _ hr => Jvm.Free.XT.lload X66.here hx rfl (hb hby d12_41) rfl hr) ?_
  obtain ⟨T67, h67, X67, e67, W67, st67⟩ := putF X66 hx hZ60 hown60 (host := "") (Or.inl (tw hw 66 rfl)) Via.refl e66 F_a1_looks_66 E_a1_66 (Or.inr ⟨(tw hw 67 rfl), rfl, hnm⟩) (tw hw 40 rfl) (ty := .long) (by decide) rfl rfl (g := (mkF m 43 #[rv a1, rv w1, iv 1, .val (.long q1), .second, rv w2, .val (.long (1 : Int64)), .second, .val (.long (0 : Int64)), .second] [(.long (1 : Int64)), (.ref a1)])) rfl rfl (hb hby d12_43)
  have E_a1_67 : Exa Z h67 a1 "com/example/log_lag_gauge/loglaggauge/model/PartLooks" := E_a1_66.wr W67
  have F_a1_failures_67 : Fld Z h67 a1 "com/example/log_lag_gauge/loglaggauge/model/PartLooks" "failures" "J" (.long (0 : Int64)) := F_a1_failures_66.other W67 (Or.inr (slot_ne (Or.inr (tw hw 69 rfl)) (Or.inr (tw hw 67 rfl)) (by decide) (t := .long) (t' := .long) (by decide) (by decide)))
  have F_a1_part_67 : Fld Z h67 a1 "com/example/log_lag_gauge/loglaggauge/model/PartLooks" "part" "Ljava/lang/String;" (.ref w1) := F_a1_part_66.other W67 (Or.inr (slot_ne (Or.inr (tw hw 59 rfl)) (Or.inr (tw hw 67 rfl)) (by decide) (t := (.object "java/lang/String")) (t' := .long) (by decide) (by decide)))
  have F_a1_succeeded_67 : Fld Z h67 a1 "com/example/log_lag_gauge/loglaggauge/model/PartLooks" "succeeded" "Z" (.int (1 : Int32)) := F_a1_succeeded_66.other W67 (Or.inr (slot_ne (Or.inr (tw hw 61 rfl)) (Or.inr (tw hw 67 rfl)) (by decide) (t := .boolean) (t' := .long) (by decide) (by decide)))
  have F_a1_durationMs_67 : Fld Z h67 a1 "com/example/log_lag_gauge/loglaggauge/model/PartLooks" "durationMs" "J" (.long q1) := F_a1_durationMs_66.other W67 (Or.inr (slot_ne (Or.inr (tw hw 63 rfl)) (Or.inr (tw hw 67 rfl)) (by decide) (t := .long) (t' := .long) (by decide) (by decide)))
  have F_a1_lastSuccessMs_67 : Fld Z h67 a1 "com/example/log_lag_gauge/loglaggauge/model/PartLooks" "lastSuccessMs" "Ljava/util/OptionalLong;" (.ref w2) := F_a1_lastSuccessMs_66.other W67 (Or.inr (slot_ne (Or.inr (tw hw 65 rfl)) (Or.inr (tw hw 67 rfl)) (by decide) (t := (.object "java/util/OptionalLong")) (t' := .long) (by decide) (by decide)))
  have K67 : Keep h0 h67 [a1] := K66.wr W67 (Or.inl (List.mem_of_getElem? (i := 0) rfl))
  have kle67 : j60 ≤ h67.size := Nat.le_trans kle66 (Nat.le_of_eq W67.size.symm)
  have N67 := Fr.snoc X67 N66 ge_a1
  have F_a1_looks_67 : Fld Z h67 a1 "com/example/log_lag_gauge/loglaggauge/model/PartLooks" "looks" "J" (.long (1 : Int64)) := F_a1_looks_66.same W67
  refine GoesW.step (T2 := T67) (g2 := (mkF m 46 #[rv a1, rv w1, iv 1, .val (.long q1), .second, rv w2, .val (.long (1 : Int64)), .second, .val (.long (0 : Int64)), .second] [])) st67 ?_
  refine GoesW.step (T2 := T67) (g2 := (mkF m 47 #[rv a1, rv w1, iv 1, .val (.long q1), .second, rv w2, .val (.long (1 : Int64)), .second, .val (.long (0 : Int64)), .second] [(.ref a1)])) (fun _ hr => XS.aloadN X67.here hx rfl (hb hby d12_46) rfl rfl hr) ?_
  refine GoesW.step (T2 := T67) (g2 := (mkF m 49 #[rv a1, rv w1, iv 1, .val (.long q1), .second, rv w2, .val (.long (1 : Int64)), .second, .val (.long (0 : Int64)), .second] [(.long (0 : Int64)), (.ref a1)])) (fun _ hr => Jvm.Free.XT.lload X67.here hx rfl (hb hby d12_47) rfl hr) ?_
  obtain ⟨T68, h68, X68, e68, W68, st68⟩ := putF X67 hx hZ60 hown60 (host := "") (Or.inl (tw hw 68 rfl)) Via.refl e67 F_a1_failures_67 E_a1_67 (Or.inr ⟨(tw hw 69 rfl), rfl, hnm⟩) (tw hw 40 rfl) (ty := .long) (by decide) rfl rfl (g := (mkF m 49 #[rv a1, rv w1, iv 1, .val (.long q1), .second, rv w2, .val (.long (1 : Int64)), .second, .val (.long (0 : Int64)), .second] [(.long (0 : Int64)), (.ref a1)])) rfl rfl (hb hby d12_49)
  have E_a1_68 : Exa Z h68 a1 "com/example/log_lag_gauge/loglaggauge/model/PartLooks" := E_a1_67.wr W68
  have F_a1_part_68 : Fld Z h68 a1 "com/example/log_lag_gauge/loglaggauge/model/PartLooks" "part" "Ljava/lang/String;" (.ref w1) := F_a1_part_67.other W68 (Or.inr (slot_ne (Or.inr (tw hw 59 rfl)) (Or.inr (tw hw 69 rfl)) (by decide) (t := (.object "java/lang/String")) (t' := .long) (by decide) (by decide)))
  have F_a1_succeeded_68 : Fld Z h68 a1 "com/example/log_lag_gauge/loglaggauge/model/PartLooks" "succeeded" "Z" (.int (1 : Int32)) := F_a1_succeeded_67.other W68 (Or.inr (slot_ne (Or.inr (tw hw 61 rfl)) (Or.inr (tw hw 69 rfl)) (by decide) (t := .boolean) (t' := .long) (by decide) (by decide)))
  have F_a1_durationMs_68 : Fld Z h68 a1 "com/example/log_lag_gauge/loglaggauge/model/PartLooks" "durationMs" "J" (.long q1) := F_a1_durationMs_67.other W68 (Or.inr (slot_ne (Or.inr (tw hw 63 rfl)) (Or.inr (tw hw 69 rfl)) (by decide) (t := .long) (t' := .long) (by decide) (by decide)))
  have F_a1_lastSuccessMs_68 : Fld Z h68 a1 "com/example/log_lag_gauge/loglaggauge/model/PartLooks" "lastSuccessMs" "Ljava/util/OptionalLong;" (.ref w2) := F_a1_lastSuccessMs_67.other W68 (Or.inr (slot_ne (Or.inr (tw hw 65 rfl)) (Or.inr (tw hw 69 rfl)) (by decide) (t := (.object "java/util/OptionalLong")) (t' := .long) (by decide) (by decide)))
  have F_a1_looks_68 : Fld Z h68 a1 "com/example/log_lag_gauge/loglaggauge/model/PartLooks" "looks" "J" (.long (1 : Int64)) := F_a1_looks_67.other W68 (Or.inr (slot_ne (Or.inr (tw hw 67 rfl)) (Or.inr (tw hw 69 rfl)) (by decide) (t := .long) (t' := .long) (by decide) (by decide)))
  have K68 : Keep h0 h68 [a1] := K67.wr W68 (Or.inl (List.mem_of_getElem? (i := 0) rfl))
  have kle68 : j60 ≤ h68.size := Nat.le_trans kle67 (Nat.le_of_eq W68.size.symm)
  have N68 := Fr.snoc X68 N67 ge_a1
  have F_a1_failures_68 : Fld Z h68 a1 "com/example/log_lag_gauge/loglaggauge/model/PartLooks" "failures" "J" (.long (0 : Int64)) := F_a1_failures_67.same W68
  refine GoesW.step (T2 := T68) (g2 := (mkF m 52 #[rv a1, rv w1, iv 1, .val (.long q1), .second, rv w2, .val (.long (1 : Int64)), .second, .val (.long (0 : Int64)), .second] [])) st68 ?_
  exact GoesW.ret (v := none) X68 Sn60 (by rw [e68]; exact kle68) (by decide) (by decide) (fun _ => rfl) (by show Q_rm_pl1 Z a1 w1 w2 q1 h0 n0 _ T68.heap _; rw [e68]; exact ⟨rfl, N68, K68, F_a1_part_68, F_a1_succeeded_68, F_a1_durationMs_68, F_a1_lastSuccessMs_68, F_a1_looks_68, F_a1_failures_68⟩) (fun fs hr => X68.returnOut hx Bd.returns (hb hby d12_52) hr)
theorem d13_4 : decode prog_11_method_2_code 4 = .ok (.lload 4, 2) := by decide +kernel
theorem d13_6 : decode prog_11_method_2_code 6 = .ok (.invokestatic 39, 3) := by decide +kernel
theorem d13_9 : decode prog_11_method_2_code 9 = .ok (.astore 6, 2) := by decide +kernel
theorem d13_11 : decode prog_11_method_2_code 11 = .ok (.lconst 0, 1) := by decide +kernel
theorem d13_12 : decode prog_11_method_2_code 12 = .ok (.lstore 7, 2) := by decide +kernel
theorem d13_14 : decode prog_11_method_2_code 14 = .ok (.goto 11, 3) := by decide +kernel
def Q_rm_one1 (Z : State) (w1 : Addr) (q1 : Int64) (q2 : Int64) (em : Addr) (h0 : Heap) (n0 : Nat) (v : Option Value) (h : Heap) (L : List Loc) : Prop := ∃ w : Addr, ∃ wo : Addr, v = some (.ref w) ∧ Fr n0 L ∧ Keep h0 h [] ∧ h0.size ≤ w ∧ Exa Z h w "com/example/log_lag_gauge/loglaggauge/model/PartLooks" ∧ Fld Z h w "com/example/log_lag_gauge/loglaggauge/model/PartLooks" "part" "Ljava/lang/String;" (.ref w1) ∧ Fld Z h w "com/example/log_lag_gauge/loglaggauge/model/PartLooks" "succeeded" "Z" (.int (1 : Int32)) ∧ Fld Z h w "com/example/log_lag_gauge/loglaggauge/model/PartLooks" "durationMs" "J" (.long q1) ∧ Fld Z h w "com/example/log_lag_gauge/loglaggauge/model/PartLooks" "lastSuccessMs" "Ljava/util/OptionalLong;" (.ref wo) ∧ Fld Z h w "com/example/log_lag_gauge/loglaggauge/model/PartLooks" "looks" "J" (.long (1 : Int64)) ∧ Fld Z h w "com/example/log_lag_gauge/loglaggauge/model/PartLooks" "failures" "J" (.long (0 : Int64)) ∧ h0.size ≤ wo ∧ Exa Z h wo "java/util/OptionalLong" ∧ Fld Z h wo "java/util/OptionalLong" "isPresent" "Z" (.int (1 : Int32)) ∧ Fld Z h wo "java/util/OptionalLong" "value" "J" (.long q2)
set_option maxRecDepth 65536 in
set_option maxHeartbeats 40000000 in
theorem rm_one1 (l : Launch) (Z : State) (a0 : Array Value) (hw : ∀ d ∈ tables_1, d.before a0 Z = true) (ws : List Jvm.Cond) (w1 : Addr) (q1 : Int64) (q2 : Int64) (em : Addr) (h0 : Heap) (n0 : Nat) (Z0 : n0 ≤ h0.size) (O0 : Old Z n0 h0) (S_OptionalLong_EMPTY_old : Sta Z Z.heap "java/util/OptionalLong" "EMPTY" "Ljava/util/OptionalLong;" (.ref em)) (E_em_old : Exa Z Z.heap em "java/util/OptionalLong") (F_em_isPresent_old : Fld Z Z.heap em "java/util/OptionalLong" "isPresent" "Z" (.int (0 : Int32))) (F_em_value_old : Fld Z Z.heap em "java/util/OptionalLong" "value" "J" (.long (0 : Int64))) :
    MetFree l Y13 (head1 (Jvm.Cond.code Y13 prog_11_method_2_code 9 (some (.object "com/example/log_lag_gauge/loglaggauge/model/PartLooks")) :: ws) ({ frames := 3, cells := 6, slots := 84, locals := 46 } : Room)) (fun a U => a = #[(.ref w1), (.int (1 : Int32)), (.long q1), (.long q2)] ∧ Z.Warmed39 U.vm ∧ U.heap = h0) (fun _ _ _ _ _ => True) (fun _ U o U' => ∃ v L, o = .returned v ∧ Q_rm_one1 Z w1 q1 q2 em h0 n0 v U'.heap L ∧ ReturnedEndW U o U' L ({ frames := 3, cells := 6, slots := 84, locals := 46 } : Room).cells ({ frames := 3, cells := 6, slots := 84, locals := 46 } : Room).slots) := by
  refine MetFree.of_bodySF (plainFor_of_name pn_com_example_log_lag_gauge_loglaggauge_model_PartLooks) hisR ?_
  intro p e s m args below meth c s₁ Bd hml0 hP hK
  obtain ⟨rfl, hZ, hh⟩ := hP
  have hx := Bd.exec
  have hby := Bd.bytes
  have hml : c.maxLocals = 9 := hml0
  have hown : s.vm.findClass "com/example/log_lag_gauge/loglaggauge/model/PartLooks" = some m.cls := findClass_of_methodNamed Bd.named
  have hnm := (name_of_methodNamed Bd.named Bd.method).1
  have X0 : Stand p l e ({ frames := 3, cells := 6, slots := 84, locals := 46 } : Room) (s.setVm s.vm) m #[(.ref w1), (.int (1 : Int32)), (.long q1), (.long q2)] below meth c s₁ [] 0 0 := Stand.of_body Bd
  have e0 : s₁.heap = h0 := by rw [← hh, Bd.state]; rfl
  have N0 := Fr.nil n0
  refine GoesW.out (l := l) (c := c) (R := ({ frames := 3, cells := 6, slots := 84, locals := 46 } : Room)) (Q := Q_rm_one1 Z w1 q1 q2 em h0 n0) Bd.notSynchronized ?_
  refine GoesW.cast (g2 := mkF m 0 #[rv w1, iv 1, .val (.long q1), .second, .val (.long q2), .second, .unset, .unset, .unset] []) (by first | (simp [entryFrame, mkF, argsToLocals, Value.category]; done) | rfl) ?_
  have K0 : Keep h0 h0 [] := Keep.refl h0 _
  have hws : ∀ x ∈ ([] : List Addr), n0 ≤ x := all0
  have Sn0 : s.Since s.vm 0 := (State.WarmedH.refl s).since 0
  have kle0 : 0 ≤ h0.size := Nat.zero_le _
  have wSA := own_wsa hw
  refine GoesW.step (T2 := s₁) (g2 := (mkF m 1 #[rv w1, iv 1, .val (.long q1), .second, .val (.long q2), .second, .unset, .unset, .unset] [(.int (1 : Int32))])) (fun _ hr => XS.iloadN X0.here hx rfl (hb hby d13_0) rfl  hr) ?_
  refine GoesW.step (T2 := s₁) (g2 := (mkF m 4 #[rv w1, iv 1, .val (.long q1), .second, .val (.long q2), .second, .unset, .unset, .unset] [])) (fun _ hr => XS.ifNo X0.here hx rfl (hb hby d13_1) rfl ((if0 _ _).trans (feq (by decide : ¬ ((1 : Int32) = (0 : Int32)))).1) hr) ?_
  refine GoesW.step (T2 := s₁) (g2 := (mkF m 6 #[rv w1, iv 1, .val (.long q1), .second, .val (.long q2), .second, .unset, .unset, .unset] [(.long q2)])) (fun _ hr => Jvm.Free.XT.lload X0.here hx rfl (hb hby d13_4) rfl hr) ?_
  have Zs69 : n0 ≤ h0.size := Nat.le_trans Z0 K0.1
  obtain ⟨_, _, ⟨T70, L70, k70, n70⟩, -, X70, ⟨Lc70, hQ70, l70, y70, z70⟩, st70⟩ := Jvm.LawKit.callS X0 hx (y := Y6) hown (mvT hZ (tw hw 112 rfl)) (mvT hZ (tw hw 113 rfl)) (mvT hZ (tw hw 36 rfl)) (mvT hZ (tw hw 114 rfl)) (by decide) (backOf (W := 0) (rm_olof l Z a0 hw [] q2 h0 n0 Zs69 (Old.keep O0 K0 hws)) hZ (tw hw 114 rfl) (tw hw 36 rfl) (by decide) (by decide)) (g := (mkF m 6 #[rv w1, iv 1, .val (.long q1), .second, .val (.long q2), .second, .unset, .unset, .unset] [(.long q2)])) rfl (by rw [hml]; rfl) (argsL := [(.long q2)]) (rest := []) (lenOf pd_9 rfl) rfl (by show 2 * 0 + _ ≤ _; exact Nat.le_of_eq rfl) (hb hby d13_6) (fun _ _ => ⟨rfl, e0, (by decide : 0 + 1 ≤ _), (by decide : 0 + 2 ≤ _)⟩)
  dsimp only [Pt.U, Pt.locs, Pt.cells, Pt.slots] at X70 l70 y70 z70 st70 hQ70
  subst l70 y70 z70
  obtain ⟨w70, rfl, N70q, Kc70, P70_0, P70_1, P70_2, P70_3⟩ := hQ70
  have N70 := Fr.app N0 N70q
  have K70 : Keep h0 T70.heap [] := K0.trans Kc70 all0
  have kle70 : 0 ≤ T70.heap.size := Nat.le_trans kle0 Kc70.1
  have sz_w70 : h0.size ≤ w70 := Nat.le_trans K0.1 P70_0
  have ge_w70 : n0 ≤ w70 := Nat.le_trans Z0 sz_w70
  have E_w70_70c : Exa Z T70.heap w70 "java/util/OptionalLong" := P70_1
  have F_w70_isPresent_70c : Fld Z T70.heap w70 "java/util/OptionalLong" "isPresent" "Z" (.int (1 : Int32)) := P70_2
  have F_w70_value_70c : Fld Z T70.heap w70 "java/util/OptionalLong" "value" "J" (.long q2) := P70_3
  refine GoesW.step (T2 := T70) (g2 := (mkF m 9 #[rv w1, iv 1, .val (.long q1), .second, .val (.long q2), .second, .unset, .unset, .unset] [(.ref w70)])) st70 ?_
  refine GoesW.step (T2 := T70) (g2 := (mkF m 11 #[rv w1, iv 1, .val (.long q1), .second, .val (.long q2), .second, rv w70, .unset, .unset] [])) (fun _ hr => XS.astore X70.here hx rfl (hb hby d13_9) rfl rfl (l' := #[rv w1, iv 1, .val (.long q1), .second, .val (.long q2), .second, rv w70, .unset, .unset]) rfl hr) ?_
  refine GoesW.step (T2 := T70) (g2 := (mkF m 12 #[rv w1, iv 1, .val (.long q1), .second, .val (.long q2), .second, rv w70, .unset, .unset] [(.long (0 : Int64))])) (fun _ hr => Jvm.Free.XT.lconst X70.here hx rfl (hb hby d13_11) hr) ?_
  refine GoesW.step (T2 := T70) (g2 := (mkF m 14 #[rv w1, iv 1, .val (.long q1), .second, .val (.long q2), .second, rv w70, .val (.long (0 : Int64)), .second] [])) (fun _ hr => Jvm.Free.XT.lstore X70.here hx rfl (hb hby d13_12) rfl (l' := #[rv w1, iv 1, .val (.long q1), .second, .val (.long q2), .second, rv w70, .val (.long (0 : Int64)), .second]) rfl hr) ?_
  refine GoesW.step (T2 := T70) (g2 := (mkF m 25 #[rv w1, iv 1, .val (.long q1), .second, .val (.long q2), .second, rv w70, .val (.long (0 : Int64)), .second] [])) (fun _ hr => XS.goto X70.here hx rfl (pc0 := 14) (pc' := 25) rfl (hb hby d13_14) (by decide) (by decide) hr) ?_
  obtain ⟨T71, h71, X71, e71, E71, A71, D71, -, st71⟩ := newO X70 hx hZ hown (tw hw 39 rfl) (tw hw 40 rfl) (tw hw 32 rfl) rfl (g := (mkF m 25 #[rv w1, iv 1, .val (.long q1), .second, .val (.long q2), .second, rv w70, .val (.long (0 : Int64)), .second] [])) rfl (hb hby d13_25) (by decide) (by decide)
  obtain ⟨b71, g71⟩ : ∃ z, z = T70.heap.size := ⟨_, rfl⟩
  rw [← g71] at A71 D71 st71
  have sz_b71 : h0.size ≤ b71 := Nat.le_trans K70.1 (Nat.le_of_eq g71.symm)
  have ge_b71 : n0 ≤ b71 := Nat.le_trans Z0 sz_b71
  have E_w70_71 : Exa Z h71 w70 "java/util/OptionalLong" := E_w70_70c.ext E71
  have F_w70_isPresent_71 : Fld Z h71 w70 "java/util/OptionalLong" "isPresent" "Z" (.int (1 : Int32)) := F_w70_isPresent_70c.ext E71
  have F_w70_value_71 : Fld Z h71 w70 "java/util/OptionalLong" "value" "J" (.long q2) := F_w70_value_70c.ext E71
  have K71 : Keep h0 h71 [] := K70.ext E71
  have kle71 : 0 ≤ h71.size := Nat.le_trans kle70 E71.1
  have F_b71_part_71 : Fld Z h71 b71 "com/example/log_lag_gauge/loglaggauge/model/PartLooks" "part" "Ljava/lang/String;" .null := D71 (Or.inr (tw hw 59 rfl)) (ty := (.object "java/lang/String")) (by decide)
  have F_b71_succeeded_71 : Fld Z h71 b71 "com/example/log_lag_gauge/loglaggauge/model/PartLooks" "succeeded" "Z" (.int (0 : Int32)) := D71 (Or.inr (tw hw 61 rfl)) (ty := .boolean) (by decide)
  have F_b71_durationMs_71 : Fld Z h71 b71 "com/example/log_lag_gauge/loglaggauge/model/PartLooks" "durationMs" "J" (.long (0 : Int64)) := D71 (Or.inr (tw hw 63 rfl)) (ty := .long) (by decide)
  have F_b71_lastSuccessMs_71 : Fld Z h71 b71 "com/example/log_lag_gauge/loglaggauge/model/PartLooks" "lastSuccessMs" "Ljava/util/OptionalLong;" .null := D71 (Or.inr (tw hw 65 rfl)) (ty := (.object "java/util/OptionalLong")) (by decide)
  have F_b71_looks_71 : Fld Z h71 b71 "com/example/log_lag_gauge/loglaggauge/model/PartLooks" "looks" "J" (.long (0 : Int64)) := D71 (Or.inr (tw hw 67 rfl)) (ty := .long) (by decide)
  have F_b71_failures_71 : Fld Z h71 b71 "com/example/log_lag_gauge/loglaggauge/model/PartLooks" "failures" "J" (.long (0 : Int64)) := D71 (Or.inr (tw hw 69 rfl)) (ty := .long) (by decide)
  refine GoesW.step (T2 := T71) (g2 := (mkF m 28 #[rv w1, iv 1, .val (.long q1), .second, .val (.long q2), .second, rv w70, .val (.long (0 : Int64)), .second] [(.ref b71)])) st71 ?_
  refine GoesW.step (T2 := T71) (g2 := (mkF m 29 #[rv w1, iv 1, .val (.long q1), .second, .val (.long q2), .second, rv w70, .val (.long (0 : Int64)), .second] [(.ref b71), (.ref b71)])) (fun _ hr => XS.dup X71.here hx rfl (hb hby d13_28) rfl rfl hr) ?_
  refine GoesW.step (T2 := T71) (g2 := (mkF m 30 #[rv w1, iv 1, .val (.long q1), .second, .val (.long q2), .second, rv w70, .val (.long (0 : Int64)), .second] [(.ref w1), (.ref b71), (.ref b71)])) (fun _ hr => XS.aloadN X71.here hx rfl (hb hby d13_29) rfl rfl hr) ?_
  refine GoesW.step (T2 := T71) (g2 := (mkF m 31 #[rv w1, iv 1, .val (.long q1), .second, .val (.long q2), .second, rv w70, .val (.long (0 : Int64)), .second] [(.int (1 : Int32)), (.ref w1), (.ref b71), (.ref b71)])) (fun _ hr => XS.iloadN X71.here hx rfl (hb hby d13_30) rfl  hr) ?_
  refine GoesW.step (T2 := T71) (g2 := (mkF m 32 #[rv w1, iv 1, .val (.long q1), .second, .val (.long q2), .second, rv w70, .val (.long (0 : Int64)), .second] [(.long q1), (.int (1 : Int32)), (.ref w1), (.ref b71), (.ref b71)])) (fun _ hr => Jvm.Free.XT.lloadN X71.here hx rfl (hb hby d13_31) rfl hr) ?_
  refine GoesW.step (T2 := T71) (g2 := (mkF m 34 #[rv w1, iv 1, .val (.long q1), .second, .val (.long q2), .second, rv w70, .val (.long (0 : Int64)), .second] [(.ref w70), (.long q1), (.int (1 : Int32)), (.ref w1), (.ref b71), (.ref b71)])) (fun _ hr => XS.aload X71.here hx rfl (hb hby d13_32) rfl rfl hr) ?_
  refine GoesW.step (T2 := T71) (g2 := (mkF m 35 #[rv w1, iv 1, .val (.long q1), .second, .val (.long q2), .second, rv w70, .val (.long (0 : Int64)), .second] [(.long (1 : Int64)), (.ref w70), (.long q1), (.int (1 : Int32)), (.ref w1), (.ref b71), (.ref b71)])) (fun _ hr => Jvm.Free.XT.lconst X71.here hx rfl (hb hby d13_34) hr) ?_
  refine GoesW.step (T2 := T71) (g2 := (mkF m 37 #[rv w1, iv 1, .val (.long q1), .second, .val (.long q2), .second, rv w70, .val (.long (0 : Int64)), .second] [(.long (0 : Int64)), (.long (1 : Int64)), (.ref w70), (.long q1), (.int (1 : Int32)), (.ref w1), (.ref b71), (.ref b71)])) (fun _ hr => Jvm.Free.XT.lload X71.here hx rfl (hb hby d13_35) rfl hr) ?_
  have Zs72 : n0 ≤ h71.size := Nat.le_trans Z0 K71.1
  obtain ⟨_, _, ⟨T73, L73, k73, n73⟩, -, X73, Sc73, gr73, ⟨Lc73, hQ73, l73, y73, z73⟩, st73⟩ := X71.specialBackS hx (y := Y12) rfl hown (mvT hZ (tw hw 41 rfl)) (mvT hZ (tw hw 42 rfl)) (mvT hZ (tw hw 43 rfl)) (by decide) (backOfS (W := 1) (rm_pl1 l Z a0 hw [] b71 w1 w70 q1 h71 n0 Zs72 (Old.keep O0 K71 hws) A71 F_b71_part_71 F_b71_succeeded_71 F_b71_durationMs_71 F_b71_lastSuccessMs_71 F_b71_looks_71 F_b71_failures_71 ge_b71) hZ (tw hw 43 rfl) (tw hw 32 rfl) (by decide) (by decide)) (g := (mkF m 37 #[rv w1, iv 1, .val (.long q1), .second, .val (.long q2), .second, rv w70, .val (.long (0 : Int64)), .second] [(.long (0 : Int64)), (.long (1 : Int64)), (.ref w70), (.long q1), (.int (1 : Int32)), (.ref w1), (.ref b71), (.ref b71)])) rfl (by rw [hml]; rfl) (Steps.refl _) (a := b71) (argsL := [(.ref w1), (.int (1 : Int32)), (.long q1), (.ref w70), (.long (1 : Int64)), (.long (0 : Int64))]) (rest := [(.ref b71)]) (lenOf pd_8 rfl) rfl (by show 2 * 0 + _ ≤ _; exact Nat.le_of_eq rfl) (hb hby d13_37) (fun _ _ => ⟨rfl, e71, (by decide : 2 + 4 ≤ _), (by decide : 8 + 76 ≤ _)⟩)
  dsimp only [Pt.U, Pt.locs, Pt.cells, Pt.slots] at X73 l73 y73 z73 st73 hQ73 Sc73 gr73
  subst l73 y73 z73
  have Sn73 := Sn0.trans Sc73 (Nat.le_trans (show 0 ≤ T71.heap.size by rw [(e71 : T71.heap = h71)]; exact kle71) gr73)
  have hZ73 : Z.Warmed39 (s.setVm T73.vm).vm := State.Warmed39.trans (t := s.setVm s.vm) hZ Sc73.1
  have hown73 : (s.setVm T73.vm).vm.findClass "com/example/log_lag_gauge/loglaggauge/model/PartLooks" = some m.cls := by rw [show (s.setVm T73.vm).vm = T73.vm from rfl, Sc73.1.alike.findClass]; exact hown
  have kle73 : T73.heap.size ≤ T73.heap.size := Nat.le_refl _
  obtain ⟨rfl, N73q, Kc73, P73_0, P73_1, P73_2, P73_3, P73_4, P73_5⟩ := hQ73
  have N73 := Fr.app N70 N73q
  have E_w70_73 : Exa Z T73.heap w70 "java/util/OptionalLong" := E_w70_71.keep Kc73
  have F_w70_isPresent_73 : Fld Z T73.heap w70 "java/util/OptionalLong" "isPresent" "Z" (.int (1 : Int32)) := F_w70_isPresent_71.keep Kc73 (ninS (Nat.ne_of_lt (Nat.lt_of_lt_of_le E_w70_70c.lt (Nat.le_of_eq g71.symm))) nin0)
  have F_w70_value_73 : Fld Z T73.heap w70 "java/util/OptionalLong" "value" "J" (.long q2) := F_w70_value_71.keep Kc73 (ninS (Nat.ne_of_lt (Nat.lt_of_lt_of_le E_w70_70c.lt (Nat.le_of_eq g71.symm))) nin0)
  have E_b71_73 : Exa Z T73.heap b71 "com/example/log_lag_gauge/loglaggauge/model/PartLooks" := A71.keep Kc73
  have K73 : Keep h0 T73.heap [] := K71.trans Kc73 (allS (Or.inr sz_b71) all0)
  have F_b71_part_73c : Fld Z T73.heap b71 "com/example/log_lag_gauge/loglaggauge/model/PartLooks" "part" "Ljava/lang/String;" (.ref w1) := P73_0
  have F_b71_succeeded_73c : Fld Z T73.heap b71 "com/example/log_lag_gauge/loglaggauge/model/PartLooks" "succeeded" "Z" (.int (1 : Int32)) := P73_1
  have F_b71_durationMs_73c : Fld Z T73.heap b71 "com/example/log_lag_gauge/loglaggauge/model/PartLooks" "durationMs" "J" (.long q1) := P73_2
  have F_b71_lastSuccessMs_73c : Fld Z T73.heap b71 "com/example/log_lag_gauge/loglaggauge/model/PartLooks" "lastSuccessMs" "Ljava/util/OptionalLong;" (.ref w70) := P73_3
  have F_b71_looks_73c : Fld Z T73.heap b71 "com/example/log_lag_gauge/loglaggauge/model/PartLooks" "looks" "J" (.long (1 : Int64)) := P73_4
  have F_b71_failures_73c : Fld Z T73.heap b71 "com/example/log_lag_gauge/loglaggauge/model/PartLooks" "failures" "J" (.long (0 : Int64)) := P73_5
  refine GoesW.step (T2 := T73) (g2 := (mkF m 40 #[rv w1, iv 1, .val (.long q1), .second, .val (.long q2), .second, rv w70, .val (.long (0 : Int64)), .second] [(.ref b71)])) (fun _ hr => st73.trans hr) ?_
  exact GoesW.ret (v := some (.ref b71)) X73 Sn73 kle73 (by decide) (by decide) (fun h => by rw [Bd.returns] at h; cases h) (by show Q_rm_one1 Z w1 q1 q2 em h0 n0 _ T73.heap _; exact ⟨b71, w70, rfl, N73, K73, sz_b71, E_b71_73, F_b71_part_73c, F_b71_succeeded_73c, F_b71_durationMs_73c, F_b71_lastSuccessMs_73c, F_b71_looks_73c, F_b71_failures_73c, sz_w70, E_w70_73, F_w70_isPresent_73, F_w70_value_73⟩) (fun fs hr => retOut X73 hx Bd.returns rfl (Or.inr (Or.inr (Or.inr (Or.inr ⟨rfl, rfl, rfl⟩)))) (hb hby d13_40) hr)
theorem d14_0 : decode prog_11_method_7_code 0 = .ok (.aload_n 0, 1) := by decide +kernel
theorem d14_1 : decode prog_11_method_7_code 1 = .ok (.getfield 17, 3) := by decide +kernel
theorem d14_4 : decode prog_11_method_7_code 4 = .ok (.areturn, 1) := by decide +kernel
def Q_rm_part0 (Z : State) (a1 : Addr) (w1 : Addr) (h0 : Heap) (n0 : Nat) (v : Option Value) (h : Heap) (L : List Loc) : Prop := v = some (.ref w1) ∧ Fr n0 L ∧ h = h0
set_option maxRecDepth 65536 in
set_option maxHeartbeats 40000000 in
theorem rm_part0 (l : Launch) (Z : State) (a0 : Array Value) (hw : ∀ d ∈ tables_1, d.before a0 Z = true) (ws : List Jvm.Cond) (a1 : Addr) (w1 : Addr) (h0 : Heap) (n0 : Nat) (Z0 : n0 ≤ h0.size) (O0 : Old Z n0 h0) (F_a1_part : Fld Z h0 a1 "com/example/log_lag_gauge/loglaggauge/model/PartLooks" "part" "Ljava/lang/String;" (.ref w1)) :
    MetFree l Y14 (head1 (Jvm.Cond.code Y14 prog_11_method_7_code 1 (some (.object "java/lang/String")) :: ws) ({ frames := 0, cells := 0, slots := 0, locals := 0 } : Room)) (fun a U => a = #[(.ref a1)] ∧ Z.Warmed39 U.vm ∧ U.heap = h0) (fun _ _ _ _ _ => True) (fun _ U o U' => ∃ v L, o = .returned v ∧ Q_rm_part0 Z a1 w1 h0 n0 v U'.heap L ∧ FrameEnd U o U' L ({ frames := 0, cells := 0, slots := 0, locals := 0 } : Room).cells ({ frames := 0, cells := 0, slots := 0, locals := 0 } : Room).slots) := by
  refine MetFree.of_bodySF (plainFor_of_name pn_com_example_log_lag_gauge_loglaggauge_model_PartLooks) hisR ?_
  intro p e s m args below meth c s₁ Bd hml0 hP hK
  obtain ⟨rfl, hZ, hh⟩ := hP
  have hx := Bd.exec
  have hby := Bd.bytes
  have hml : c.maxLocals = 1 := hml0
  have hown : s.vm.findClass "com/example/log_lag_gauge/loglaggauge/model/PartLooks" = some m.cls := findClass_of_methodNamed Bd.named
  have hnm := (name_of_methodNamed Bd.named Bd.method).1
  have X0 : Stand p l e ({ frames := 0, cells := 0, slots := 0, locals := 0 } : Room) s m #[(.ref a1)] below meth c s₁ [] 0 0 := Stand.of_body Bd
  have e0 : s₁.heap = h0 := by rw [← hh, Bd.state]; rfl
  have N0 := Fr.nil n0
  refine Goes.out (l := l) (c := c) (R := ({ frames := 0, cells := 0, slots := 0, locals := 0 } : Room)) (Q := Q_rm_part0 Z a1 w1 h0 n0) Bd.notSynchronized ?_
  refine Goes.cast (g2 := mkF m 0 #[rv a1] []) (by first | (simp [entryFrame, mkF, argsToLocals, Value.category]; done) | rfl) ?_
  have K0 : Keep h0 h0 [] := Keep.refl h0 _
  have hws : ∀ x ∈ ([] : List Addr), n0 ≤ x := all0
  refine Goes.step (T2 := s₁) (g2 := (mkF m 1 #[rv a1] [(.ref a1)])) (fun _ hr => XS.aloadN X0.here hx rfl (hb hby d14_0) rfl rfl hr) ?_
  obtain ⟨T74, X74, e74, st74⟩ := getF X0 hx hZ hown (host := "") (Or.inl (tw hw 58 rfl)) Via.refl e0 F_a1_part (g := (mkF m 1 #[rv a1] [(.ref a1)])) rfl rfl (hb hby d14_1)
  refine Goes.step (T2 := T74) (g2 := (mkF m 4 #[rv a1] [(.ref w1)])) st74 ?_
  exact Goes.ret (v := some (.ref w1)) X74 (by decide) (by decide) (fun h => by rw [Bd.returns] at h; cases h) ⟨rfl, N0, e74⟩ (fun fs hr => retOut X74 hx Bd.returns rfl (Or.inr (Or.inr (Or.inr (Or.inr ⟨rfl, rfl, rfl⟩)))) (hb hby d14_4) hr)
theorem d15_0 : decode prog_11_method_8_code 0 = .ok (.aload_n 0, 1) := by decide +kernel
theorem d15_1 : decode prog_11_method_8_code 1 = .ok (.getfield 22, 3) := by decide +kernel
theorem d15_4 : decode prog_11_method_8_code 4 = .ok (.ireturn, 1) := by decide +kernel
def Q_rm_succeeded0 (Z : State) (a1 : Addr) (h0 : Heap) (n0 : Nat) (v : Option Value) (h : Heap) (L : List Loc) : Prop := v = some (.int (0 : Int32)) ∧ Fr n0 L ∧ h = h0
set_option maxRecDepth 65536 in
set_option maxHeartbeats 40000000 in
theorem rm_succeeded0 (l : Launch) (Z : State) (a0 : Array Value) (hw : ∀ d ∈ tables_1, d.before a0 Z = true) (ws : List Jvm.Cond) (a1 : Addr) (h0 : Heap) (n0 : Nat) (Z0 : n0 ≤ h0.size) (O0 : Old Z n0 h0) (F_a1_succeeded : Fld Z h0 a1 "com/example/log_lag_gauge/loglaggauge/model/PartLooks" "succeeded" "Z" (.int (0 : Int32))) :
    MetFree l Y15 (head1 (Jvm.Cond.code Y15 prog_11_method_8_code 1 (some .boolean) :: ws) ({ frames := 0, cells := 0, slots := 0, locals := 0 } : Room)) (fun a U => a = #[(.ref a1)] ∧ Z.Warmed39 U.vm ∧ U.heap = h0) (fun _ _ _ _ _ => True) (fun _ U o U' => ∃ v L, o = .returned v ∧ Q_rm_succeeded0 Z a1 h0 n0 v U'.heap L ∧ FrameEnd U o U' L ({ frames := 0, cells := 0, slots := 0, locals := 0 } : Room).cells ({ frames := 0, cells := 0, slots := 0, locals := 0 } : Room).slots) := by
  refine MetFree.of_bodySF (plainFor_of_name pn_com_example_log_lag_gauge_loglaggauge_model_PartLooks) hisR ?_
  intro p e s m args below meth c s₁ Bd hml0 hP hK
  obtain ⟨rfl, hZ, hh⟩ := hP
  have hx := Bd.exec
  have hby := Bd.bytes
  have hml : c.maxLocals = 1 := hml0
  have hown : s.vm.findClass "com/example/log_lag_gauge/loglaggauge/model/PartLooks" = some m.cls := findClass_of_methodNamed Bd.named
  have hnm := (name_of_methodNamed Bd.named Bd.method).1
  have X0 : Stand p l e ({ frames := 0, cells := 0, slots := 0, locals := 0 } : Room) s m #[(.ref a1)] below meth c s₁ [] 0 0 := Stand.of_body Bd
  have e0 : s₁.heap = h0 := by rw [← hh, Bd.state]; rfl
  have N0 := Fr.nil n0
  refine Goes.out (l := l) (c := c) (R := ({ frames := 0, cells := 0, slots := 0, locals := 0 } : Room)) (Q := Q_rm_succeeded0 Z a1 h0 n0) Bd.notSynchronized ?_
  refine Goes.cast (g2 := mkF m 0 #[rv a1] []) (by first | (simp [entryFrame, mkF, argsToLocals, Value.category]; done) | rfl) ?_
  have K0 : Keep h0 h0 [] := Keep.refl h0 _
  have hws : ∀ x ∈ ([] : List Addr), n0 ≤ x := all0
  refine Goes.step (T2 := s₁) (g2 := (mkF m 1 #[rv a1] [(.ref a1)])) (fun _ hr => XS.aloadN X0.here hx rfl (hb hby d15_0) rfl rfl hr) ?_
  obtain ⟨T75, X75, e75, st75⟩ := getF X0 hx hZ hown (host := "") (Or.inl (tw hw 60 rfl)) Via.refl e0 F_a1_succeeded (g := (mkF m 1 #[rv a1] [(.ref a1)])) rfl rfl (hb hby d15_1)
  refine Goes.step (T2 := T75) (g2 := (mkF m 4 #[rv a1] [(.int (0 : Int32))])) st75 ?_
  exact Goes.ret (v := some (.int (0 : Int32))) X75 (by decide) (by decide) (fun h => by rw [Bd.returns] at h; cases h) ⟨rfl, N0, e75⟩ (fun fs hr => retN X75 hx (t := .boolean) Bd.returns (by simp) (hb hby d15_4) hr)
def Q_rm_succeeded1 (Z : State) (a1 : Addr) (h0 : Heap) (n0 : Nat) (v : Option Value) (h : Heap) (L : List Loc) : Prop := v = some (.int (1 : Int32)) ∧ Fr n0 L ∧ h = h0
set_option maxRecDepth 65536 in
set_option maxHeartbeats 40000000 in
theorem rm_succeeded1 (l : Launch) (Z : State) (a0 : Array Value) (hw : ∀ d ∈ tables_1, d.before a0 Z = true) (ws : List Jvm.Cond) (a1 : Addr) (h0 : Heap) (n0 : Nat) (Z0 : n0 ≤ h0.size) (O0 : Old Z n0 h0) (F_a1_succeeded : Fld Z h0 a1 "com/example/log_lag_gauge/loglaggauge/model/PartLooks" "succeeded" "Z" (.int (1 : Int32))) :
    MetFree l Y15 (head1 (Jvm.Cond.code Y15 prog_11_method_8_code 1 (some .boolean) :: ws) ({ frames := 0, cells := 0, slots := 0, locals := 0 } : Room)) (fun a U => a = #[(.ref a1)] ∧ Z.Warmed39 U.vm ∧ U.heap = h0) (fun _ _ _ _ _ => True) (fun _ U o U' => ∃ v L, o = .returned v ∧ Q_rm_succeeded1 Z a1 h0 n0 v U'.heap L ∧ FrameEnd U o U' L ({ frames := 0, cells := 0, slots := 0, locals := 0 } : Room).cells ({ frames := 0, cells := 0, slots := 0, locals := 0 } : Room).slots) := by
  refine MetFree.of_bodySF (plainFor_of_name pn_com_example_log_lag_gauge_loglaggauge_model_PartLooks) hisR ?_
  intro p e s m args below meth c s₁ Bd hml0 hP hK
  obtain ⟨rfl, hZ, hh⟩ := hP
  have hx := Bd.exec
  have hby := Bd.bytes
  have hml : c.maxLocals = 1 := hml0
  have hown : s.vm.findClass "com/example/log_lag_gauge/loglaggauge/model/PartLooks" = some m.cls := findClass_of_methodNamed Bd.named
  have hnm := (name_of_methodNamed Bd.named Bd.method).1
  have X0 : Stand p l e ({ frames := 0, cells := 0, slots := 0, locals := 0 } : Room) s m #[(.ref a1)] below meth c s₁ [] 0 0 := Stand.of_body Bd
  have e0 : s₁.heap = h0 := by rw [← hh, Bd.state]; rfl
  have N0 := Fr.nil n0
  refine Goes.out (l := l) (c := c) (R := ({ frames := 0, cells := 0, slots := 0, locals := 0 } : Room)) (Q := Q_rm_succeeded1 Z a1 h0 n0) Bd.notSynchronized ?_
  refine Goes.cast (g2 := mkF m 0 #[rv a1] []) (by first | (simp [entryFrame, mkF, argsToLocals, Value.category]; done) | rfl) ?_
  have K0 : Keep h0 h0 [] := Keep.refl h0 _
  have hws : ∀ x ∈ ([] : List Addr), n0 ≤ x := all0
  refine Goes.step (T2 := s₁) (g2 := (mkF m 1 #[rv a1] [(.ref a1)])) (fun _ hr => XS.aloadN X0.here hx rfl (hb hby d15_0) rfl rfl hr) ?_
  obtain ⟨T76, X76, e76, st76⟩ := getF X0 hx hZ hown (host := "") (Or.inl (tw hw 60 rfl)) Via.refl e0 F_a1_succeeded (g := (mkF m 1 #[rv a1] [(.ref a1)])) rfl rfl (hb hby d15_1)
  refine Goes.step (T2 := T76) (g2 := (mkF m 4 #[rv a1] [(.int (1 : Int32))])) st76 ?_
  exact Goes.ret (v := some (.int (1 : Int32))) X76 (by decide) (by decide) (fun h => by rw [Bd.returns] at h; cases h) ⟨rfl, N0, e76⟩ (fun fs hr => retN X76 hx (t := .boolean) Bd.returns (by simp) (hb hby d15_4) hr)
theorem d16_0 : decode prog_11_method_9_code 0 = .ok (.aload_n 0, 1) := by decide +kernel
theorem d16_1 : decode prog_11_method_9_code 1 = .ok (.getfield 26, 3) := by decide +kernel
theorem d16_4 : decode prog_11_method_9_code 4 = .ok (.lreturn, 1) := by decide +kernel
def Q_rm_durationMs0 (Z : State) (a1 : Addr) (q1 : Int64) (h0 : Heap) (n0 : Nat) (v : Option Value) (h : Heap) (L : List Loc) : Prop := v = some (.long q1) ∧ Fr n0 L ∧ h = h0
set_option maxRecDepth 65536 in
set_option maxHeartbeats 40000000 in
theorem rm_durationMs0 (l : Launch) (Z : State) (a0 : Array Value) (hw : ∀ d ∈ tables_1, d.before a0 Z = true) (ws : List Jvm.Cond) (a1 : Addr) (q1 : Int64) (h0 : Heap) (n0 : Nat) (Z0 : n0 ≤ h0.size) (O0 : Old Z n0 h0) (F_a1_durationMs : Fld Z h0 a1 "com/example/log_lag_gauge/loglaggauge/model/PartLooks" "durationMs" "J" (.long q1)) :
    MetFree l Y16 (head1 (Jvm.Cond.code Y16 prog_11_method_9_code 1 (some .long) :: ws) ({ frames := 0, cells := 0, slots := 0, locals := 0 } : Room)) (fun a U => a = #[(.ref a1)] ∧ Z.Warmed39 U.vm ∧ U.heap = h0) (fun _ _ _ _ _ => True) (fun _ U o U' => ∃ v L, o = .returned v ∧ Q_rm_durationMs0 Z a1 q1 h0 n0 v U'.heap L ∧ FrameEnd U o U' L ({ frames := 0, cells := 0, slots := 0, locals := 0 } : Room).cells ({ frames := 0, cells := 0, slots := 0, locals := 0 } : Room).slots) := by
  refine MetFree.of_bodySF (plainFor_of_name pn_com_example_log_lag_gauge_loglaggauge_model_PartLooks) hisR ?_
  intro p e s m args below meth c s₁ Bd hml0 hP hK
  obtain ⟨rfl, hZ, hh⟩ := hP
  have hx := Bd.exec
  have hby := Bd.bytes
  have hml : c.maxLocals = 1 := hml0
  have hown : s.vm.findClass "com/example/log_lag_gauge/loglaggauge/model/PartLooks" = some m.cls := findClass_of_methodNamed Bd.named
  have hnm := (name_of_methodNamed Bd.named Bd.method).1
  have X0 : Stand p l e ({ frames := 0, cells := 0, slots := 0, locals := 0 } : Room) s m #[(.ref a1)] below meth c s₁ [] 0 0 := Stand.of_body Bd
  have e0 : s₁.heap = h0 := by rw [← hh, Bd.state]; rfl
  have N0 := Fr.nil n0
  refine Goes.out (l := l) (c := c) (R := ({ frames := 0, cells := 0, slots := 0, locals := 0 } : Room)) (Q := Q_rm_durationMs0 Z a1 q1 h0 n0) Bd.notSynchronized ?_
  refine Goes.cast (g2 := mkF m 0 #[rv a1] []) (by first | (simp [entryFrame, mkF, argsToLocals, Value.category]; done) | rfl) ?_
  have K0 : Keep h0 h0 [] := Keep.refl h0 _
  have hws : ∀ x ∈ ([] : List Addr), n0 ≤ x := all0
  refine Goes.step (T2 := s₁) (g2 := (mkF m 1 #[rv a1] [(.ref a1)])) (fun _ hr => XS.aloadN X0.here hx rfl (hb hby d16_0) rfl rfl hr) ?_
  obtain ⟨T77, X77, e77, st77⟩ := getF X0 hx hZ hown (host := "") (Or.inl (tw hw 62 rfl)) Via.refl e0 F_a1_durationMs (g := (mkF m 1 #[rv a1] [(.ref a1)])) rfl rfl (hb hby d16_1)
  refine Goes.step (T2 := T77) (g2 := (mkF m 4 #[rv a1] [(.long q1)])) st77 ?_
  exact Goes.ret (v := some (.long q1)) X77 (by decide) (by decide) (fun h => by rw [Bd.returns] at h; cases h) ⟨rfl, N0, e77⟩ (fun fs hr => retOut X77 hx Bd.returns rfl (Or.inr (Or.inl ⟨rfl, rfl, _, rfl⟩)) (hb hby d16_4) hr)
theorem d17_0 : decode prog_11_method_10_code 0 = .ok (.aload_n 0, 1) := by decide +kernel
theorem d17_1 : decode prog_11_method_10_code 1 = .ok (.getfield 30, 3) := by decide +kernel
theorem d17_4 : decode prog_11_method_10_code 4 = .ok (.areturn, 1) := by decide +kernel
def Q_rm_lastSuccessMs0 (Z : State) (a1 : Addr) (w2 : Addr) (h0 : Heap) (n0 : Nat) (v : Option Value) (h : Heap) (L : List Loc) : Prop := v = some (.ref w2) ∧ Fr n0 L ∧ h = h0
set_option maxRecDepth 65536 in
set_option maxHeartbeats 40000000 in
theorem rm_lastSuccessMs0 (l : Launch) (Z : State) (a0 : Array Value) (hw : ∀ d ∈ tables_1, d.before a0 Z = true) (ws : List Jvm.Cond) (a1 : Addr) (w2 : Addr) (h0 : Heap) (n0 : Nat) (Z0 : n0 ≤ h0.size) (O0 : Old Z n0 h0) (F_a1_lastSuccessMs : Fld Z h0 a1 "com/example/log_lag_gauge/loglaggauge/model/PartLooks" "lastSuccessMs" "Ljava/util/OptionalLong;" (.ref w2)) :
    MetFree l Y17 (head1 (Jvm.Cond.code Y17 prog_11_method_10_code 1 (some (.object "java/util/OptionalLong")) :: ws) ({ frames := 0, cells := 0, slots := 0, locals := 0 } : Room)) (fun a U => a = #[(.ref a1)] ∧ Z.Warmed39 U.vm ∧ U.heap = h0) (fun _ _ _ _ _ => True) (fun _ U o U' => ∃ v L, o = .returned v ∧ Q_rm_lastSuccessMs0 Z a1 w2 h0 n0 v U'.heap L ∧ FrameEnd U o U' L ({ frames := 0, cells := 0, slots := 0, locals := 0 } : Room).cells ({ frames := 0, cells := 0, slots := 0, locals := 0 } : Room).slots) := by
  refine MetFree.of_bodySF (plainFor_of_name pn_com_example_log_lag_gauge_loglaggauge_model_PartLooks) hisR ?_
  intro p e s m args below meth c s₁ Bd hml0 hP hK
  obtain ⟨rfl, hZ, hh⟩ := hP
  have hx := Bd.exec
  have hby := Bd.bytes
  have hml : c.maxLocals = 1 := hml0
  have hown : s.vm.findClass "com/example/log_lag_gauge/loglaggauge/model/PartLooks" = some m.cls := findClass_of_methodNamed Bd.named
  have hnm := (name_of_methodNamed Bd.named Bd.method).1
  have X0 : Stand p l e ({ frames := 0, cells := 0, slots := 0, locals := 0 } : Room) s m #[(.ref a1)] below meth c s₁ [] 0 0 := Stand.of_body Bd
  have e0 : s₁.heap = h0 := by rw [← hh, Bd.state]; rfl
  have N0 := Fr.nil n0
  refine Goes.out (l := l) (c := c) (R := ({ frames := 0, cells := 0, slots := 0, locals := 0 } : Room)) (Q := Q_rm_lastSuccessMs0 Z a1 w2 h0 n0) Bd.notSynchronized ?_
  refine Goes.cast (g2 := mkF m 0 #[rv a1] []) (by first | (simp [entryFrame, mkF, argsToLocals, Value.category]; done) | rfl) ?_
  have K0 : Keep h0 h0 [] := Keep.refl h0 _
  have hws : ∀ x ∈ ([] : List Addr), n0 ≤ x := all0
  refine Goes.step (T2 := s₁) (g2 := (mkF m 1 #[rv a1] [(.ref a1)])) (fun _ hr => XS.aloadN X0.here hx rfl (hb hby d17_0) rfl rfl hr) ?_
  obtain ⟨T78, X78, e78, st78⟩ := getF X0 hx hZ hown (host := "") (Or.inl (tw hw 64 rfl)) Via.refl e0 F_a1_lastSuccessMs (g := (mkF m 1 #[rv a1] [(.ref a1)])) rfl rfl (hb hby d17_1)
  refine Goes.step (T2 := T78) (g2 := (mkF m 4 #[rv a1] [(.ref w2)])) st78 ?_
  exact Goes.ret (v := some (.ref w2)) X78 (by decide) (by decide) (fun h => by rw [Bd.returns] at h; cases h) ⟨rfl, N0, e78⟩ (fun fs hr => retOut X78 hx Bd.returns rfl (Or.inr (Or.inr (Or.inr (Or.inr ⟨rfl, rfl, rfl⟩)))) (hb hby d17_4) hr)
theorem d18_0 : decode prog_11_method_11_code 0 = .ok (.aload_n 0, 1) := by decide +kernel
theorem d18_1 : decode prog_11_method_11_code 1 = .ok (.getfield 33, 3) := by decide +kernel
theorem d18_4 : decode prog_11_method_11_code 4 = .ok (.lreturn, 1) := by decide +kernel
def Q_rm_looks0 (Z : State) (a1 : Addr) (h0 : Heap) (n0 : Nat) (v : Option Value) (h : Heap) (L : List Loc) : Prop := v = some (.long (1 : Int64)) ∧ Fr n0 L ∧ h = h0
set_option maxRecDepth 65536 in
set_option maxHeartbeats 40000000 in
theorem rm_looks0 (l : Launch) (Z : State) (a0 : Array Value) (hw : ∀ d ∈ tables_1, d.before a0 Z = true) (ws : List Jvm.Cond) (a1 : Addr) (h0 : Heap) (n0 : Nat) (Z0 : n0 ≤ h0.size) (O0 : Old Z n0 h0) (F_a1_looks : Fld Z h0 a1 "com/example/log_lag_gauge/loglaggauge/model/PartLooks" "looks" "J" (.long (1 : Int64))) :
    MetFree l Y18 (head1 (Jvm.Cond.code Y18 prog_11_method_11_code 1 (some .long) :: ws) ({ frames := 0, cells := 0, slots := 0, locals := 0 } : Room)) (fun a U => a = #[(.ref a1)] ∧ Z.Warmed39 U.vm ∧ U.heap = h0) (fun _ _ _ _ _ => True) (fun _ U o U' => ∃ v L, o = .returned v ∧ Q_rm_looks0 Z a1 h0 n0 v U'.heap L ∧ FrameEnd U o U' L ({ frames := 0, cells := 0, slots := 0, locals := 0 } : Room).cells ({ frames := 0, cells := 0, slots := 0, locals := 0 } : Room).slots) := by
  refine MetFree.of_bodySF (plainFor_of_name pn_com_example_log_lag_gauge_loglaggauge_model_PartLooks) hisR ?_
  intro p e s m args below meth c s₁ Bd hml0 hP hK
  obtain ⟨rfl, hZ, hh⟩ := hP
  have hx := Bd.exec
  have hby := Bd.bytes
  have hml : c.maxLocals = 1 := hml0
  have hown : s.vm.findClass "com/example/log_lag_gauge/loglaggauge/model/PartLooks" = some m.cls := findClass_of_methodNamed Bd.named
  have hnm := (name_of_methodNamed Bd.named Bd.method).1
  have X0 : Stand p l e ({ frames := 0, cells := 0, slots := 0, locals := 0 } : Room) s m #[(.ref a1)] below meth c s₁ [] 0 0 := Stand.of_body Bd
  have e0 : s₁.heap = h0 := by rw [← hh, Bd.state]; rfl
  have N0 := Fr.nil n0
  refine Goes.out (l := l) (c := c) (R := ({ frames := 0, cells := 0, slots := 0, locals := 0 } : Room)) (Q := Q_rm_looks0 Z a1 h0 n0) Bd.notSynchronized ?_
  refine Goes.cast (g2 := mkF m 0 #[rv a1] []) (by first | (simp [entryFrame, mkF, argsToLocals, Value.category]; done) | rfl) ?_
  have K0 : Keep h0 h0 [] := Keep.refl h0 _
  have hws : ∀ x ∈ ([] : List Addr), n0 ≤ x := all0
  refine Goes.step (T2 := s₁) (g2 := (mkF m 1 #[rv a1] [(.ref a1)])) (fun _ hr => XS.aloadN X0.here hx rfl (hb hby d18_0) rfl rfl hr) ?_
  obtain ⟨T79, X79, e79, st79⟩ := getF X0 hx hZ hown (host := "") (Or.inl (tw hw 66 rfl)) Via.refl e0 F_a1_looks (g := (mkF m 1 #[rv a1] [(.ref a1)])) rfl rfl (hb hby d18_1)
  refine Goes.step (T2 := T79) (g2 := (mkF m 4 #[rv a1] [(.long (1 : Int64))])) st79 ?_
  exact Goes.ret (v := some (.long (1 : Int64))) X79 (by decide) (by decide) (fun h => by rw [Bd.returns] at h; cases h) ⟨rfl, N0, e79⟩ (fun fs hr => retOut X79 hx Bd.returns rfl (Or.inr (Or.inl ⟨rfl, rfl, _, rfl⟩)) (hb hby d18_4) hr)
theorem d19_0 : decode prog_11_method_12_code 0 = .ok (.aload_n 0, 1) := by decide +kernel
theorem d19_1 : decode prog_11_method_12_code 1 = .ok (.getfield 36, 3) := by decide +kernel
theorem d19_4 : decode prog_11_method_12_code 4 = .ok (.lreturn, 1) := by decide +kernel
def Q_rm_failures0 (Z : State) (a1 : Addr) (h0 : Heap) (n0 : Nat) (v : Option Value) (h : Heap) (L : List Loc) : Prop := v = some (.long (1 : Int64)) ∧ Fr n0 L ∧ h = h0
set_option maxRecDepth 65536 in
set_option maxHeartbeats 40000000 in
theorem rm_failures0 (l : Launch) (Z : State) (a0 : Array Value) (hw : ∀ d ∈ tables_1, d.before a0 Z = true) (ws : List Jvm.Cond) (a1 : Addr) (h0 : Heap) (n0 : Nat) (Z0 : n0 ≤ h0.size) (O0 : Old Z n0 h0) (F_a1_failures : Fld Z h0 a1 "com/example/log_lag_gauge/loglaggauge/model/PartLooks" "failures" "J" (.long (1 : Int64))) :
    MetFree l Y19 (head1 (Jvm.Cond.code Y19 prog_11_method_12_code 1 (some .long) :: ws) ({ frames := 0, cells := 0, slots := 0, locals := 0 } : Room)) (fun a U => a = #[(.ref a1)] ∧ Z.Warmed39 U.vm ∧ U.heap = h0) (fun _ _ _ _ _ => True) (fun _ U o U' => ∃ v L, o = .returned v ∧ Q_rm_failures0 Z a1 h0 n0 v U'.heap L ∧ FrameEnd U o U' L ({ frames := 0, cells := 0, slots := 0, locals := 0 } : Room).cells ({ frames := 0, cells := 0, slots := 0, locals := 0 } : Room).slots) := by
  refine MetFree.of_bodySF (plainFor_of_name pn_com_example_log_lag_gauge_loglaggauge_model_PartLooks) hisR ?_
  intro p e s m args below meth c s₁ Bd hml0 hP hK
  obtain ⟨rfl, hZ, hh⟩ := hP
  have hx := Bd.exec
  have hby := Bd.bytes
  have hml : c.maxLocals = 1 := hml0
  have hown : s.vm.findClass "com/example/log_lag_gauge/loglaggauge/model/PartLooks" = some m.cls := findClass_of_methodNamed Bd.named
  have hnm := (name_of_methodNamed Bd.named Bd.method).1
  have X0 : Stand p l e ({ frames := 0, cells := 0, slots := 0, locals := 0 } : Room) s m #[(.ref a1)] below meth c s₁ [] 0 0 := Stand.of_body Bd
  have e0 : s₁.heap = h0 := by rw [← hh, Bd.state]; rfl
  have N0 := Fr.nil n0
  refine Goes.out (l := l) (c := c) (R := ({ frames := 0, cells := 0, slots := 0, locals := 0 } : Room)) (Q := Q_rm_failures0 Z a1 h0 n0) Bd.notSynchronized ?_
  refine Goes.cast (g2 := mkF m 0 #[rv a1] []) (by first | (simp [entryFrame, mkF, argsToLocals, Value.category]; done) | rfl) ?_
  have K0 : Keep h0 h0 [] := Keep.refl h0 _
  have hws : ∀ x ∈ ([] : List Addr), n0 ≤ x := all0
  refine Goes.step (T2 := s₁) (g2 := (mkF m 1 #[rv a1] [(.ref a1)])) (fun _ hr => XS.aloadN X0.here hx rfl (hb hby d19_0) rfl rfl hr) ?_
  obtain ⟨T80, X80, e80, st80⟩ := getF X0 hx hZ hown (host := "") (Or.inl (tw hw 68 rfl)) Via.refl e0 F_a1_failures (g := (mkF m 1 #[rv a1] [(.ref a1)])) rfl rfl (hb hby d19_1)
  refine Goes.step (T2 := T80) (g2 := (mkF m 4 #[rv a1] [(.long (1 : Int64))])) st80 ?_
  exact Goes.ret (v := some (.long (1 : Int64))) X80 (by decide) (by decide) (fun h => by rw [Bd.returns] at h; cases h) ⟨rfl, N0, e80⟩ (fun fs hr => retOut X80 hx Bd.returns rfl (Or.inr (Or.inl ⟨rfl, rfl, _, rfl⟩)) (hb hby d19_4) hr)
def Q_rm_failures1 (Z : State) (a1 : Addr) (h0 : Heap) (n0 : Nat) (v : Option Value) (h : Heap) (L : List Loc) : Prop := v = some (.long (0 : Int64)) ∧ Fr n0 L ∧ h = h0
set_option maxRecDepth 65536 in
set_option maxHeartbeats 40000000 in
theorem rm_failures1 (l : Launch) (Z : State) (a0 : Array Value) (hw : ∀ d ∈ tables_1, d.before a0 Z = true) (ws : List Jvm.Cond) (a1 : Addr) (h0 : Heap) (n0 : Nat) (Z0 : n0 ≤ h0.size) (O0 : Old Z n0 h0) (F_a1_failures : Fld Z h0 a1 "com/example/log_lag_gauge/loglaggauge/model/PartLooks" "failures" "J" (.long (0 : Int64))) :
    MetFree l Y19 (head1 (Jvm.Cond.code Y19 prog_11_method_12_code 1 (some .long) :: ws) ({ frames := 0, cells := 0, slots := 0, locals := 0 } : Room)) (fun a U => a = #[(.ref a1)] ∧ Z.Warmed39 U.vm ∧ U.heap = h0) (fun _ _ _ _ _ => True) (fun _ U o U' => ∃ v L, o = .returned v ∧ Q_rm_failures1 Z a1 h0 n0 v U'.heap L ∧ FrameEnd U o U' L ({ frames := 0, cells := 0, slots := 0, locals := 0 } : Room).cells ({ frames := 0, cells := 0, slots := 0, locals := 0 } : Room).slots) := by
  refine MetFree.of_bodySF (plainFor_of_name pn_com_example_log_lag_gauge_loglaggauge_model_PartLooks) hisR ?_
  intro p e s m args below meth c s₁ Bd hml0 hP hK
  obtain ⟨rfl, hZ, hh⟩ := hP
  have hx := Bd.exec
  have hby := Bd.bytes
  have hml : c.maxLocals = 1 := hml0
  have hown : s.vm.findClass "com/example/log_lag_gauge/loglaggauge/model/PartLooks" = some m.cls := findClass_of_methodNamed Bd.named
  have hnm := (name_of_methodNamed Bd.named Bd.method).1
  have X0 : Stand p l e ({ frames := 0, cells := 0, slots := 0, locals := 0 } : Room) s m #[(.ref a1)] below meth c s₁ [] 0 0 := Stand.of_body Bd
  have e0 : s₁.heap = h0 := by rw [← hh, Bd.state]; rfl
  have N0 := Fr.nil n0
  refine Goes.out (l := l) (c := c) (R := ({ frames := 0, cells := 0, slots := 0, locals := 0 } : Room)) (Q := Q_rm_failures1 Z a1 h0 n0) Bd.notSynchronized ?_
  refine Goes.cast (g2 := mkF m 0 #[rv a1] []) (by first | (simp [entryFrame, mkF, argsToLocals, Value.category]; done) | rfl) ?_
  have K0 : Keep h0 h0 [] := Keep.refl h0 _
  have hws : ∀ x ∈ ([] : List Addr), n0 ≤ x := all0
  refine Goes.step (T2 := s₁) (g2 := (mkF m 1 #[rv a1] [(.ref a1)])) (fun _ hr => XS.aloadN X0.here hx rfl (hb hby d19_0) rfl rfl hr) ?_
  obtain ⟨T81, X81, e81, st81⟩ := getF X0 hx hZ hown (host := "") (Or.inl (tw hw 68 rfl)) Via.refl e0 F_a1_failures (g := (mkF m 1 #[rv a1] [(.ref a1)])) rfl rfl (hb hby d19_1)
  refine Goes.step (T2 := T81) (g2 := (mkF m 4 #[rv a1] [(.long (0 : Int64))])) st81 ?_
  exact Goes.ret (v := some (.long (0 : Int64))) X81 (by decide) (by decide) (fun h => by rw [Bd.returns] at h; cases h) ⟨rfl, N0, e81⟩ (fun fs hr => retOut X81 hx Bd.returns rfl (Or.inr (Or.inl ⟨rfl, rfl, _, rfl⟩)) (hb hby d19_4) hr)
theorem d20_0 : decode jdk_42_method_66_code 0 = .ok (.aload_n 0, 1) := by decide +kernel
theorem d20_1 : decode jdk_42_method_66_code 1 = .ok (.aload_n 1, 1) := by decide +kernel
theorem d20_2 : decode jdk_42_method_66_code 2 = .ok (.if_acmp .ne 5, 3) := by decide +kernel
theorem d20_5 : decode jdk_42_method_66_code 5 = .ok (.iconst 1, 1) := by decide +kernel
theorem d20_6 : decode jdk_42_method_66_code 6 = .ok (.ireturn, 1) := by decide +kernel
def Q_rm_eq (Z : State) (a1 : Addr) (h0 : Heap) (n0 : Nat) (v : Option Value) (h : Heap) (L : List Loc) : Prop := v = some (.int (1 : Int32)) ∧ Fr n0 L ∧ h = h0
set_option maxRecDepth 65536 in
set_option maxHeartbeats 40000000 in
theorem rm_eq (l : Launch) (Z : State) (a0 : Array Value) (hw : ∀ d ∈ tables_1, d.before a0 Z = true) (ws : List Jvm.Cond) (a1 : Addr) (h0 : Heap) (n0 : Nat) (Z0 : n0 ≤ h0.size) (O0 : Old Z n0 h0) :
    MetFree l Y20 (head1 (Jvm.Cond.code Y20 jdk_42_method_66_code 3 (some .boolean) :: ws) ({ frames := 0, cells := 0, slots := 0, locals := 0 } : Room)) (fun a U => a = #[(.ref a1), (.ref a1)] ∧ Z.Warmed39 U.vm ∧ U.heap = h0) (fun _ _ _ _ _ => True) (fun _ U o U' => ∃ v L, o = .returned v ∧ Q_rm_eq Z a1 h0 n0 v U'.heap L ∧ FrameEnd U o U' L ({ frames := 0, cells := 0, slots := 0, locals := 0 } : Room).cells ({ frames := 0, cells := 0, slots := 0, locals := 0 } : Room).slots) := by
  refine MetFree.of_bodySF (plainFor_of_name pn_java_lang_String) hisR ?_
  intro p e s m args below meth c s₁ Bd hml0 hP hK
  obtain ⟨rfl, hZ, hh⟩ := hP
  have hx := Bd.exec
  have hby := Bd.bytes
  have hml : c.maxLocals = 3 := hml0
  have hown : s.vm.findClass "java/lang/String" = some m.cls := findClass_of_methodNamed Bd.named
  have hnm := (name_of_methodNamed Bd.named Bd.method).1
  have X0 : Stand p l e ({ frames := 0, cells := 0, slots := 0, locals := 0 } : Room) s m #[(.ref a1), (.ref a1)] below meth c s₁ [] 0 0 := Stand.of_body Bd
  have e0 : s₁.heap = h0 := by rw [← hh, Bd.state]; rfl
  have N0 := Fr.nil n0
  refine Goes.out (l := l) (c := c) (R := ({ frames := 0, cells := 0, slots := 0, locals := 0 } : Room)) (Q := Q_rm_eq Z a1 h0 n0) Bd.notSynchronized ?_
  refine Goes.cast (g2 := mkF m 0 #[rv a1, rv a1, .unset] []) (by first | (simp [entryFrame, mkF, argsToLocals, Value.category]; done) | rfl) ?_
  have K0 : Keep h0 h0 [] := Keep.refl h0 _
  have hws : ∀ x ∈ ([] : List Addr), n0 ≤ x := all0
  refine Goes.step (T2 := s₁) (g2 := (mkF m 1 #[rv a1, rv a1, .unset] [(.ref a1)])) (fun _ hr => XS.aloadN X0.here hx rfl (hb hby d20_0) rfl rfl hr) ?_
  refine Goes.step (T2 := s₁) (g2 := (mkF m 2 #[rv a1, rv a1, .unset] [(.ref a1), (.ref a1)])) (fun _ hr => XS.aloadN X0.here hx rfl (hb hby d20_1) rfl rfl hr) ?_
  refine Goes.step (T2 := s₁) (g2 := (mkF m 5 #[rv a1, rv a1, .unset] [])) (fun _ hr => Jvm.RoadKit.acmp (g := (mkF m 2 #[rv a1, rv a1, .unset] [(.ref a1), (.ref a1)])) X0 hx rfl rfl rfl (pc0 := 2) (pc' := 5) (same := true) rfl (hb hby d20_2) rfl (decide_eq_true rfl) (by decide) (by decide) hr) ?_
  refine Goes.step (T2 := s₁) (g2 := (mkF m 6 #[rv a1, rv a1, .unset] [(.int (1 : Int32))])) (fun _ hr => XS.iconst X0.here hx rfl (hb hby d20_5) hr) ?_
  exact Goes.ret (v := some (.int (1 : Int32))) X0 (by decide) (by decide) (fun h => by rw [Bd.returns] at h; cases h) ⟨rfl, N0, e0⟩ (fun fs hr => retN X0 hx (t := .boolean) Bd.returns (by simp) (hb hby d20_6) hr)
theorem pn_com_example_log_lag_gauge_loglaggauge_model_PartLooksOnePinLaw : plainName "com/example/log_lag_gauge/loglaggauge/model/PartLooksOnePinLaw" = true := by first | (simp [plainName, overriddenIn]; done) | decide +kernel
def Q_rm_law (Z : State) (p1 : Int32) (q1 : Int64) (q2 : Int64) (p2 : Int32) (p3 : Int32) (cs : Int32) (em : Addr) (h0 : Heap) (n0 : Nat) (v : Option Value) (h : Heap) (L : List Loc) : Prop := v = some (.int (1 : Int32)) ∧ Fr n0 L
set_option maxRecDepth 65536 in
set_option maxHeartbeats 40000000 in
theorem rm_law (l : Launch) (Z : State) (a0 : Array Value) (hw : ∀ d ∈ tables_1, d.before a0 Z = true) (ws : List Jvm.Cond) (p1 : Int32) (q1 : Int64) (q2 : Int64) (p2 : Int32) (p3 : Int32) (cs : Int32) (em : Addr) (h0 : Heap) (n0 : Nat) (Z0 : n0 ≤ h0.size) (O0 : Old Z n0 h0) (S_String_COMPACT_STRINGS_old : Sta Z Z.heap "java/lang/String" "COMPACT_STRINGS" "Z" (.int cs)) (S_OptionalLong_EMPTY_old : Sta Z Z.heap "java/util/OptionalLong" "EMPTY" "Ljava/util/OptionalLong;" (.ref em)) (E_em_old : Exa Z Z.heap em "java/util/OptionalLong") (F_em_isPresent_old : Fld Z Z.heap em "java/util/OptionalLong" "isPresent" "Z" (.int (0 : Int32))) (F_em_value_old : Fld Z Z.heap em "java/util/OptionalLong" "value" "J" (.long (0 : Int64))) (hcs : ¬ (cs = (0 : Int32))) :
    MetFree l x (head1 (Jvm.Cond.code x code maxLocals ret :: ws) room_1) (fun a U => a = #[(.int p1), (.long q1), (.long q2), (.int p2), (.int p3)] ∧ Z.Warmed39 U.vm ∧ U.heap = h0) (fun _ _ _ _ _ => True) (fun _ U o U' => ∃ v L, o = .returned v ∧ Q_rm_law Z p1 q1 q2 p2 p3 cs em h0 n0 v U'.heap L ∧ ReturnedEndW U o U' L room_1.cells room_1.slots) := by
  refine MetFree.of_bodySF (plainFor_of_name pn_com_example_log_lag_gauge_loglaggauge_model_PartLooksOnePinLaw) hisR ?_
  intro p e s m args below meth c s₁ Bd hml0 hP hK
  obtain ⟨rfl, hZ, hh⟩ := hP
  have hx := Bd.exec
  have hby := Bd.bytes
  have hml : c.maxLocals = 14 := hml0
  have hown : s.vm.findClass "com/example/log_lag_gauge/loglaggauge/model/PartLooksOnePinLaw" = some m.cls := findClass_of_methodNamed Bd.named
  have hnm := (name_of_methodNamed Bd.named Bd.method).1
  have X0 : Stand p l e room_1 (s.setVm s.vm) m #[(.int p1), (.long q1), (.long q2), (.int p2), (.int p3)] below meth c s₁ [] 0 0 := Stand.of_body Bd
  have e0 : s₁.heap = h0 := by rw [← hh, Bd.state]; rfl
  have N0 := Fr.nil n0
  refine GoesW.out (l := l) (c := c) (R := room_1) (Q := Q_rm_law Z p1 q1 q2 p2 p3 cs em h0 n0) Bd.notSynchronized ?_
  refine GoesW.cast (g2 := mkF m 0 #[iv p1, .val (.long q1), .second, .val (.long q2), .second, iv p2, iv p3, .unset, .unset, .unset, .unset, .unset, .unset, .unset] []) (by first | (simp [entryFrame, mkF, argsToLocals, Value.category, maxLocals]; done) | rfl) ?_
  have K0 : Keep h0 h0 [] := Keep.refl h0 _
  have hws : ∀ x ∈ ([] : List Addr), n0 ≤ x := all0
  have Sn0 : s.Since s.vm 0 := (State.WarmedH.refl s).since 0
  have kle0 : 0 ≤ h0.size := Nat.zero_le _
  have wSA := own_wsa hw
  refine GoesW.step (T2 := s₁) (g2 := (mkF m 1 #[iv p1, .val (.long q1), .second, .val (.long q2), .second, iv p2, iv p3, .unset, .unset, .unset, .unset, .unset, .unset, .unset] [(.int p1)])) (fun _ hr => XS.iloadN X0.here hx rfl (hb hby at_0) rfl  hr) ?_
  refine GoesW.step (T2 := s₁) (g2 := (mkF m 2 #[iv p1, .val (.long q1), .second, .val (.long q2), .second, iv p2, iv p3, .unset, .unset, .unset, .unset, .unset, .unset, .unset] [(.int (1 : Int32)), (.int p1)])) (fun _ hr => XS.iconst X0.here hx rfl (hb hby at_1) hr) ?_
  refine GoesW.step (T2 := s₁) (g2 := (mkF m 3 #[iv p1, .val (.long q1), .second, .val (.long q2), .second, iv p2, iv p3, .unset, .unset, .unset, .unset, .unset, .unset, .unset] [(.int (p1 &&& (1 : Int32)))])) (fun _ hr => XS.iand X0.here hx rfl (hb hby at_2) rfl hr) ?_
  by_cases hc3_82 : (p1 &&& (1 : Int32)) = (0 : Int32)
  · refine GoesW.step (T2 := s₁) (g2 := (mkF m 10 #[iv p1, .val (.long q1), .second, .val (.long q2), .second, iv p2, iv p3, .unset, .unset, .unset, .unset, .unset, .unset, .unset] [])) (fun _ hr => XS.ifYes X0.here hx rfl (pc0 := 3) (pc' := 10) rfl (hb hby at_3) rfl ((if0 _ _).trans (teq hc3_82).1) (by decide) (by decide) hr) ?_
    refine GoesW.step (T2 := s₁) (g2 := (mkF m 11 #[iv p1, .val (.long q1), .second, .val (.long q2), .second, iv p2, iv p3, .unset, .unset, .unset, .unset, .unset, .unset, .unset] [(.int (0 : Int32))])) (fun _ hr => XS.iconst X0.here hx rfl (hb hby at_10) hr) ?_
    refine GoesW.step (T2 := s₁) (g2 := (mkF m 13 #[iv p1, .val (.long q1), .second, .val (.long q2), .second, iv p2, iv p3, iv 0, .unset, .unset, .unset, .unset, .unset, .unset] [])) (fun _ hr => XS.istore X0.here hx rfl (hb hby at_11) rfl (l' := #[iv p1, .val (.long q1), .second, .val (.long q2), .second, iv p2, iv p3, iv 0, .unset, .unset, .unset, .unset, .unset, .unset]) rfl hr) ?_
    refine GoesW.step (T2 := s₁) (g2 := (mkF m 14 #[iv p1, .val (.long q1), .second, .val (.long q2), .second, iv p2, iv p3, iv 0, .unset, .unset, .unset, .unset, .unset, .unset] [(.int (2 : Int32))])) (fun _ hr => XS.iconst X0.here hx rfl (hb hby at_13) hr) ?_
    obtain ⟨T83, h83, k83, X83, e83, E83, A83, Ax83, st83⟩ := newPE X0 hx hZ (tw hw 0 rfl) e0 (g := (mkF m 14 #[iv p1, .val (.long q1), .second, .val (.long q2), .second, iv p2, iv p3, iv 0, .unset, .unset, .unset, .unset, .unset, .unset] [(.int (2 : Int32))])) rfl (hb hby at_14) rfl (by decide) (cap := 2) (by decide) (by decide) (by decide) (by decide) (ad := "[C") (by decide)
    obtain ⟨b83, g83⟩ : ∃ z, z = h0.size := ⟨_, rfl⟩
    rw [← g83] at A83 Ax83 st83
    have sz_b83 : h0.size ≤ b83 := Nat.le_trans K0.1 (Nat.le_of_eq g83.symm)
    have ge_b83 : n0 ≤ b83 := Nat.le_trans Z0 sz_b83
    have K83 : Keep h0 h83 [] := K0.ext E83
    have kle83 : 0 ≤ h83.size := Nat.le_trans kle0 E83.1
    have V_b83_83 : Arv Z h83 b83 k83 .char (2 : Int32) [] (.int (0 : Int32)) := Arv.new A83 (by decide)
    refine GoesW.step (T2 := T83) (g2 := (mkF m 16 #[iv p1, .val (.long q1), .second, .val (.long q2), .second, iv p2, iv p3, iv 0, .unset, .unset, .unset, .unset, .unset, .unset] [(.ref b83)])) st83 ?_
    have V_b83_p84 : Arv Z h83 b83 k83 .char (2 : Int32) [(.int (0 : Int32)), (.int (0 : Int32))] (.int (0 : Int32)) := V_b83_83.pad (pad_rep [] (.int (0 : Int32)) 2)
    refine GoesW.step (T2 := T83) (g2 := (mkF m 18 #[iv p1, .val (.long q1), .second, .val (.long q2), .second, iv p2, iv p3, iv 0, rv b83, .unset, .unset, .unset, .unset, .unset] [])) (fun _ hr => XS.astore X83.here hx rfl (hb hby at_16) rfl rfl (l' := #[iv p1, .val (.long q1), .second, .val (.long q2), .second, iv p2, iv p3, iv 0, rv b83, .unset, .unset, .unset, .unset, .unset]) rfl hr) ?_
    refine GoesW.step (T2 := T83) (g2 := (mkF m 20 #[iv p1, .val (.long q1), .second, .val (.long q2), .second, iv p2, iv p3, iv 0, rv b83, .unset, .unset, .unset, .unset, .unset] [(.ref b83)])) (fun _ hr => XS.aload X83.here hx rfl (hb hby at_18) rfl rfl hr) ?_
    refine GoesW.step (T2 := T83) (g2 := (mkF m 21 #[iv p1, .val (.long q1), .second, .val (.long q2), .second, iv p2, iv p3, iv 0, rv b83, .unset, .unset, .unset, .unset, .unset] [(.int (0 : Int32)), (.ref b83)])) (fun _ hr => XS.iconst X83.here hx rfl (hb hby at_20) hr) ?_
    refine GoesW.step (T2 := T83) (g2 := (mkF m 23 #[iv p1, .val (.long q1), .second, .val (.long q2), .second, iv p2, iv p3, iv 0, rv b83, .unset, .unset, .unset, .unset, .unset] [(.int p2), (.int (0 : Int32)), (.ref b83)])) (fun _ hr => XS.iload X83.here hx rfl (hb hby at_21) rfl  hr) ?_
    refine GoesW.step (T2 := T83) (g2 := (mkF m 26 #[iv p1, .val (.long q1), .second, .val (.long q2), .second, iv p2, iv p3, iv 0, rv b83, .unset, .unset, .unset, .unset, .unset] [(.int (255 : Int32)), (.int p2), (.int (0 : Int32)), (.ref b83)])) (fun _ hr => XS.sipush X83.here hx rfl (hb hby at_23) hr) ?_
    refine GoesW.step (T2 := T83) (g2 := (mkF m 27 #[iv p1, .val (.long q1), .second, .val (.long q2), .second, iv p2, iv p3, iv 0, rv b83, .unset, .unset, .unset, .unset, .unset] [(.int (p2 &&& (255 : Int32))), (.int (0 : Int32)), (.ref b83)])) (fun _ hr => XS.iand X83.here hx rfl (hb hby at_26) rfl hr) ?_
    refine GoesW.step (T2 := T83) (g2 := (mkF m 28 #[iv p1, .val (.long q1), .second, .val (.long q2), .second, iv p2, iv p3, iv 0, rv b83, .unset, .unset, .unset, .unset, .unset] [(.int ((p2 &&& (255 : Int32)).toUInt32.toUInt16.toUInt32.toInt32)), (.int (0 : Int32)), (.ref b83)])) (fun _ hr => Jvm.Free.XT.i2c X83.here hx rfl (hb hby at_27) rfl hr) ?_
    rw [i2c_mask p2]
    obtain ⟨cl85, Ar85, q85, S85, Nn85, H85, G85⟩ := id V_b83_p84
    have hin85 : ¬ ((0 : Int32) < 0 ∨ cl85.slots.size ≤ ((0 : Int32)).toNatClampNeg) := inb_of S85 ⟨by decide, by decide⟩
    obtain ⟨T85, h85, X85, e85, W85, st85⟩ := stC X83 hx hZ e83 Ar85 (j := (0 : Int32)) hin85 (g := (mkF m 28 #[iv p1, .val (.long q1), .second, .val (.long q2), .second, iv p2, iv p3, iv 0, rv b83, .unset, .unset, .unset, .unset, .unset] [(.int (p2 &&& (255 : Int32))), (.int (0 : Int32)), (.ref b83)])) rfl rfl (hb hby at_28)
    have W85' := W85
    rw [show (nar .char (p2 &&& (255 : Int32))) = (p2 &&& (255 : Int32)) from own_chr2 p2] at W85'
    have E_b83_85 : Exa Z h85 b83 "[C" := Ax83.wr W85
    have K85 : Keep h0 h85 [] := K83.wr W85 (Or.inr sz_b83)
    have kle85 : 0 ≤ h85.size := Nat.le_trans kle83 (Nat.le_of_eq W85.size.symm)
    have N85 := Fr.snoc X85 N0 ge_b83
    have V_b83_85 : Arv Z h85 b83 k83 .char (2 : Int32) [(.int (p2 &&& (255 : Int32))), (.int (0 : Int32))] (.int (0 : Int32)) := Arv.set Ar85 q85 S85 Nn85 H85 G85 (by have := (show fits .char (.int (nar .char (p2 &&& (255 : Int32)))) = true from (fits_nar_char _)); rwa [show (nar .char (p2 &&& (255 : Int32))) = (p2 &&& (255 : Int32)) from own_chr2 p2] at this) W85' 0 rfl (Nat.le_of_ble_eq_true rfl)
    refine GoesW.step (T2 := T85) (g2 := (mkF m 29 #[iv p1, .val (.long q1), .second, .val (.long q2), .second, iv p2, iv p3, iv 0, rv b83, .unset, .unset, .unset, .unset, .unset] [])) st85 ?_
    refine GoesW.step (T2 := T85) (g2 := (mkF m 31 #[iv p1, .val (.long q1), .second, .val (.long q2), .second, iv p2, iv p3, iv 0, rv b83, .unset, .unset, .unset, .unset, .unset] [(.ref b83)])) (fun _ hr => XS.aload X85.here hx rfl (hb hby at_29) rfl rfl hr) ?_
    refine GoesW.step (T2 := T85) (g2 := (mkF m 32 #[iv p1, .val (.long q1), .second, .val (.long q2), .second, iv p2, iv p3, iv 0, rv b83, .unset, .unset, .unset, .unset, .unset] [(.int (1 : Int32)), (.ref b83)])) (fun _ hr => XS.iconst X85.here hx rfl (hb hby at_31) hr) ?_
    refine GoesW.step (T2 := T85) (g2 := (mkF m 34 #[iv p1, .val (.long q1), .second, .val (.long q2), .second, iv p2, iv p3, iv 0, rv b83, .unset, .unset, .unset, .unset, .unset] [(.int p3), (.int (1 : Int32)), (.ref b83)])) (fun _ hr => XS.iload X85.here hx rfl (hb hby at_32) rfl  hr) ?_
    refine GoesW.step (T2 := T85) (g2 := (mkF m 37 #[iv p1, .val (.long q1), .second, .val (.long q2), .second, iv p2, iv p3, iv 0, rv b83, .unset, .unset, .unset, .unset, .unset] [(.int (255 : Int32)), (.int p3), (.int (1 : Int32)), (.ref b83)])) (fun _ hr => XS.sipush X85.here hx rfl (hb hby at_34) hr) ?_
    refine GoesW.step (T2 := T85) (g2 := (mkF m 38 #[iv p1, .val (.long q1), .second, .val (.long q2), .second, iv p2, iv p3, iv 0, rv b83, .unset, .unset, .unset, .unset, .unset] [(.int (p3 &&& (255 : Int32))), (.int (1 : Int32)), (.ref b83)])) (fun _ hr => XS.iand X85.here hx rfl (hb hby at_37) rfl hr) ?_
    refine GoesW.step (T2 := T85) (g2 := (mkF m 39 #[iv p1, .val (.long q1), .second, .val (.long q2), .second, iv p2, iv p3, iv 0, rv b83, .unset, .unset, .unset, .unset, .unset] [(.int ((p3 &&& (255 : Int32)).toUInt32.toUInt16.toUInt32.toInt32)), (.int (1 : Int32)), (.ref b83)])) (fun _ hr => Jvm.Free.XT.i2c X85.here hx rfl (hb hby at_38) rfl hr) ?_
    rw [i2c_mask p3]
    obtain ⟨cl86, Ar86, q86, S86, Nn86, H86, G86⟩ := id V_b83_85
    have hin86 : ¬ ((1 : Int32) < 0 ∨ cl86.slots.size ≤ ((1 : Int32)).toNatClampNeg) := inb_of S86 ⟨by decide, by decide⟩
    obtain ⟨T86, h86, X86, e86, W86, st86⟩ := stC X85 hx hZ e85 Ar86 (j := (1 : Int32)) hin86 (g := (mkF m 39 #[iv p1, .val (.long q1), .second, .val (.long q2), .second, iv p2, iv p3, iv 0, rv b83, .unset, .unset, .unset, .unset, .unset] [(.int (p3 &&& (255 : Int32))), (.int (1 : Int32)), (.ref b83)])) rfl rfl (hb hby at_39)
    have W86' := W86
    rw [show (nar .char (p3 &&& (255 : Int32))) = (p3 &&& (255 : Int32)) from own_chr2 p3] at W86'
    have E_b83_86 : Exa Z h86 b83 "[C" := E_b83_85.wr W86
    have K86 : Keep h0 h86 [] := K85.wr W86 (Or.inr sz_b83)
    have kle86 : 0 ≤ h86.size := Nat.le_trans kle85 (Nat.le_of_eq W86.size.symm)
    have N86 := Fr.snoc X86 N85 ge_b83
    have V_b83_86 : Arv Z h86 b83 k83 .char (2 : Int32) [(.int (p2 &&& (255 : Int32))), (.int (p3 &&& (255 : Int32)))] (.int (0 : Int32)) := Arv.set Ar86 q86 S86 Nn86 H86 G86 (by have := (show fits .char (.int (nar .char (p3 &&& (255 : Int32)))) = true from (fits_nar_char _)); rwa [show (nar .char (p3 &&& (255 : Int32))) = (p3 &&& (255 : Int32)) from own_chr2 p3] at this) W86' 1 rfl (Nat.le_of_ble_eq_true rfl)
    refine GoesW.step (T2 := T86) (g2 := (mkF m 40 #[iv p1, .val (.long q1), .second, .val (.long q2), .second, iv p2, iv p3, iv 0, rv b83, .unset, .unset, .unset, .unset, .unset] [])) st86 ?_
    obtain ⟨T87, h87, X87, e87, E87, A87, D87, -, st87⟩ := newO X86 hx hZ hown (tw hw 1 rfl) (tw hw 2 rfl) (tw hw 3 rfl) e86 (g := (mkF m 40 #[iv p1, .val (.long q1), .second, .val (.long q2), .second, iv p2, iv p3, iv 0, rv b83, .unset, .unset, .unset, .unset, .unset] [])) rfl (hb hby at_40) (by decide) (by decide)
    obtain ⟨b87, g87⟩ : ∃ z, z = h86.size := ⟨_, rfl⟩
    rw [← g87] at A87 D87 st87
    have sz_b87 : h0.size ≤ b87 := Nat.le_trans K86.1 (Nat.le_of_eq g87.symm)
    have ge_b87 : n0 ≤ b87 := Nat.le_trans Z0 sz_b87
    have E_b83_87 : Exa Z h87 b83 "[C" := E_b83_86.ext E87
    have V_b83_87 : Arv Z h87 b83 k83 .char (2 : Int32) [(.int (p2 &&& (255 : Int32))), (.int (p3 &&& (255 : Int32)))] (.int (0 : Int32)) := V_b83_86.ext E87
    have K87 : Keep h0 h87 [] := K86.ext E87
    have kle87 : 0 ≤ h87.size := Nat.le_trans kle86 E87.1
    have F_b87_coder_87 : Fld Z h87 b87 "java/lang/String" "coder" "B" (.int (0 : Int32)) := D87 (Or.inr (tw hw 27 rfl)) (ty := .byte) (by decide)
    have F_b87_value_87 : Fld Z h87 b87 "java/lang/String" "value" "[B" .null := D87 (Or.inr (tw hw 29 rfl)) (ty := (.array .byte)) (by decide)
    refine GoesW.step (T2 := T87) (g2 := (mkF m 43 #[iv p1, .val (.long q1), .second, .val (.long q2), .second, iv p2, iv p3, iv 0, rv b83, .unset, .unset, .unset, .unset, .unset] [(.ref b87)])) st87 ?_
    refine GoesW.step (T2 := T87) (g2 := (mkF m 44 #[iv p1, .val (.long q1), .second, .val (.long q2), .second, iv p2, iv p3, iv 0, rv b83, .unset, .unset, .unset, .unset, .unset] [(.ref b87), (.ref b87)])) (fun _ hr => XS.dup X87.here hx rfl (hb hby at_43) rfl rfl hr) ?_
    refine GoesW.step (T2 := T87) (g2 := (mkF m 46 #[iv p1, .val (.long q1), .second, .val (.long q2), .second, iv p2, iv p3, iv 0, rv b83, .unset, .unset, .unset, .unset, .unset] [(.ref b83), (.ref b87), (.ref b87)])) (fun _ hr => XS.aload X87.here hx rfl (hb hby at_44) rfl rfl hr) ?_
    have Zs88 : n0 ≤ h87.size := Nat.le_trans Z0 K87.1
    obtain ⟨_, _, ⟨T89, L89, k89, n89⟩, -, X89, ⟨Lc89, hQ89, l89, y89, z89⟩, st89⟩ := X87.specialBack hx (y := Y4) rfl hown (mvT hZ (tw hw 4 rfl)) (mvT hZ (tw hw 5 rfl)) (mvT hZ (tw hw 6 rfl)) (by decide) (backOf (W := 1) (rm_str1_2 l Z a0 hw [] b87 b83 k83 cs (p2 &&& (255 : Int32)) (p3 &&& (255 : Int32)) h87 n0 Zs88 (Old.keep O0 K87 hws) A87 F_b87_coder_87 F_b87_value_87 V_b83_87 S_String_COMPACT_STRINGS_old ge_b87 (Ne.symm (Nat.ne_of_lt (Nat.lt_of_lt_of_le E_b83_86.lt (Nat.le_of_eq g87.symm)))) hcs (own_low p2) (own_low p3)) hZ (tw hw 6 rfl) (tw hw 3 rfl) (by decide) (by decide)) (g := (mkF m 46 #[iv p1, .val (.long q1), .second, .val (.long q2), .second, iv p2, iv p3, iv 0, rv b83, .unset, .unset, .unset, .unset, .unset] [(.ref b83), (.ref b87), (.ref b87)])) rfl (by rw [hml]; rfl) (Steps.refl _) (a := b87) (argsL := [(.ref b83)]) (rest := [(.ref b87)]) (lenOf pd_10 rfl) rfl (by show 2 * 0 + _ ≤ _; exact Nat.le_of_eq rfl) (hb hby at_46) (fun _ _ => ⟨rfl, e87, (by decide : 2 + 1 ≤ _), (by decide : 6 + 2 ≤ _)⟩)
    dsimp only [Pt.U, Pt.locs, Pt.cells, Pt.slots] at X89 l89 y89 z89 st89 hQ89
    subst l89 y89 z89
    obtain ⟨rfl, N89q, Kc89⟩ := hQ89
    have N89 := Fr.app N86 N89q
    have E_b83_89 : Exa Z T89.heap b83 "[C" := E_b83_87.keep Kc89
    have V_b83_89 : Arv Z T89.heap b83 k83 .char (2 : Int32) [(.int (p2 &&& (255 : Int32))), (.int (p3 &&& (255 : Int32)))] (.int (0 : Int32)) := V_b83_87.keep Kc89 (ninS (Nat.ne_of_lt (Nat.lt_of_lt_of_le E_b83_86.lt (Nat.le_of_eq g87.symm))) nin0)
    have E_b87_89 : Exa Z T89.heap b87 "java/lang/String" := A87.keep Kc89
    have K89 : Keep h0 T89.heap [] := K87.trans Kc89 (allS (Or.inr sz_b87) all0)
    have kle89 : 0 ≤ T89.heap.size := Nat.le_trans kle87 Kc89.1
    refine GoesW.step (T2 := T89) (g2 := (mkF m 49 #[iv p1, .val (.long q1), .second, .val (.long q2), .second, iv p2, iv p3, iv 0, rv b83, .unset, .unset, .unset, .unset, .unset] [(.ref b87)])) (fun _ hr => st89.trans hr) ?_
    refine GoesW.step (T2 := T89) (g2 := (mkF m 51 #[iv p1, .val (.long q1), .second, .val (.long q2), .second, iv p2, iv p3, iv 0, rv b83, rv b87, .unset, .unset, .unset, .unset] [])) (fun _ hr => XS.astore X89.here hx rfl (hb hby at_49) rfl rfl (l' := #[iv p1, .val (.long q1), .second, .val (.long q2), .second, iv p2, iv p3, iv 0, rv b83, rv b87, .unset, .unset, .unset, .unset]) rfl hr) ?_
    refine GoesW.step (T2 := T89) (g2 := (mkF m 53 #[iv p1, .val (.long q1), .second, .val (.long q2), .second, iv p2, iv p3, iv 0, rv b83, rv b87, .unset, .unset, .unset, .unset] [(.ref b87)])) (fun _ hr => XS.aload X89.here hx rfl (hb hby at_51) rfl rfl hr) ?_
    refine GoesW.step (T2 := T89) (g2 := (mkF m 55 #[iv p1, .val (.long q1), .second, .val (.long q2), .second, iv p2, iv p3, iv 0, rv b83, rv b87, .unset, .unset, .unset, .unset] [(.int (0 : Int32)), (.ref b87)])) (fun _ hr => XS.iload X89.here hx rfl (hb hby at_53) rfl  hr) ?_
    refine GoesW.step (T2 := T89) (g2 := (mkF m 56 #[iv p1, .val (.long q1), .second, .val (.long q2), .second, iv p2, iv p3, iv 0, rv b83, rv b87, .unset, .unset, .unset, .unset] [(.long q1), (.int (0 : Int32)), (.ref b87)])) (fun _ hr => Jvm.Free.XT.lloadN X89.here hx rfl (hb hby at_55) rfl hr) ?_
    refine GoesW.step (T2 := T89) (g2 := (mkF m 57 #[iv p1, .val (.long q1), .second, .val (.long q2), .second, iv p2, iv p3, iv 0, rv b83, rv b87, .unset, .unset, .unset, .unset] [(.long q2), (.long q1), (.int (0 : Int32)), (.ref b87)])) (fun _ hr => Jvm.Free.XT.lloadN X89.here hx rfl (hb hby at_56) rfl hr) ?_
    have Zs90 : n0 ≤ T89.heap.size := Nat.le_trans Z0 K89.1
    obtain ⟨_, _, ⟨T91, L91, k91, n91⟩, -, X91, Sc91, gr91, ⟨Lc91, hQ91, l91, y91, z91⟩, st91⟩ := callSS X89 hx (y := Y13) hown (mvT hZ (tw hw 30 rfl)) (mvT hZ (tw hw 31 rfl)) (mvT hZ (tw hw 32 rfl)) (mvT hZ (tw hw 33 rfl)) (by decide) (backOfS (W := 0) (rm_one0 l Z a0 hw [] b87 q1 q2 em T89.heap n0 Zs90 (Old.keep O0 K89 hws) S_OptionalLong_EMPTY_old E_em_old F_em_isPresent_old F_em_value_old) hZ (tw hw 33 rfl) (tw hw 32 rfl) (by decide) (by decide)) (g := (mkF m 57 #[iv p1, .val (.long q1), .second, .val (.long q2), .second, iv p2, iv p3, iv 0, rv b83, rv b87, .unset, .unset, .unset, .unset] [(.long q2), (.long q1), (.int (0 : Int32)), (.ref b87)])) rfl (by rw [hml]; rfl) (argsL := [(.ref b87), (.int (0 : Int32)), (.long q1), (.long q2)]) (rest := []) (lenOf pd_11 rfl) rfl (by show 2 * 0 + _ ≤ _; exact Nat.le_of_eq rfl) (hb hby at_57) (fun _ _ => ⟨rfl, rfl, (by decide : 3 + 5 ≤ _), (by decide : 8 + 82 ≤ _)⟩)
    dsimp only [Pt.U, Pt.locs, Pt.cells, Pt.slots] at X91 l91 y91 z91 st91 hQ91 Sc91 gr91
    subst l91 y91 z91
    have Sn91 := Sn0.trans Sc91 (Nat.le_trans (show 0 ≤ T89.heap.size by rw [(rfl : T89.heap = T89.heap)]; exact kle89) gr91)
    have hZ91 : Z.Warmed39 (s.setVm T91.vm).vm := State.Warmed39.trans (t := s.setVm s.vm) hZ Sc91.1
    have hown91 : (s.setVm T91.vm).vm.findClass "com/example/log_lag_gauge/loglaggauge/model/PartLooksOnePinLaw" = some m.cls := by rw [show (s.setVm T91.vm).vm = T91.vm from rfl, Sc91.1.alike.findClass]; exact hown
    have kle91 : T91.heap.size ≤ T91.heap.size := Nat.le_refl _
    obtain ⟨w91, rfl, N91q, Kc91, P91_0, P91_1, P91_2, P91_3, P91_4, P91_5, P91_6, P91_7⟩ := hQ91
    have N91 := Fr.app N89 N91q
    have E_b83_91 : Exa Z T91.heap b83 "[C" := E_b83_89.keep Kc91
    have E_b87_91 : Exa Z T91.heap b87 "java/lang/String" := E_b87_89.keep Kc91
    have K91 : Keep h0 T91.heap [] := K89.trans Kc91 all0
    have sz_w91 : h0.size ≤ w91 := Nat.le_trans K89.1 P91_0
    have ge_w91 : n0 ≤ w91 := Nat.le_trans Z0 sz_w91
    have E_w91_91c : Exa Z T91.heap w91 "com/example/log_lag_gauge/loglaggauge/model/PartLooks" := P91_1
    have F_w91_part_91c : Fld Z T91.heap w91 "com/example/log_lag_gauge/loglaggauge/model/PartLooks" "part" "Ljava/lang/String;" (.ref b87) := P91_2
    have F_w91_succeeded_91c : Fld Z T91.heap w91 "com/example/log_lag_gauge/loglaggauge/model/PartLooks" "succeeded" "Z" (.int (0 : Int32)) := P91_3
    have F_w91_durationMs_91c : Fld Z T91.heap w91 "com/example/log_lag_gauge/loglaggauge/model/PartLooks" "durationMs" "J" (.long q1) := P91_4
    have F_w91_lastSuccessMs_91c : Fld Z T91.heap w91 "com/example/log_lag_gauge/loglaggauge/model/PartLooks" "lastSuccessMs" "Ljava/util/OptionalLong;" (.ref em) := P91_5
    have F_w91_looks_91c : Fld Z T91.heap w91 "com/example/log_lag_gauge/loglaggauge/model/PartLooks" "looks" "J" (.long (1 : Int64)) := P91_6
    have F_w91_failures_91c : Fld Z T91.heap w91 "com/example/log_lag_gauge/loglaggauge/model/PartLooks" "failures" "J" (.long (1 : Int64)) := P91_7
    refine GoesW.step (T2 := T91) (g2 := (mkF m 60 #[iv p1, .val (.long q1), .second, .val (.long q2), .second, iv p2, iv p3, iv 0, rv b83, rv b87, .unset, .unset, .unset, .unset] [(.ref w91)])) (fun _ hr => st91.trans hr) ?_
    refine GoesW.step (T2 := T91) (g2 := (mkF m 62 #[iv p1, .val (.long q1), .second, .val (.long q2), .second, iv p2, iv p3, iv 0, rv b83, rv b87, rv w91, .unset, .unset, .unset] [])) (fun _ hr => XS.astore X91.here hx rfl (hb hby at_60) rfl rfl (l' := #[iv p1, .val (.long q1), .second, .val (.long q2), .second, iv p2, iv p3, iv 0, rv b83, rv b87, rv w91, .unset, .unset, .unset]) rfl hr) ?_
    refine GoesW.step (T2 := T91) (g2 := (mkF m 64 #[iv p1, .val (.long q1), .second, .val (.long q2), .second, iv p2, iv p3, iv 0, rv b83, rv b87, rv w91, .unset, .unset, .unset] [(.ref w91)])) (fun _ hr => XS.aload X91.here hx rfl (hb hby at_62) rfl rfl hr) ?_
    have Zs92 : n0 ≤ T91.heap.size := Nat.le_trans Z0 K91.1
    obtain ⟨cq93, kq93, q93a, q93b, q93c⟩ := isOf hZ91 rfl E_w91_91c
    obtain ⟨_, _, ⟨T93, L93, k93, n93⟩, -, X93, ⟨Lc93, hQ93, l93, y93, z93⟩, st93⟩ := X91.virtualBack hx (y := Y14) (z := Y14) hown91 (mvT hZ91 (tw hw 70 rfl)) (mvT hZ91 (tw hw 71 rfl)) (notFace_of_selects (args := #[]) (mvT hZ91 (tw hw 73 rfl))) (mvT hZ91 (tw hw 73 rfl)) (mvT hZ91 (tw hw 72 rfl)) (by decide) (backOf (W := 0) (rm_part0 l Z a0 hw [] w91 b87 T91.heap n0 Zs92 (Old.keep O0 K91 hws) F_w91_part_91c) hZ91 (tw hw 74 rfl) (tw hw 32 rfl) (by decide) (by decide)) q93a q93c (g := (mkF m 64 #[iv p1, .val (.long q1), .second, .val (.long q2), .second, iv p2, iv p3, iv 0, rv b83, rv b87, rv w91, .unset, .unset, .unset] [(.ref w91)])) rfl (by rw [hml]; rfl) (Steps.refl _) (argsL := []) (rest := []) (lenOf pd_12 rfl) rfl (by show 2 * 0 + _ ≤ _; exact Nat.le_of_eq rfl) (hb hby at_64) (fun _ _ => ⟨rfl, rfl, (by decide : 8 + 0 ≤ _), (by decide : 90 + 0 ≤ _)⟩)
    dsimp only [Pt.U, Pt.locs, Pt.cells, Pt.slots] at X93 l93 y93 z93 st93 hQ93
    subst l93 y93 z93
    obtain ⟨rfl, N93q, e93⟩ := hQ93
    have N93 := Fr.app N91 N93q
    refine GoesW.step (T2 := T93) (g2 := (mkF m 67 #[iv p1, .val (.long q1), .second, .val (.long q2), .second, iv p2, iv p3, iv 0, rv b83, rv b87, rv w91, .unset, .unset, .unset] [(.ref b87)])) (fun _ hr => st93.trans hr) ?_
    refine GoesW.step (T2 := T93) (g2 := (mkF m 69 #[iv p1, .val (.long q1), .second, .val (.long q2), .second, iv p2, iv p3, iv 0, rv b83, rv b87, rv w91, .unset, .unset, .unset] [(.ref b87), (.ref b87)])) (fun _ hr => XS.aload X93.here hx rfl (hb hby at_67) rfl rfl hr) ?_
    have Zs94 : n0 ≤ T91.heap.size := Nat.le_trans Z0 K91.1
    obtain ⟨cq95, kq95, q95a, q95b, q95c⟩ := isOf hZ91 e93 E_b87_91
    obtain ⟨_, _, ⟨T95, L95, k95, n95⟩, -, X95, ⟨Lc95, hQ95, l95, y95, z95⟩, st95⟩ := X93.virtualBack hx (y := Y20) (z := Y20) hown91 (mvT hZ91 (tw hw 75 rfl)) (mvT hZ91 (tw hw 76 rfl)) (notFace_of_selects (args := #[]) (mvT hZ91 (tw hw 78 rfl))) (mvT hZ91 (tw hw 78 rfl)) (mvT hZ91 (tw hw 77 rfl)) (by decide) (backOf (W := 0) (rm_eq l Z a0 hw [] b87 T91.heap n0 Zs94 (Old.keep O0 K91 hws)) hZ91 (tw hw 79 rfl) (tw hw 3 rfl) (by decide) (by decide)) q95a q95c (g := (mkF m 69 #[iv p1, .val (.long q1), .second, .val (.long q2), .second, iv p2, iv p3, iv 0, rv b83, rv b87, rv w91, .unset, .unset, .unset] [(.ref b87), (.ref b87)])) rfl (by rw [hml]; rfl) (Steps.refl _) (argsL := [(.ref b87)]) (rest := []) (lenOf pd_13 rfl) rfl (by show 2 * 0 + _ ≤ _; exact Nat.le_of_eq rfl) (hb hby at_69) (fun _ _ => ⟨rfl, e93, (by decide : 8 + 0 ≤ _), (by decide : 90 + 0 ≤ _)⟩)
    dsimp only [Pt.U, Pt.locs, Pt.cells, Pt.slots] at X95 l95 y95 z95 st95 hQ95
    subst l95 y95 z95
    obtain ⟨rfl, N95q, e95⟩ := hQ95
    have N95 := Fr.app N93 N95q
    refine GoesW.step (T2 := T95) (g2 := (mkF m 72 #[iv p1, .val (.long q1), .second, .val (.long q2), .second, iv p2, iv p3, iv 0, rv b83, rv b87, rv w91, .unset, .unset, .unset] [(.int (1 : Int32))])) (fun _ hr => st95.trans hr) ?_
    refine GoesW.step (T2 := T95) (g2 := (mkF m 77 #[iv p1, .val (.long q1), .second, .val (.long q2), .second, iv p2, iv p3, iv 0, rv b83, rv b87, rv w91, .unset, .unset, .unset] [])) (fun _ hr => XS.ifYes X95.here hx rfl (pc0 := 72) (pc' := 77) rfl (hb hby at_72) rfl ((if0 _ _).trans (feq (by decide : ¬ ((1 : Int32) = (0 : Int32)))).2) (by decide) (by decide) hr) ?_
    refine GoesW.step (T2 := T95) (g2 := (mkF m 79 #[iv p1, .val (.long q1), .second, .val (.long q2), .second, iv p2, iv p3, iv 0, rv b83, rv b87, rv w91, .unset, .unset, .unset] [(.ref w91)])) (fun _ hr => XS.aload X95.here hx rfl (hb hby at_77) rfl rfl hr) ?_
    have Zs96 : n0 ≤ T91.heap.size := Nat.le_trans Z0 K91.1
    obtain ⟨cq97, kq97, q97a, q97b, q97c⟩ := isOf hZ91 e95 E_w91_91c
    obtain ⟨_, _, ⟨T97, L97, k97, n97⟩, -, X97, ⟨Lc97, hQ97, l97, y97, z97⟩, st97⟩ := X95.virtualBack hx (y := Y15) (z := Y15) hown91 (mvT hZ91 (tw hw 80 rfl)) (mvT hZ91 (tw hw 81 rfl)) (notFace_of_selects (args := #[]) (mvT hZ91 (tw hw 83 rfl))) (mvT hZ91 (tw hw 83 rfl)) (mvT hZ91 (tw hw 82 rfl)) (by decide) (backOf (W := 0) (rm_succeeded0 l Z a0 hw [] w91 T91.heap n0 Zs96 (Old.keep O0 K91 hws) F_w91_succeeded_91c) hZ91 (tw hw 84 rfl) (tw hw 32 rfl) (by decide) (by decide)) q97a q97c (g := (mkF m 79 #[iv p1, .val (.long q1), .second, .val (.long q2), .second, iv p2, iv p3, iv 0, rv b83, rv b87, rv w91, .unset, .unset, .unset] [(.ref w91)])) rfl (by rw [hml]; rfl) (Steps.refl _) (argsL := []) (rest := []) (lenOf pd_14 rfl) rfl (by show 2 * 0 + _ ≤ _; exact Nat.le_of_eq rfl) (hb hby at_79) (fun _ _ => ⟨rfl, e95, (by decide : 8 + 0 ≤ _), (by decide : 90 + 0 ≤ _)⟩)
    dsimp only [Pt.U, Pt.locs, Pt.cells, Pt.slots] at X97 l97 y97 z97 st97 hQ97
    subst l97 y97 z97
    obtain ⟨rfl, N97q, e97⟩ := hQ97
    have N97 := Fr.app N95 N97q
    refine GoesW.step (T2 := T97) (g2 := (mkF m 82 #[iv p1, .val (.long q1), .second, .val (.long q2), .second, iv p2, iv p3, iv 0, rv b83, rv b87, rv w91, .unset, .unset, .unset] [(.int (0 : Int32))])) (fun _ hr => st97.trans hr) ?_
    refine GoesW.step (T2 := T97) (g2 := (mkF m 84 #[iv p1, .val (.long q1), .second, .val (.long q2), .second, iv p2, iv p3, iv 0, rv b83, rv b87, rv w91, .unset, .unset, .unset] [(.int (0 : Int32)), (.int (0 : Int32))])) (fun _ hr => XS.iload X97.here hx rfl (hb hby at_82) rfl  hr) ?_
    refine GoesW.step (T2 := T97) (g2 := (mkF m 89 #[iv p1, .val (.long q1), .second, .val (.long q2), .second, iv p2, iv p3, iv 0, rv b83, rv b87, rv w91, .unset, .unset, .unset] [])) (fun _ hr => XS.icmpYes X97.here hx rfl (pc0 := 84) (pc' := 89) rfl (hb hby at_84) rfl (teq (by decide : (0 : Int32) = (0 : Int32))).1 (by decide) (by decide) hr) ?_
    refine GoesW.step (T2 := T97) (g2 := (mkF m 91 #[iv p1, .val (.long q1), .second, .val (.long q2), .second, iv p2, iv p3, iv 0, rv b83, rv b87, rv w91, .unset, .unset, .unset] [(.ref w91)])) (fun _ hr => XS.aload X97.here hx rfl (hb hby at_89) rfl rfl hr) ?_
    have Zs98 : n0 ≤ T91.heap.size := Nat.le_trans Z0 K91.1
    obtain ⟨cq99, kq99, q99a, q99b, q99c⟩ := isOf hZ91 e97 E_w91_91c
    obtain ⟨_, _, ⟨T99, L99, k99, n99⟩, -, X99, ⟨Lc99, hQ99, l99, y99, z99⟩, st99⟩ := X97.virtualBack hx (y := Y16) (z := Y16) hown91 (mvT hZ91 (tw hw 85 rfl)) (mvT hZ91 (tw hw 86 rfl)) (notFace_of_selects (args := #[]) (mvT hZ91 (tw hw 88 rfl))) (mvT hZ91 (tw hw 88 rfl)) (mvT hZ91 (tw hw 87 rfl)) (by decide) (backOf (W := 0) (rm_durationMs0 l Z a0 hw [] w91 q1 T91.heap n0 Zs98 (Old.keep O0 K91 hws) F_w91_durationMs_91c) hZ91 (tw hw 89 rfl) (tw hw 32 rfl) (by decide) (by decide)) q99a q99c (g := (mkF m 91 #[iv p1, .val (.long q1), .second, .val (.long q2), .second, iv p2, iv p3, iv 0, rv b83, rv b87, rv w91, .unset, .unset, .unset] [(.ref w91)])) rfl (by rw [hml]; rfl) (Steps.refl _) (argsL := []) (rest := []) (lenOf pd_15 rfl) rfl (by show 2 * 0 + _ ≤ _; exact Nat.le_of_eq rfl) (hb hby at_91) (fun _ _ => ⟨rfl, e97, (by decide : 8 + 0 ≤ _), (by decide : 90 + 0 ≤ _)⟩)
    dsimp only [Pt.U, Pt.locs, Pt.cells, Pt.slots] at X99 l99 y99 z99 st99 hQ99
    subst l99 y99 z99
    obtain ⟨rfl, N99q, e99⟩ := hQ99
    have N99 := Fr.app N97 N99q
    refine GoesW.step (T2 := T99) (g2 := (mkF m 94 #[iv p1, .val (.long q1), .second, .val (.long q2), .second, iv p2, iv p3, iv 0, rv b83, rv b87, rv w91, .unset, .unset, .unset] [(.long q1)])) (fun _ hr => st99.trans hr) ?_
    refine GoesW.step (T2 := T99) (g2 := (mkF m 95 #[iv p1, .val (.long q1), .second, .val (.long q2), .second, iv p2, iv p3, iv 0, rv b83, rv b87, rv w91, .unset, .unset, .unset] [(.long q1), (.long q1)])) (fun _ hr => Jvm.Free.XT.lloadN X99.here hx rfl (hb hby at_94) rfl hr) ?_
    refine GoesW.step (T2 := T99) (g2 := (mkF m 96 #[iv p1, .val (.long q1), .second, .val (.long q2), .second, iv p2, iv p3, iv 0, rv b83, rv b87, rv w91, .unset, .unset, .unset] [(.int (Jvm.Free.XT.cmpL q1 q1))])) (fun _ hr => Jvm.Free.XT.lcmp X99.here hx rfl (hb hby at_95) rfl hr) ?_
    rw [cmpL_self]
    refine GoesW.step (T2 := T99) (g2 := (mkF m 101 #[iv p1, .val (.long q1), .second, .val (.long q2), .second, iv p2, iv p3, iv 0, rv b83, rv b87, rv w91, .unset, .unset, .unset] [])) (fun _ hr => XS.ifYes X99.here hx rfl (pc0 := 96) (pc' := 101) rfl (hb hby at_96) rfl ((if0 _ _).trans (teq (by decide : (0 : Int32) = (0 : Int32))).1) (by decide) (by decide) hr) ?_
    refine GoesW.step (T2 := T99) (g2 := (mkF m 103 #[iv p1, .val (.long q1), .second, .val (.long q2), .second, iv p2, iv p3, iv 0, rv b83, rv b87, rv w91, .unset, .unset, .unset] [(.ref w91)])) (fun _ hr => XS.aload X99.here hx rfl (hb hby at_101) rfl rfl hr) ?_
    have Zs100 : n0 ≤ T91.heap.size := Nat.le_trans Z0 K91.1
    obtain ⟨cq101, kq101, q101a, q101b, q101c⟩ := isOf hZ91 e99 E_w91_91c
    obtain ⟨_, _, ⟨T101, L101, k101, n101⟩, -, X101, ⟨Lc101, hQ101, l101, y101, z101⟩, st101⟩ := X99.virtualBack hx (y := Y18) (z := Y18) hown91 (mvT hZ91 (tw hw 90 rfl)) (mvT hZ91 (tw hw 91 rfl)) (notFace_of_selects (args := #[]) (mvT hZ91 (tw hw 93 rfl))) (mvT hZ91 (tw hw 93 rfl)) (mvT hZ91 (tw hw 92 rfl)) (by decide) (backOf (W := 0) (rm_looks0 l Z a0 hw [] w91 T91.heap n0 Zs100 (Old.keep O0 K91 hws) F_w91_looks_91c) hZ91 (tw hw 94 rfl) (tw hw 32 rfl) (by decide) (by decide)) q101a q101c (g := (mkF m 103 #[iv p1, .val (.long q1), .second, .val (.long q2), .second, iv p2, iv p3, iv 0, rv b83, rv b87, rv w91, .unset, .unset, .unset] [(.ref w91)])) rfl (by rw [hml]; rfl) (Steps.refl _) (argsL := []) (rest := []) (lenOf pd_15 rfl) rfl (by show 2 * 0 + _ ≤ _; exact Nat.le_of_eq rfl) (hb hby at_103) (fun _ _ => ⟨rfl, e99, (by decide : 8 + 0 ≤ _), (by decide : 90 + 0 ≤ _)⟩)
    dsimp only [Pt.U, Pt.locs, Pt.cells, Pt.slots] at X101 l101 y101 z101 st101 hQ101
    subst l101 y101 z101
    obtain ⟨rfl, N101q, e101⟩ := hQ101
    have N101 := Fr.app N99 N101q
    refine GoesW.step (T2 := T101) (g2 := (mkF m 106 #[iv p1, .val (.long q1), .second, .val (.long q2), .second, iv p2, iv p3, iv 0, rv b83, rv b87, rv w91, .unset, .unset, .unset] [(.long (1 : Int64))])) (fun _ hr => st101.trans hr) ?_
    refine GoesW.step (T2 := T101) (g2 := (mkF m 107 #[iv p1, .val (.long q1), .second, .val (.long q2), .second, iv p2, iv p3, iv 0, rv b83, rv b87, rv w91, .unset, .unset, .unset] [(.long (1 : Int64)), (.long (1 : Int64))])) (fun _ hr => Jvm.Free.XT.lconst X101.here hx rfl (hb hby at_106) hr) ?_
    refine GoesW.step (T2 := T101) (g2 := (mkF m 108 #[iv p1, .val (.long q1), .second, .val (.long q2), .second, iv p2, iv p3, iv 0, rv b83, rv b87, rv w91, .unset, .unset, .unset] [(.int (Jvm.Free.XT.cmpL (1 : Int64) (1 : Int64)))])) (fun _ hr => Jvm.Free.XT.lcmp X101.here hx rfl (hb hby at_107) rfl hr) ?_
    rw [cmpL_self]
    refine GoesW.step (T2 := T101) (g2 := (mkF m 113 #[iv p1, .val (.long q1), .second, .val (.long q2), .second, iv p2, iv p3, iv 0, rv b83, rv b87, rv w91, .unset, .unset, .unset] [])) (fun _ hr => XS.ifYes X101.here hx rfl (pc0 := 108) (pc' := 113) rfl (hb hby at_108) rfl ((if0 _ _).trans (teq (by decide : (0 : Int32) = (0 : Int32))).1) (by decide) (by decide) hr) ?_
    refine GoesW.step (T2 := T101) (g2 := (mkF m 115 #[iv p1, .val (.long q1), .second, .val (.long q2), .second, iv p2, iv p3, iv 0, rv b83, rv b87, rv w91, .unset, .unset, .unset] [(.int (0 : Int32))])) (fun _ hr => XS.iload X101.here hx rfl (hb hby at_113) rfl  hr) ?_
    refine GoesW.step (T2 := T101) (g2 := (mkF m 122 #[iv p1, .val (.long q1), .second, .val (.long q2), .second, iv p2, iv p3, iv 0, rv b83, rv b87, rv w91, .unset, .unset, .unset] [])) (fun _ hr => XS.ifYes X101.here hx rfl (pc0 := 115) (pc' := 122) rfl (hb hby at_115) rfl ((if0 _ _).trans (teq (by decide : (0 : Int32) = (0 : Int32))).1) (by decide) (by decide) hr) ?_
    refine GoesW.step (T2 := T101) (g2 := (mkF m 123 #[iv p1, .val (.long q1), .second, .val (.long q2), .second, iv p2, iv p3, iv 0, rv b83, rv b87, rv w91, .unset, .unset, .unset] [(.long (1 : Int64))])) (fun _ hr => Jvm.Free.XT.lconst X101.here hx rfl (hb hby at_122) hr) ?_
    refine GoesW.step (T2 := T101) (g2 := (mkF m 125 #[iv p1, .val (.long q1), .second, .val (.long q2), .second, iv p2, iv p3, iv 0, rv b83, rv b87, rv w91, .val (.long (1 : Int64)), .second, .unset] [])) (fun _ hr => Jvm.Free.XT.lstore X101.here hx rfl (hb hby at_123) rfl (l' := #[iv p1, .val (.long q1), .second, .val (.long q2), .second, iv p2, iv p3, iv 0, rv b83, rv b87, rv w91, .val (.long (1 : Int64)), .second, .unset]) rfl hr) ?_
    refine GoesW.step (T2 := T101) (g2 := (mkF m 127 #[iv p1, .val (.long q1), .second, .val (.long q2), .second, iv p2, iv p3, iv 0, rv b83, rv b87, rv w91, .val (.long (1 : Int64)), .second, .unset] [(.ref w91)])) (fun _ hr => XS.aload X101.here hx rfl (hb hby at_125) rfl rfl hr) ?_
    have Zs102 : n0 ≤ T91.heap.size := Nat.le_trans Z0 K91.1
    obtain ⟨cq103, kq103, q103a, q103b, q103c⟩ := isOf hZ91 e101 E_w91_91c
    obtain ⟨_, _, ⟨T103, L103, k103, n103⟩, -, X103, ⟨Lc103, hQ103, l103, y103, z103⟩, st103⟩ := X101.virtualBack hx (y := Y19) (z := Y19) hown91 (mvT hZ91 (tw hw 95 rfl)) (mvT hZ91 (tw hw 96 rfl)) (notFace_of_selects (args := #[]) (mvT hZ91 (tw hw 98 rfl))) (mvT hZ91 (tw hw 98 rfl)) (mvT hZ91 (tw hw 97 rfl)) (by decide) (backOf (W := 0) (rm_failures0 l Z a0 hw [] w91 T91.heap n0 Zs102 (Old.keep O0 K91 hws) F_w91_failures_91c) hZ91 (tw hw 99 rfl) (tw hw 32 rfl) (by decide) (by decide)) q103a q103c (g := (mkF m 127 #[iv p1, .val (.long q1), .second, .val (.long q2), .second, iv p2, iv p3, iv 0, rv b83, rv b87, rv w91, .val (.long (1 : Int64)), .second, .unset] [(.ref w91)])) rfl (by rw [hml]; rfl) (Steps.refl _) (argsL := []) (rest := []) (lenOf pd_15 rfl) rfl (by show 2 * 0 + _ ≤ _; exact Nat.le_of_eq rfl) (hb hby at_127) (fun _ _ => ⟨rfl, e101, (by decide : 8 + 0 ≤ _), (by decide : 90 + 0 ≤ _)⟩)
    dsimp only [Pt.U, Pt.locs, Pt.cells, Pt.slots] at X103 l103 y103 z103 st103 hQ103
    subst l103 y103 z103
    obtain ⟨rfl, N103q, e103⟩ := hQ103
    have N103 := Fr.app N101 N103q
    refine GoesW.step (T2 := T103) (g2 := (mkF m 130 #[iv p1, .val (.long q1), .second, .val (.long q2), .second, iv p2, iv p3, iv 0, rv b83, rv b87, rv w91, .val (.long (1 : Int64)), .second, .unset] [(.long (1 : Int64))])) (fun _ hr => st103.trans hr) ?_
    refine GoesW.step (T2 := T103) (g2 := (mkF m 132 #[iv p1, .val (.long q1), .second, .val (.long q2), .second, iv p2, iv p3, iv 0, rv b83, rv b87, rv w91, .val (.long (1 : Int64)), .second, .unset] [(.long (1 : Int64)), (.long (1 : Int64))])) (fun _ hr => Jvm.Free.XT.lload X103.here hx rfl (hb hby at_130) rfl hr) ?_
    refine GoesW.step (T2 := T103) (g2 := (mkF m 133 #[iv p1, .val (.long q1), .second, .val (.long q2), .second, iv p2, iv p3, iv 0, rv b83, rv b87, rv w91, .val (.long (1 : Int64)), .second, .unset] [(.int (Jvm.Free.XT.cmpL (1 : Int64) (1 : Int64)))])) (fun _ hr => Jvm.Free.XT.lcmp X103.here hx rfl (hb hby at_132) rfl hr) ?_
    rw [cmpL_self]
    refine GoesW.step (T2 := T103) (g2 := (mkF m 138 #[iv p1, .val (.long q1), .second, .val (.long q2), .second, iv p2, iv p3, iv 0, rv b83, rv b87, rv w91, .val (.long (1 : Int64)), .second, .unset] [])) (fun _ hr => XS.ifYes X103.here hx rfl (pc0 := 133) (pc' := 138) rfl (hb hby at_133) rfl ((if0 _ _).trans (teq (by decide : (0 : Int32) = (0 : Int32))).1) (by decide) (by decide) hr) ?_
    refine GoesW.step (T2 := T103) (g2 := (mkF m 140 #[iv p1, .val (.long q1), .second, .val (.long q2), .second, iv p2, iv p3, iv 0, rv b83, rv b87, rv w91, .val (.long (1 : Int64)), .second, .unset] [(.ref w91)])) (fun _ hr => XS.aload X103.here hx rfl (hb hby at_138) rfl rfl hr) ?_
    have Zs104 : n0 ≤ T91.heap.size := Nat.le_trans Z0 K91.1
    obtain ⟨cq105, kq105, q105a, q105b, q105c⟩ := isOf hZ91 e103 E_w91_91c
    obtain ⟨_, _, ⟨T105, L105, k105, n105⟩, -, X105, ⟨Lc105, hQ105, l105, y105, z105⟩, st105⟩ := X103.virtualBack hx (y := Y17) (z := Y17) hown91 (mvT hZ91 (tw hw 100 rfl)) (mvT hZ91 (tw hw 101 rfl)) (notFace_of_selects (args := #[]) (mvT hZ91 (tw hw 103 rfl))) (mvT hZ91 (tw hw 103 rfl)) (mvT hZ91 (tw hw 102 rfl)) (by decide) (backOf (W := 0) (rm_lastSuccessMs0 l Z a0 hw [] w91 em T91.heap n0 Zs104 (Old.keep O0 K91 hws) F_w91_lastSuccessMs_91c) hZ91 (tw hw 104 rfl) (tw hw 32 rfl) (by decide) (by decide)) q105a q105c (g := (mkF m 140 #[iv p1, .val (.long q1), .second, .val (.long q2), .second, iv p2, iv p3, iv 0, rv b83, rv b87, rv w91, .val (.long (1 : Int64)), .second, .unset] [(.ref w91)])) rfl (by rw [hml]; rfl) (Steps.refl _) (argsL := []) (rest := []) (lenOf pd_7 rfl) rfl (by show 2 * 0 + _ ≤ _; exact Nat.le_of_eq rfl) (hb hby at_140) (fun _ _ => ⟨rfl, e103, (by decide : 8 + 0 ≤ _), (by decide : 90 + 0 ≤ _)⟩)
    dsimp only [Pt.U, Pt.locs, Pt.cells, Pt.slots] at X105 l105 y105 z105 st105 hQ105
    subst l105 y105 z105
    obtain ⟨rfl, N105q, e105⟩ := hQ105
    have N105 := Fr.app N103 N105q
    refine GoesW.step (T2 := T105) (g2 := (mkF m 143 #[iv p1, .val (.long q1), .second, .val (.long q2), .second, iv p2, iv p3, iv 0, rv b83, rv b87, rv w91, .val (.long (1 : Int64)), .second, .unset] [(.ref em)])) (fun _ hr => st105.trans hr) ?_
    refine GoesW.step (T2 := T105) (g2 := (mkF m 145 #[iv p1, .val (.long q1), .second, .val (.long q2), .second, iv p2, iv p3, iv 0, rv b83, rv b87, rv w91, .val (.long (1 : Int64)), .second, rv em] [])) (fun _ hr => XS.astore X105.here hx rfl (hb hby at_143) rfl rfl (l' := #[iv p1, .val (.long q1), .second, .val (.long q2), .second, iv p2, iv p3, iv 0, rv b83, rv b87, rv w91, .val (.long (1 : Int64)), .second, rv em]) rfl hr) ?_
    refine GoesW.step (T2 := T105) (g2 := (mkF m 147 #[iv p1, .val (.long q1), .second, .val (.long q2), .second, iv p2, iv p3, iv 0, rv b83, rv b87, rv w91, .val (.long (1 : Int64)), .second, rv em] [(.int (0 : Int32))])) (fun _ hr => XS.iload X105.here hx rfl (hb hby at_145) rfl  hr) ?_
    refine GoesW.step (T2 := T105) (g2 := (mkF m 174 #[iv p1, .val (.long q1), .second, .val (.long q2), .second, iv p2, iv p3, iv 0, rv b83, rv b87, rv w91, .val (.long (1 : Int64)), .second, rv em] [])) (fun _ hr => XS.ifYes X105.here hx rfl (pc0 := 147) (pc' := 174) rfl (hb hby at_147) rfl ((if0 _ _).trans (teq (by decide : (0 : Int32) = (0 : Int32))).1) (by decide) (by decide) hr) ?_
    refine GoesW.step (T2 := T105) (g2 := (mkF m 176 #[iv p1, .val (.long q1), .second, .val (.long q2), .second, iv p2, iv p3, iv 0, rv b83, rv b87, rv w91, .val (.long (1 : Int64)), .second, rv em] [(.ref em)])) (fun _ hr => XS.aload X105.here hx rfl (hb hby at_174) rfl rfl hr) ?_
    have Zs106 : n0 ≤ T91.heap.size := Nat.le_trans Z0 K91.1
    obtain ⟨cq107, kq107, q107a, q107b, q107c⟩ := isOf hZ91 e105 (E_em_old.ext (Old.keep O0 K91 hws).2)
    obtain ⟨_, _, ⟨T107, L107, k107, n107⟩, -, X107, ⟨Lc107, hQ107, l107, y107, z107⟩, st107⟩ := X105.virtualBack hx (y := Y8) (z := Y8) hown91 (mvT hZ91 (tw hw 105 rfl)) (mvT hZ91 (tw hw 106 rfl)) (notFace_of_selects (args := #[]) (mvT hZ91 (tw hw 108 rfl))) (mvT hZ91 (tw hw 108 rfl)) (mvT hZ91 (tw hw 107 rfl)) (by decide) (backOf (W := 0) (rm_olp0 l Z a0 hw [] em T91.heap n0 Zs106 (Old.keep O0 K91 hws) (F_em_isPresent_old.ext (Old.keep O0 K91 hws).2)) hZ91 (tw hw 109 rfl) (tw hw 36 rfl) (by decide) (by decide)) q107a q107c (g := (mkF m 176 #[iv p1, .val (.long q1), .second, .val (.long q2), .second, iv p2, iv p3, iv 0, rv b83, rv b87, rv w91, .val (.long (1 : Int64)), .second, rv em] [(.ref em)])) rfl (by rw [hml]; rfl) (Steps.refl _) (argsL := []) (rest := []) (lenOf pd_14 rfl) rfl (by show 2 * 0 + _ ≤ _; exact Nat.le_of_eq rfl) (hb hby at_176) (fun _ _ => ⟨rfl, e105, (by decide : 8 + 0 ≤ _), (by decide : 90 + 0 ≤ _)⟩)
    dsimp only [Pt.U, Pt.locs, Pt.cells, Pt.slots] at X107 l107 y107 z107 st107 hQ107
    subst l107 y107 z107
    obtain ⟨rfl, N107q, e107⟩ := hQ107
    have N107 := Fr.app N105 N107q
    refine GoesW.step (T2 := T107) (g2 := (mkF m 179 #[iv p1, .val (.long q1), .second, .val (.long q2), .second, iv p2, iv p3, iv 0, rv b83, rv b87, rv w91, .val (.long (1 : Int64)), .second, rv em] [(.int (0 : Int32))])) (fun _ hr => st107.trans hr) ?_
    refine GoesW.step (T2 := T107) (g2 := (mkF m 182 #[iv p1, .val (.long q1), .second, .val (.long q2), .second, iv p2, iv p3, iv 0, rv b83, rv b87, rv w91, .val (.long (1 : Int64)), .second, rv em] [])) (fun _ hr => XS.ifNo X107.here hx rfl (hb hby at_179) rfl ((if0 _ _).trans (teq (by decide : (0 : Int32) = (0 : Int32))).2) hr) ?_
    refine GoesW.step (T2 := T107) (g2 := (mkF m 183 #[iv p1, .val (.long q1), .second, .val (.long q2), .second, iv p2, iv p3, iv 0, rv b83, rv b87, rv w91, .val (.long (1 : Int64)), .second, rv em] [(.int (1 : Int32))])) (fun _ hr => XS.iconst X107.here hx rfl (hb hby at_182) hr) ?_
    refine GoesW.step (T2 := T107) (g2 := (mkF m 187 #[iv p1, .val (.long q1), .second, .val (.long q2), .second, iv p2, iv p3, iv 0, rv b83, rv b87, rv w91, .val (.long (1 : Int64)), .second, rv em] [(.int (1 : Int32))])) (fun _ hr => XS.goto X107.here hx rfl (pc0 := 183) (pc' := 187) rfl (hb hby at_183) (by decide) (by decide) hr) ?_
    exact GoesW.ret (v := some (.int (1 : Int32))) X107 Sn91 (by rw [e107]; exact kle91) (by decide) (by decide) (fun h => by rw [Bd.returns] at h; cases h) ⟨rfl, N107⟩ (fun fs hr => retN X107 hx (t := .boolean) Bd.returns (by simp) (hb hby at_187) hr)
  · refine GoesW.step (T2 := s₁) (g2 := (mkF m 6 #[iv p1, .val (.long q1), .second, .val (.long q2), .second, iv p2, iv p3, .unset, .unset, .unset, .unset, .unset, .unset, .unset] [])) (fun _ hr => XS.ifNo X0.here hx rfl (hb hby at_3) rfl ((if0 _ _).trans (feq hc3_82).1) hr) ?_
    refine GoesW.step (T2 := s₁) (g2 := (mkF m 7 #[iv p1, .val (.long q1), .second, .val (.long q2), .second, iv p2, iv p3, .unset, .unset, .unset, .unset, .unset, .unset, .unset] [(.int (1 : Int32))])) (fun _ hr => XS.iconst X0.here hx rfl (hb hby at_6) hr) ?_
    refine GoesW.step (T2 := s₁) (g2 := (mkF m 11 #[iv p1, .val (.long q1), .second, .val (.long q2), .second, iv p2, iv p3, .unset, .unset, .unset, .unset, .unset, .unset, .unset] [(.int (1 : Int32))])) (fun _ hr => XS.goto X0.here hx rfl (pc0 := 7) (pc' := 11) rfl (hb hby at_7) (by decide) (by decide) hr) ?_
    refine GoesW.step (T2 := s₁) (g2 := (mkF m 13 #[iv p1, .val (.long q1), .second, .val (.long q2), .second, iv p2, iv p3, iv 1, .unset, .unset, .unset, .unset, .unset, .unset] [])) (fun _ hr => XS.istore X0.here hx rfl (hb hby at_11) rfl (l' := #[iv p1, .val (.long q1), .second, .val (.long q2), .second, iv p2, iv p3, iv 1, .unset, .unset, .unset, .unset, .unset, .unset]) rfl hr) ?_
    refine GoesW.step (T2 := s₁) (g2 := (mkF m 14 #[iv p1, .val (.long q1), .second, .val (.long q2), .second, iv p2, iv p3, iv 1, .unset, .unset, .unset, .unset, .unset, .unset] [(.int (2 : Int32))])) (fun _ hr => XS.iconst X0.here hx rfl (hb hby at_13) hr) ?_
    obtain ⟨T108, h108, k108, X108, e108, E108, A108, Ax108, st108⟩ := newPE X0 hx hZ (tw hw 0 rfl) e0 (g := (mkF m 14 #[iv p1, .val (.long q1), .second, .val (.long q2), .second, iv p2, iv p3, iv 1, .unset, .unset, .unset, .unset, .unset, .unset] [(.int (2 : Int32))])) rfl (hb hby at_14) rfl (by decide) (cap := 2) (by decide) (by decide) (by decide) (by decide) (ad := "[C") (by decide)
    obtain ⟨b108, g108⟩ : ∃ z, z = h0.size := ⟨_, rfl⟩
    rw [← g108] at A108 Ax108 st108
    have sz_b108 : h0.size ≤ b108 := Nat.le_trans K0.1 (Nat.le_of_eq g108.symm)
    have ge_b108 : n0 ≤ b108 := Nat.le_trans Z0 sz_b108
    have K108 : Keep h0 h108 [] := K0.ext E108
    have kle108 : 0 ≤ h108.size := Nat.le_trans kle0 E108.1
    have V_b108_108 : Arv Z h108 b108 k108 .char (2 : Int32) [] (.int (0 : Int32)) := Arv.new A108 (by decide)
    refine GoesW.step (T2 := T108) (g2 := (mkF m 16 #[iv p1, .val (.long q1), .second, .val (.long q2), .second, iv p2, iv p3, iv 1, .unset, .unset, .unset, .unset, .unset, .unset] [(.ref b108)])) st108 ?_
    have V_b108_p109 : Arv Z h108 b108 k108 .char (2 : Int32) [(.int (0 : Int32)), (.int (0 : Int32))] (.int (0 : Int32)) := V_b108_108.pad (pad_rep [] (.int (0 : Int32)) 2)
    refine GoesW.step (T2 := T108) (g2 := (mkF m 18 #[iv p1, .val (.long q1), .second, .val (.long q2), .second, iv p2, iv p3, iv 1, rv b108, .unset, .unset, .unset, .unset, .unset] [])) (fun _ hr => XS.astore X108.here hx rfl (hb hby at_16) rfl rfl (l' := #[iv p1, .val (.long q1), .second, .val (.long q2), .second, iv p2, iv p3, iv 1, rv b108, .unset, .unset, .unset, .unset, .unset]) rfl hr) ?_
    refine GoesW.step (T2 := T108) (g2 := (mkF m 20 #[iv p1, .val (.long q1), .second, .val (.long q2), .second, iv p2, iv p3, iv 1, rv b108, .unset, .unset, .unset, .unset, .unset] [(.ref b108)])) (fun _ hr => XS.aload X108.here hx rfl (hb hby at_18) rfl rfl hr) ?_
    refine GoesW.step (T2 := T108) (g2 := (mkF m 21 #[iv p1, .val (.long q1), .second, .val (.long q2), .second, iv p2, iv p3, iv 1, rv b108, .unset, .unset, .unset, .unset, .unset] [(.int (0 : Int32)), (.ref b108)])) (fun _ hr => XS.iconst X108.here hx rfl (hb hby at_20) hr) ?_
    refine GoesW.step (T2 := T108) (g2 := (mkF m 23 #[iv p1, .val (.long q1), .second, .val (.long q2), .second, iv p2, iv p3, iv 1, rv b108, .unset, .unset, .unset, .unset, .unset] [(.int p2), (.int (0 : Int32)), (.ref b108)])) (fun _ hr => XS.iload X108.here hx rfl (hb hby at_21) rfl  hr) ?_
    refine GoesW.step (T2 := T108) (g2 := (mkF m 26 #[iv p1, .val (.long q1), .second, .val (.long q2), .second, iv p2, iv p3, iv 1, rv b108, .unset, .unset, .unset, .unset, .unset] [(.int (255 : Int32)), (.int p2), (.int (0 : Int32)), (.ref b108)])) (fun _ hr => XS.sipush X108.here hx rfl (hb hby at_23) hr) ?_
    refine GoesW.step (T2 := T108) (g2 := (mkF m 27 #[iv p1, .val (.long q1), .second, .val (.long q2), .second, iv p2, iv p3, iv 1, rv b108, .unset, .unset, .unset, .unset, .unset] [(.int (p2 &&& (255 : Int32))), (.int (0 : Int32)), (.ref b108)])) (fun _ hr => XS.iand X108.here hx rfl (hb hby at_26) rfl hr) ?_
    refine GoesW.step (T2 := T108) (g2 := (mkF m 28 #[iv p1, .val (.long q1), .second, .val (.long q2), .second, iv p2, iv p3, iv 1, rv b108, .unset, .unset, .unset, .unset, .unset] [(.int ((p2 &&& (255 : Int32)).toUInt32.toUInt16.toUInt32.toInt32)), (.int (0 : Int32)), (.ref b108)])) (fun _ hr => Jvm.Free.XT.i2c X108.here hx rfl (hb hby at_27) rfl hr) ?_
    rw [i2c_mask p2]
    obtain ⟨cl110, Ar110, q110, S110, Nn110, H110, G110⟩ := id V_b108_p109
    have hin110 : ¬ ((0 : Int32) < 0 ∨ cl110.slots.size ≤ ((0 : Int32)).toNatClampNeg) := inb_of S110 ⟨by decide, by decide⟩
    obtain ⟨T110, h110, X110, e110, W110, st110⟩ := stC X108 hx hZ e108 Ar110 (j := (0 : Int32)) hin110 (g := (mkF m 28 #[iv p1, .val (.long q1), .second, .val (.long q2), .second, iv p2, iv p3, iv 1, rv b108, .unset, .unset, .unset, .unset, .unset] [(.int (p2 &&& (255 : Int32))), (.int (0 : Int32)), (.ref b108)])) rfl rfl (hb hby at_28)
    have W110' := W110
    rw [show (nar .char (p2 &&& (255 : Int32))) = (p2 &&& (255 : Int32)) from own_chr2 p2] at W110'
    have E_b108_110 : Exa Z h110 b108 "[C" := Ax108.wr W110
    have K110 : Keep h0 h110 [] := K108.wr W110 (Or.inr sz_b108)
    have kle110 : 0 ≤ h110.size := Nat.le_trans kle108 (Nat.le_of_eq W110.size.symm)
    have N110 := Fr.snoc X110 N0 ge_b108
    have V_b108_110 : Arv Z h110 b108 k108 .char (2 : Int32) [(.int (p2 &&& (255 : Int32))), (.int (0 : Int32))] (.int (0 : Int32)) := Arv.set Ar110 q110 S110 Nn110 H110 G110 (by have := (show fits .char (.int (nar .char (p2 &&& (255 : Int32)))) = true from (fits_nar_char _)); rwa [show (nar .char (p2 &&& (255 : Int32))) = (p2 &&& (255 : Int32)) from own_chr2 p2] at this) W110' 0 rfl (Nat.le_of_ble_eq_true rfl)
    refine GoesW.step (T2 := T110) (g2 := (mkF m 29 #[iv p1, .val (.long q1), .second, .val (.long q2), .second, iv p2, iv p3, iv 1, rv b108, .unset, .unset, .unset, .unset, .unset] [])) st110 ?_
    refine GoesW.step (T2 := T110) (g2 := (mkF m 31 #[iv p1, .val (.long q1), .second, .val (.long q2), .second, iv p2, iv p3, iv 1, rv b108, .unset, .unset, .unset, .unset, .unset] [(.ref b108)])) (fun _ hr => XS.aload X110.here hx rfl (hb hby at_29) rfl rfl hr) ?_
    refine GoesW.step (T2 := T110) (g2 := (mkF m 32 #[iv p1, .val (.long q1), .second, .val (.long q2), .second, iv p2, iv p3, iv 1, rv b108, .unset, .unset, .unset, .unset, .unset] [(.int (1 : Int32)), (.ref b108)])) (fun _ hr => XS.iconst X110.here hx rfl (hb hby at_31) hr) ?_
    refine GoesW.step (T2 := T110) (g2 := (mkF m 34 #[iv p1, .val (.long q1), .second, .val (.long q2), .second, iv p2, iv p3, iv 1, rv b108, .unset, .unset, .unset, .unset, .unset] [(.int p3), (.int (1 : Int32)), (.ref b108)])) (fun _ hr => XS.iload X110.here hx rfl (hb hby at_32) rfl  hr) ?_
    refine GoesW.step (T2 := T110) (g2 := (mkF m 37 #[iv p1, .val (.long q1), .second, .val (.long q2), .second, iv p2, iv p3, iv 1, rv b108, .unset, .unset, .unset, .unset, .unset] [(.int (255 : Int32)), (.int p3), (.int (1 : Int32)), (.ref b108)])) (fun _ hr => XS.sipush X110.here hx rfl (hb hby at_34) hr) ?_
    refine GoesW.step (T2 := T110) (g2 := (mkF m 38 #[iv p1, .val (.long q1), .second, .val (.long q2), .second, iv p2, iv p3, iv 1, rv b108, .unset, .unset, .unset, .unset, .unset] [(.int (p3 &&& (255 : Int32))), (.int (1 : Int32)), (.ref b108)])) (fun _ hr => XS.iand X110.here hx rfl (hb hby at_37) rfl hr) ?_
    refine GoesW.step (T2 := T110) (g2 := (mkF m 39 #[iv p1, .val (.long q1), .second, .val (.long q2), .second, iv p2, iv p3, iv 1, rv b108, .unset, .unset, .unset, .unset, .unset] [(.int ((p3 &&& (255 : Int32)).toUInt32.toUInt16.toUInt32.toInt32)), (.int (1 : Int32)), (.ref b108)])) (fun _ hr => Jvm.Free.XT.i2c X110.here hx rfl (hb hby at_38) rfl hr) ?_
    rw [i2c_mask p3]
    obtain ⟨cl111, Ar111, q111, S111, Nn111, H111, G111⟩ := id V_b108_110
    have hin111 : ¬ ((1 : Int32) < 0 ∨ cl111.slots.size ≤ ((1 : Int32)).toNatClampNeg) := inb_of S111 ⟨by decide, by decide⟩
    obtain ⟨T111, h111, X111, e111, W111, st111⟩ := stC X110 hx hZ e110 Ar111 (j := (1 : Int32)) hin111 (g := (mkF m 39 #[iv p1, .val (.long q1), .second, .val (.long q2), .second, iv p2, iv p3, iv 1, rv b108, .unset, .unset, .unset, .unset, .unset] [(.int (p3 &&& (255 : Int32))), (.int (1 : Int32)), (.ref b108)])) rfl rfl (hb hby at_39)
    have W111' := W111
    rw [show (nar .char (p3 &&& (255 : Int32))) = (p3 &&& (255 : Int32)) from own_chr2 p3] at W111'
    have E_b108_111 : Exa Z h111 b108 "[C" := E_b108_110.wr W111
    have K111 : Keep h0 h111 [] := K110.wr W111 (Or.inr sz_b108)
    have kle111 : 0 ≤ h111.size := Nat.le_trans kle110 (Nat.le_of_eq W111.size.symm)
    have N111 := Fr.snoc X111 N110 ge_b108
    have V_b108_111 : Arv Z h111 b108 k108 .char (2 : Int32) [(.int (p2 &&& (255 : Int32))), (.int (p3 &&& (255 : Int32)))] (.int (0 : Int32)) := Arv.set Ar111 q111 S111 Nn111 H111 G111 (by have := (show fits .char (.int (nar .char (p3 &&& (255 : Int32)))) = true from (fits_nar_char _)); rwa [show (nar .char (p3 &&& (255 : Int32))) = (p3 &&& (255 : Int32)) from own_chr2 p3] at this) W111' 1 rfl (Nat.le_of_ble_eq_true rfl)
    refine GoesW.step (T2 := T111) (g2 := (mkF m 40 #[iv p1, .val (.long q1), .second, .val (.long q2), .second, iv p2, iv p3, iv 1, rv b108, .unset, .unset, .unset, .unset, .unset] [])) st111 ?_
    obtain ⟨T112, h112, X112, e112, E112, A112, D112, -, st112⟩ := newO X111 hx hZ hown (tw hw 1 rfl) (tw hw 2 rfl) (tw hw 3 rfl) e111 (g := (mkF m 40 #[iv p1, .val (.long q1), .second, .val (.long q2), .second, iv p2, iv p3, iv 1, rv b108, .unset, .unset, .unset, .unset, .unset] [])) rfl (hb hby at_40) (by decide) (by decide)
    obtain ⟨b112, g112⟩ : ∃ z, z = h111.size := ⟨_, rfl⟩
    rw [← g112] at A112 D112 st112
    have sz_b112 : h0.size ≤ b112 := Nat.le_trans K111.1 (Nat.le_of_eq g112.symm)
    have ge_b112 : n0 ≤ b112 := Nat.le_trans Z0 sz_b112
    have E_b108_112 : Exa Z h112 b108 "[C" := E_b108_111.ext E112
    have V_b108_112 : Arv Z h112 b108 k108 .char (2 : Int32) [(.int (p2 &&& (255 : Int32))), (.int (p3 &&& (255 : Int32)))] (.int (0 : Int32)) := V_b108_111.ext E112
    have K112 : Keep h0 h112 [] := K111.ext E112
    have kle112 : 0 ≤ h112.size := Nat.le_trans kle111 E112.1
    have F_b112_coder_112 : Fld Z h112 b112 "java/lang/String" "coder" "B" (.int (0 : Int32)) := D112 (Or.inr (tw hw 27 rfl)) (ty := .byte) (by decide)
    have F_b112_value_112 : Fld Z h112 b112 "java/lang/String" "value" "[B" .null := D112 (Or.inr (tw hw 29 rfl)) (ty := (.array .byte)) (by decide)
    refine GoesW.step (T2 := T112) (g2 := (mkF m 43 #[iv p1, .val (.long q1), .second, .val (.long q2), .second, iv p2, iv p3, iv 1, rv b108, .unset, .unset, .unset, .unset, .unset] [(.ref b112)])) st112 ?_
    refine GoesW.step (T2 := T112) (g2 := (mkF m 44 #[iv p1, .val (.long q1), .second, .val (.long q2), .second, iv p2, iv p3, iv 1, rv b108, .unset, .unset, .unset, .unset, .unset] [(.ref b112), (.ref b112)])) (fun _ hr => XS.dup X112.here hx rfl (hb hby at_43) rfl rfl hr) ?_
    refine GoesW.step (T2 := T112) (g2 := (mkF m 46 #[iv p1, .val (.long q1), .second, .val (.long q2), .second, iv p2, iv p3, iv 1, rv b108, .unset, .unset, .unset, .unset, .unset] [(.ref b108), (.ref b112), (.ref b112)])) (fun _ hr => XS.aload X112.here hx rfl (hb hby at_44) rfl rfl hr) ?_
    have Zs113 : n0 ≤ h112.size := Nat.le_trans Z0 K112.1
    obtain ⟨_, _, ⟨T114, L114, k114, n114⟩, -, X114, ⟨Lc114, hQ114, l114, y114, z114⟩, st114⟩ := X112.specialBack hx (y := Y4) rfl hown (mvT hZ (tw hw 4 rfl)) (mvT hZ (tw hw 5 rfl)) (mvT hZ (tw hw 6 rfl)) (by decide) (backOf (W := 1) (rm_str1_2 l Z a0 hw [] b112 b108 k108 cs (p2 &&& (255 : Int32)) (p3 &&& (255 : Int32)) h112 n0 Zs113 (Old.keep O0 K112 hws) A112 F_b112_coder_112 F_b112_value_112 V_b108_112 S_String_COMPACT_STRINGS_old ge_b112 (Ne.symm (Nat.ne_of_lt (Nat.lt_of_lt_of_le E_b108_111.lt (Nat.le_of_eq g112.symm)))) hcs (own_low p2) (own_low p3)) hZ (tw hw 6 rfl) (tw hw 3 rfl) (by decide) (by decide)) (g := (mkF m 46 #[iv p1, .val (.long q1), .second, .val (.long q2), .second, iv p2, iv p3, iv 1, rv b108, .unset, .unset, .unset, .unset, .unset] [(.ref b108), (.ref b112), (.ref b112)])) rfl (by rw [hml]; rfl) (Steps.refl _) (a := b112) (argsL := [(.ref b108)]) (rest := [(.ref b112)]) (lenOf pd_10 rfl) rfl (by show 2 * 0 + _ ≤ _; exact Nat.le_of_eq rfl) (hb hby at_46) (fun _ _ => ⟨rfl, e112, (by decide : 2 + 1 ≤ _), (by decide : 6 + 2 ≤ _)⟩)
    dsimp only [Pt.U, Pt.locs, Pt.cells, Pt.slots] at X114 l114 y114 z114 st114 hQ114
    subst l114 y114 z114
    obtain ⟨rfl, N114q, Kc114⟩ := hQ114
    have N114 := Fr.app N111 N114q
    have E_b108_114 : Exa Z T114.heap b108 "[C" := E_b108_112.keep Kc114
    have V_b108_114 : Arv Z T114.heap b108 k108 .char (2 : Int32) [(.int (p2 &&& (255 : Int32))), (.int (p3 &&& (255 : Int32)))] (.int (0 : Int32)) := V_b108_112.keep Kc114 (ninS (Nat.ne_of_lt (Nat.lt_of_lt_of_le E_b108_111.lt (Nat.le_of_eq g112.symm))) nin0)
    have E_b112_114 : Exa Z T114.heap b112 "java/lang/String" := A112.keep Kc114
    have K114 : Keep h0 T114.heap [] := K112.trans Kc114 (allS (Or.inr sz_b112) all0)
    have kle114 : 0 ≤ T114.heap.size := Nat.le_trans kle112 Kc114.1
    refine GoesW.step (T2 := T114) (g2 := (mkF m 49 #[iv p1, .val (.long q1), .second, .val (.long q2), .second, iv p2, iv p3, iv 1, rv b108, .unset, .unset, .unset, .unset, .unset] [(.ref b112)])) (fun _ hr => st114.trans hr) ?_
    refine GoesW.step (T2 := T114) (g2 := (mkF m 51 #[iv p1, .val (.long q1), .second, .val (.long q2), .second, iv p2, iv p3, iv 1, rv b108, rv b112, .unset, .unset, .unset, .unset] [])) (fun _ hr => XS.astore X114.here hx rfl (hb hby at_49) rfl rfl (l' := #[iv p1, .val (.long q1), .second, .val (.long q2), .second, iv p2, iv p3, iv 1, rv b108, rv b112, .unset, .unset, .unset, .unset]) rfl hr) ?_
    refine GoesW.step (T2 := T114) (g2 := (mkF m 53 #[iv p1, .val (.long q1), .second, .val (.long q2), .second, iv p2, iv p3, iv 1, rv b108, rv b112, .unset, .unset, .unset, .unset] [(.ref b112)])) (fun _ hr => XS.aload X114.here hx rfl (hb hby at_51) rfl rfl hr) ?_
    refine GoesW.step (T2 := T114) (g2 := (mkF m 55 #[iv p1, .val (.long q1), .second, .val (.long q2), .second, iv p2, iv p3, iv 1, rv b108, rv b112, .unset, .unset, .unset, .unset] [(.int (1 : Int32)), (.ref b112)])) (fun _ hr => XS.iload X114.here hx rfl (hb hby at_53) rfl  hr) ?_
    refine GoesW.step (T2 := T114) (g2 := (mkF m 56 #[iv p1, .val (.long q1), .second, .val (.long q2), .second, iv p2, iv p3, iv 1, rv b108, rv b112, .unset, .unset, .unset, .unset] [(.long q1), (.int (1 : Int32)), (.ref b112)])) (fun _ hr => Jvm.Free.XT.lloadN X114.here hx rfl (hb hby at_55) rfl hr) ?_
    refine GoesW.step (T2 := T114) (g2 := (mkF m 57 #[iv p1, .val (.long q1), .second, .val (.long q2), .second, iv p2, iv p3, iv 1, rv b108, rv b112, .unset, .unset, .unset, .unset] [(.long q2), (.long q1), (.int (1 : Int32)), (.ref b112)])) (fun _ hr => Jvm.Free.XT.lloadN X114.here hx rfl (hb hby at_56) rfl hr) ?_
    have Zs115 : n0 ≤ T114.heap.size := Nat.le_trans Z0 K114.1
    obtain ⟨_, _, ⟨T116, L116, k116, n116⟩, -, X116, Sc116, gr116, ⟨Lc116, hQ116, l116, y116, z116⟩, st116⟩ := callSS X114 hx (y := Y13) hown (mvT hZ (tw hw 30 rfl)) (mvT hZ (tw hw 31 rfl)) (mvT hZ (tw hw 32 rfl)) (mvT hZ (tw hw 33 rfl)) (by decide) (backOfS (W := 0) (rm_one1 l Z a0 hw [] b112 q1 q2 em T114.heap n0 Zs115 (Old.keep O0 K114 hws) S_OptionalLong_EMPTY_old E_em_old F_em_isPresent_old F_em_value_old) hZ (tw hw 33 rfl) (tw hw 32 rfl) (by decide) (by decide)) (g := (mkF m 57 #[iv p1, .val (.long q1), .second, .val (.long q2), .second, iv p2, iv p3, iv 1, rv b108, rv b112, .unset, .unset, .unset, .unset] [(.long q2), (.long q1), (.int (1 : Int32)), (.ref b112)])) rfl (by rw [hml]; rfl) (argsL := [(.ref b112), (.int (1 : Int32)), (.long q1), (.long q2)]) (rest := []) (lenOf pd_11 rfl) rfl (by show 2 * 0 + _ ≤ _; exact Nat.le_of_eq rfl) (hb hby at_57) (fun _ _ => ⟨rfl, rfl, (by decide : 3 + 6 ≤ _), (by decide : 8 + 84 ≤ _)⟩)
    dsimp only [Pt.U, Pt.locs, Pt.cells, Pt.slots] at X116 l116 y116 z116 st116 hQ116 Sc116 gr116
    subst l116 y116 z116
    have Sn116 := Sn0.trans Sc116 (Nat.le_trans (show 0 ≤ T114.heap.size by rw [(rfl : T114.heap = T114.heap)]; exact kle114) gr116)
    have hZ116 : Z.Warmed39 (s.setVm T116.vm).vm := State.Warmed39.trans (t := s.setVm s.vm) hZ Sc116.1
    have hown116 : (s.setVm T116.vm).vm.findClass "com/example/log_lag_gauge/loglaggauge/model/PartLooksOnePinLaw" = some m.cls := by rw [show (s.setVm T116.vm).vm = T116.vm from rfl, Sc116.1.alike.findClass]; exact hown
    have kle116 : T116.heap.size ≤ T116.heap.size := Nat.le_refl _
    obtain ⟨w116, wo116, rfl, N116q, Kc116, P116_0, P116_1, P116_2, P116_3, P116_4, P116_5, P116_6, P116_7, P116_8, P116_9, P116_10, P116_11⟩ := hQ116
    have N116 := Fr.app N114 N116q
    have E_b108_116 : Exa Z T116.heap b108 "[C" := E_b108_114.keep Kc116
    have E_b112_116 : Exa Z T116.heap b112 "java/lang/String" := E_b112_114.keep Kc116
    have K116 : Keep h0 T116.heap [] := K114.trans Kc116 all0
    have sz_w116 : h0.size ≤ w116 := Nat.le_trans K114.1 P116_0
    have ge_w116 : n0 ≤ w116 := Nat.le_trans Z0 sz_w116
    have E_w116_116c : Exa Z T116.heap w116 "com/example/log_lag_gauge/loglaggauge/model/PartLooks" := P116_1
    have F_w116_part_116c : Fld Z T116.heap w116 "com/example/log_lag_gauge/loglaggauge/model/PartLooks" "part" "Ljava/lang/String;" (.ref b112) := P116_2
    have F_w116_succeeded_116c : Fld Z T116.heap w116 "com/example/log_lag_gauge/loglaggauge/model/PartLooks" "succeeded" "Z" (.int (1 : Int32)) := P116_3
    have F_w116_durationMs_116c : Fld Z T116.heap w116 "com/example/log_lag_gauge/loglaggauge/model/PartLooks" "durationMs" "J" (.long q1) := P116_4
    have F_w116_lastSuccessMs_116c : Fld Z T116.heap w116 "com/example/log_lag_gauge/loglaggauge/model/PartLooks" "lastSuccessMs" "Ljava/util/OptionalLong;" (.ref wo116) := P116_5
    have F_w116_looks_116c : Fld Z T116.heap w116 "com/example/log_lag_gauge/loglaggauge/model/PartLooks" "looks" "J" (.long (1 : Int64)) := P116_6
    have F_w116_failures_116c : Fld Z T116.heap w116 "com/example/log_lag_gauge/loglaggauge/model/PartLooks" "failures" "J" (.long (0 : Int64)) := P116_7
    have sz_wo116 : h0.size ≤ wo116 := Nat.le_trans K114.1 P116_8
    have ge_wo116 : n0 ≤ wo116 := Nat.le_trans Z0 sz_wo116
    have E_wo116_116c : Exa Z T116.heap wo116 "java/util/OptionalLong" := P116_9
    have F_wo116_isPresent_116c : Fld Z T116.heap wo116 "java/util/OptionalLong" "isPresent" "Z" (.int (1 : Int32)) := P116_10
    have F_wo116_value_116c : Fld Z T116.heap wo116 "java/util/OptionalLong" "value" "J" (.long q2) := P116_11
    refine GoesW.step (T2 := T116) (g2 := (mkF m 60 #[iv p1, .val (.long q1), .second, .val (.long q2), .second, iv p2, iv p3, iv 1, rv b108, rv b112, .unset, .unset, .unset, .unset] [(.ref w116)])) (fun _ hr => st116.trans hr) ?_
    refine GoesW.step (T2 := T116) (g2 := (mkF m 62 #[iv p1, .val (.long q1), .second, .val (.long q2), .second, iv p2, iv p3, iv 1, rv b108, rv b112, rv w116, .unset, .unset, .unset] [])) (fun _ hr => XS.astore X116.here hx rfl (hb hby at_60) rfl rfl (l' := #[iv p1, .val (.long q1), .second, .val (.long q2), .second, iv p2, iv p3, iv 1, rv b108, rv b112, rv w116, .unset, .unset, .unset]) rfl hr) ?_
    refine GoesW.step (T2 := T116) (g2 := (mkF m 64 #[iv p1, .val (.long q1), .second, .val (.long q2), .second, iv p2, iv p3, iv 1, rv b108, rv b112, rv w116, .unset, .unset, .unset] [(.ref w116)])) (fun _ hr => XS.aload X116.here hx rfl (hb hby at_62) rfl rfl hr) ?_
    have Zs117 : n0 ≤ T116.heap.size := Nat.le_trans Z0 K116.1
    obtain ⟨cq118, kq118, q118a, q118b, q118c⟩ := isOf hZ116 rfl E_w116_116c
    obtain ⟨_, _, ⟨T118, L118, k118, n118⟩, -, X118, ⟨Lc118, hQ118, l118, y118, z118⟩, st118⟩ := X116.virtualBack hx (y := Y14) (z := Y14) hown116 (mvT hZ116 (tw hw 70 rfl)) (mvT hZ116 (tw hw 71 rfl)) (notFace_of_selects (args := #[]) (mvT hZ116 (tw hw 73 rfl))) (mvT hZ116 (tw hw 73 rfl)) (mvT hZ116 (tw hw 72 rfl)) (by decide) (backOf (W := 0) (rm_part0 l Z a0 hw [] w116 b112 T116.heap n0 Zs117 (Old.keep O0 K116 hws) F_w116_part_116c) hZ116 (tw hw 74 rfl) (tw hw 32 rfl) (by decide) (by decide)) q118a q118c (g := (mkF m 64 #[iv p1, .val (.long q1), .second, .val (.long q2), .second, iv p2, iv p3, iv 1, rv b108, rv b112, rv w116, .unset, .unset, .unset] [(.ref w116)])) rfl (by rw [hml]; rfl) (Steps.refl _) (argsL := []) (rest := []) (lenOf pd_12 rfl) rfl (by show 2 * 0 + _ ≤ _; exact Nat.le_of_eq rfl) (hb hby at_64) (fun _ _ => ⟨rfl, rfl, (by decide : 9 + 0 ≤ _), (by decide : 92 + 0 ≤ _)⟩)
    dsimp only [Pt.U, Pt.locs, Pt.cells, Pt.slots] at X118 l118 y118 z118 st118 hQ118
    subst l118 y118 z118
    obtain ⟨rfl, N118q, e118⟩ := hQ118
    have N118 := Fr.app N116 N118q
    refine GoesW.step (T2 := T118) (g2 := (mkF m 67 #[iv p1, .val (.long q1), .second, .val (.long q2), .second, iv p2, iv p3, iv 1, rv b108, rv b112, rv w116, .unset, .unset, .unset] [(.ref b112)])) (fun _ hr => st118.trans hr) ?_
    refine GoesW.step (T2 := T118) (g2 := (mkF m 69 #[iv p1, .val (.long q1), .second, .val (.long q2), .second, iv p2, iv p3, iv 1, rv b108, rv b112, rv w116, .unset, .unset, .unset] [(.ref b112), (.ref b112)])) (fun _ hr => XS.aload X118.here hx rfl (hb hby at_67) rfl rfl hr) ?_
    have Zs119 : n0 ≤ T116.heap.size := Nat.le_trans Z0 K116.1
    obtain ⟨cq120, kq120, q120a, q120b, q120c⟩ := isOf hZ116 e118 E_b112_116
    obtain ⟨_, _, ⟨T120, L120, k120, n120⟩, -, X120, ⟨Lc120, hQ120, l120, y120, z120⟩, st120⟩ := X118.virtualBack hx (y := Y20) (z := Y20) hown116 (mvT hZ116 (tw hw 75 rfl)) (mvT hZ116 (tw hw 76 rfl)) (notFace_of_selects (args := #[]) (mvT hZ116 (tw hw 78 rfl))) (mvT hZ116 (tw hw 78 rfl)) (mvT hZ116 (tw hw 77 rfl)) (by decide) (backOf (W := 0) (rm_eq l Z a0 hw [] b112 T116.heap n0 Zs119 (Old.keep O0 K116 hws)) hZ116 (tw hw 79 rfl) (tw hw 3 rfl) (by decide) (by decide)) q120a q120c (g := (mkF m 69 #[iv p1, .val (.long q1), .second, .val (.long q2), .second, iv p2, iv p3, iv 1, rv b108, rv b112, rv w116, .unset, .unset, .unset] [(.ref b112), (.ref b112)])) rfl (by rw [hml]; rfl) (Steps.refl _) (argsL := [(.ref b112)]) (rest := []) (lenOf pd_13 rfl) rfl (by show 2 * 0 + _ ≤ _; exact Nat.le_of_eq rfl) (hb hby at_69) (fun _ _ => ⟨rfl, e118, (by decide : 9 + 0 ≤ _), (by decide : 92 + 0 ≤ _)⟩)
    dsimp only [Pt.U, Pt.locs, Pt.cells, Pt.slots] at X120 l120 y120 z120 st120 hQ120
    subst l120 y120 z120
    obtain ⟨rfl, N120q, e120⟩ := hQ120
    have N120 := Fr.app N118 N120q
    refine GoesW.step (T2 := T120) (g2 := (mkF m 72 #[iv p1, .val (.long q1), .second, .val (.long q2), .second, iv p2, iv p3, iv 1, rv b108, rv b112, rv w116, .unset, .unset, .unset] [(.int (1 : Int32))])) (fun _ hr => st120.trans hr) ?_
    refine GoesW.step (T2 := T120) (g2 := (mkF m 77 #[iv p1, .val (.long q1), .second, .val (.long q2), .second, iv p2, iv p3, iv 1, rv b108, rv b112, rv w116, .unset, .unset, .unset] [])) (fun _ hr => XS.ifYes X120.here hx rfl (pc0 := 72) (pc' := 77) rfl (hb hby at_72) rfl ((if0 _ _).trans (feq (by decide : ¬ ((1 : Int32) = (0 : Int32)))).2) (by decide) (by decide) hr) ?_
    refine GoesW.step (T2 := T120) (g2 := (mkF m 79 #[iv p1, .val (.long q1), .second, .val (.long q2), .second, iv p2, iv p3, iv 1, rv b108, rv b112, rv w116, .unset, .unset, .unset] [(.ref w116)])) (fun _ hr => XS.aload X120.here hx rfl (hb hby at_77) rfl rfl hr) ?_
    have Zs121 : n0 ≤ T116.heap.size := Nat.le_trans Z0 K116.1
    obtain ⟨cq122, kq122, q122a, q122b, q122c⟩ := isOf hZ116 e120 E_w116_116c
    obtain ⟨_, _, ⟨T122, L122, k122, n122⟩, -, X122, ⟨Lc122, hQ122, l122, y122, z122⟩, st122⟩ := X120.virtualBack hx (y := Y15) (z := Y15) hown116 (mvT hZ116 (tw hw 80 rfl)) (mvT hZ116 (tw hw 81 rfl)) (notFace_of_selects (args := #[]) (mvT hZ116 (tw hw 83 rfl))) (mvT hZ116 (tw hw 83 rfl)) (mvT hZ116 (tw hw 82 rfl)) (by decide) (backOf (W := 0) (rm_succeeded1 l Z a0 hw [] w116 T116.heap n0 Zs121 (Old.keep O0 K116 hws) F_w116_succeeded_116c) hZ116 (tw hw 84 rfl) (tw hw 32 rfl) (by decide) (by decide)) q122a q122c (g := (mkF m 79 #[iv p1, .val (.long q1), .second, .val (.long q2), .second, iv p2, iv p3, iv 1, rv b108, rv b112, rv w116, .unset, .unset, .unset] [(.ref w116)])) rfl (by rw [hml]; rfl) (Steps.refl _) (argsL := []) (rest := []) (lenOf pd_14 rfl) rfl (by show 2 * 0 + _ ≤ _; exact Nat.le_of_eq rfl) (hb hby at_79) (fun _ _ => ⟨rfl, e120, (by decide : 9 + 0 ≤ _), (by decide : 92 + 0 ≤ _)⟩)
    dsimp only [Pt.U, Pt.locs, Pt.cells, Pt.slots] at X122 l122 y122 z122 st122 hQ122
    subst l122 y122 z122
    obtain ⟨rfl, N122q, e122⟩ := hQ122
    have N122 := Fr.app N120 N122q
    refine GoesW.step (T2 := T122) (g2 := (mkF m 82 #[iv p1, .val (.long q1), .second, .val (.long q2), .second, iv p2, iv p3, iv 1, rv b108, rv b112, rv w116, .unset, .unset, .unset] [(.int (1 : Int32))])) (fun _ hr => st122.trans hr) ?_
    refine GoesW.step (T2 := T122) (g2 := (mkF m 84 #[iv p1, .val (.long q1), .second, .val (.long q2), .second, iv p2, iv p3, iv 1, rv b108, rv b112, rv w116, .unset, .unset, .unset] [(.int (1 : Int32)), (.int (1 : Int32))])) (fun _ hr => XS.iload X122.here hx rfl (hb hby at_82) rfl  hr) ?_
    refine GoesW.step (T2 := T122) (g2 := (mkF m 89 #[iv p1, .val (.long q1), .second, .val (.long q2), .second, iv p2, iv p3, iv 1, rv b108, rv b112, rv w116, .unset, .unset, .unset] [])) (fun _ hr => XS.icmpYes X122.here hx rfl (pc0 := 84) (pc' := 89) rfl (hb hby at_84) rfl (teq (by decide : (1 : Int32) = (1 : Int32))).1 (by decide) (by decide) hr) ?_
    refine GoesW.step (T2 := T122) (g2 := (mkF m 91 #[iv p1, .val (.long q1), .second, .val (.long q2), .second, iv p2, iv p3, iv 1, rv b108, rv b112, rv w116, .unset, .unset, .unset] [(.ref w116)])) (fun _ hr => XS.aload X122.here hx rfl (hb hby at_89) rfl rfl hr) ?_
    have Zs123 : n0 ≤ T116.heap.size := Nat.le_trans Z0 K116.1
    obtain ⟨cq124, kq124, q124a, q124b, q124c⟩ := isOf hZ116 e122 E_w116_116c
    obtain ⟨_, _, ⟨T124, L124, k124, n124⟩, -, X124, ⟨Lc124, hQ124, l124, y124, z124⟩, st124⟩ := X122.virtualBack hx (y := Y16) (z := Y16) hown116 (mvT hZ116 (tw hw 85 rfl)) (mvT hZ116 (tw hw 86 rfl)) (notFace_of_selects (args := #[]) (mvT hZ116 (tw hw 88 rfl))) (mvT hZ116 (tw hw 88 rfl)) (mvT hZ116 (tw hw 87 rfl)) (by decide) (backOf (W := 0) (rm_durationMs0 l Z a0 hw [] w116 q1 T116.heap n0 Zs123 (Old.keep O0 K116 hws) F_w116_durationMs_116c) hZ116 (tw hw 89 rfl) (tw hw 32 rfl) (by decide) (by decide)) q124a q124c (g := (mkF m 91 #[iv p1, .val (.long q1), .second, .val (.long q2), .second, iv p2, iv p3, iv 1, rv b108, rv b112, rv w116, .unset, .unset, .unset] [(.ref w116)])) rfl (by rw [hml]; rfl) (Steps.refl _) (argsL := []) (rest := []) (lenOf pd_15 rfl) rfl (by show 2 * 0 + _ ≤ _; exact Nat.le_of_eq rfl) (hb hby at_91) (fun _ _ => ⟨rfl, e122, (by decide : 9 + 0 ≤ _), (by decide : 92 + 0 ≤ _)⟩)
    dsimp only [Pt.U, Pt.locs, Pt.cells, Pt.slots] at X124 l124 y124 z124 st124 hQ124
    subst l124 y124 z124
    obtain ⟨rfl, N124q, e124⟩ := hQ124
    have N124 := Fr.app N122 N124q
    refine GoesW.step (T2 := T124) (g2 := (mkF m 94 #[iv p1, .val (.long q1), .second, .val (.long q2), .second, iv p2, iv p3, iv 1, rv b108, rv b112, rv w116, .unset, .unset, .unset] [(.long q1)])) (fun _ hr => st124.trans hr) ?_
    refine GoesW.step (T2 := T124) (g2 := (mkF m 95 #[iv p1, .val (.long q1), .second, .val (.long q2), .second, iv p2, iv p3, iv 1, rv b108, rv b112, rv w116, .unset, .unset, .unset] [(.long q1), (.long q1)])) (fun _ hr => Jvm.Free.XT.lloadN X124.here hx rfl (hb hby at_94) rfl hr) ?_
    refine GoesW.step (T2 := T124) (g2 := (mkF m 96 #[iv p1, .val (.long q1), .second, .val (.long q2), .second, iv p2, iv p3, iv 1, rv b108, rv b112, rv w116, .unset, .unset, .unset] [(.int (Jvm.Free.XT.cmpL q1 q1))])) (fun _ hr => Jvm.Free.XT.lcmp X124.here hx rfl (hb hby at_95) rfl hr) ?_
    rw [cmpL_self]
    refine GoesW.step (T2 := T124) (g2 := (mkF m 101 #[iv p1, .val (.long q1), .second, .val (.long q2), .second, iv p2, iv p3, iv 1, rv b108, rv b112, rv w116, .unset, .unset, .unset] [])) (fun _ hr => XS.ifYes X124.here hx rfl (pc0 := 96) (pc' := 101) rfl (hb hby at_96) rfl ((if0 _ _).trans (teq (by decide : (0 : Int32) = (0 : Int32))).1) (by decide) (by decide) hr) ?_
    refine GoesW.step (T2 := T124) (g2 := (mkF m 103 #[iv p1, .val (.long q1), .second, .val (.long q2), .second, iv p2, iv p3, iv 1, rv b108, rv b112, rv w116, .unset, .unset, .unset] [(.ref w116)])) (fun _ hr => XS.aload X124.here hx rfl (hb hby at_101) rfl rfl hr) ?_
    have Zs125 : n0 ≤ T116.heap.size := Nat.le_trans Z0 K116.1
    obtain ⟨cq126, kq126, q126a, q126b, q126c⟩ := isOf hZ116 e124 E_w116_116c
    obtain ⟨_, _, ⟨T126, L126, k126, n126⟩, -, X126, ⟨Lc126, hQ126, l126, y126, z126⟩, st126⟩ := X124.virtualBack hx (y := Y18) (z := Y18) hown116 (mvT hZ116 (tw hw 90 rfl)) (mvT hZ116 (tw hw 91 rfl)) (notFace_of_selects (args := #[]) (mvT hZ116 (tw hw 93 rfl))) (mvT hZ116 (tw hw 93 rfl)) (mvT hZ116 (tw hw 92 rfl)) (by decide) (backOf (W := 0) (rm_looks0 l Z a0 hw [] w116 T116.heap n0 Zs125 (Old.keep O0 K116 hws) F_w116_looks_116c) hZ116 (tw hw 94 rfl) (tw hw 32 rfl) (by decide) (by decide)) q126a q126c (g := (mkF m 103 #[iv p1, .val (.long q1), .second, .val (.long q2), .second, iv p2, iv p3, iv 1, rv b108, rv b112, rv w116, .unset, .unset, .unset] [(.ref w116)])) rfl (by rw [hml]; rfl) (Steps.refl _) (argsL := []) (rest := []) (lenOf pd_15 rfl) rfl (by show 2 * 0 + _ ≤ _; exact Nat.le_of_eq rfl) (hb hby at_103) (fun _ _ => ⟨rfl, e124, (by decide : 9 + 0 ≤ _), (by decide : 92 + 0 ≤ _)⟩)
    dsimp only [Pt.U, Pt.locs, Pt.cells, Pt.slots] at X126 l126 y126 z126 st126 hQ126
    subst l126 y126 z126
    obtain ⟨rfl, N126q, e126⟩ := hQ126
    have N126 := Fr.app N124 N126q
    refine GoesW.step (T2 := T126) (g2 := (mkF m 106 #[iv p1, .val (.long q1), .second, .val (.long q2), .second, iv p2, iv p3, iv 1, rv b108, rv b112, rv w116, .unset, .unset, .unset] [(.long (1 : Int64))])) (fun _ hr => st126.trans hr) ?_
    refine GoesW.step (T2 := T126) (g2 := (mkF m 107 #[iv p1, .val (.long q1), .second, .val (.long q2), .second, iv p2, iv p3, iv 1, rv b108, rv b112, rv w116, .unset, .unset, .unset] [(.long (1 : Int64)), (.long (1 : Int64))])) (fun _ hr => Jvm.Free.XT.lconst X126.here hx rfl (hb hby at_106) hr) ?_
    refine GoesW.step (T2 := T126) (g2 := (mkF m 108 #[iv p1, .val (.long q1), .second, .val (.long q2), .second, iv p2, iv p3, iv 1, rv b108, rv b112, rv w116, .unset, .unset, .unset] [(.int (Jvm.Free.XT.cmpL (1 : Int64) (1 : Int64)))])) (fun _ hr => Jvm.Free.XT.lcmp X126.here hx rfl (hb hby at_107) rfl hr) ?_
    rw [cmpL_self]
    refine GoesW.step (T2 := T126) (g2 := (mkF m 113 #[iv p1, .val (.long q1), .second, .val (.long q2), .second, iv p2, iv p3, iv 1, rv b108, rv b112, rv w116, .unset, .unset, .unset] [])) (fun _ hr => XS.ifYes X126.here hx rfl (pc0 := 108) (pc' := 113) rfl (hb hby at_108) rfl ((if0 _ _).trans (teq (by decide : (0 : Int32) = (0 : Int32))).1) (by decide) (by decide) hr) ?_
    refine GoesW.step (T2 := T126) (g2 := (mkF m 115 #[iv p1, .val (.long q1), .second, .val (.long q2), .second, iv p2, iv p3, iv 1, rv b108, rv b112, rv w116, .unset, .unset, .unset] [(.int (1 : Int32))])) (fun _ hr => XS.iload X126.here hx rfl (hb hby at_113) rfl  hr) ?_
    refine GoesW.step (T2 := T126) (g2 := (mkF m 118 #[iv p1, .val (.long q1), .second, .val (.long q2), .second, iv p2, iv p3, iv 1, rv b108, rv b112, rv w116, .unset, .unset, .unset] [])) (fun _ hr => XS.ifNo X126.here hx rfl (hb hby at_115) rfl ((if0 _ _).trans (feq (by decide : ¬ ((1 : Int32) = (0 : Int32)))).1) hr) ?_
    refine GoesW.step (T2 := T126) (g2 := (mkF m 119 #[iv p1, .val (.long q1), .second, .val (.long q2), .second, iv p2, iv p3, iv 1, rv b108, rv b112, rv w116, .unset, .unset, .unset] [(.long (0 : Int64))])) (fun _ hr => Jvm.Free.XT.lconst X126.here hx rfl (hb hby at_118) hr) ?_
    refine GoesW.step (T2 := T126) (g2 := (mkF m 123 #[iv p1, .val (.long q1), .second, .val (.long q2), .second, iv p2, iv p3, iv 1, rv b108, rv b112, rv w116, .unset, .unset, .unset] [(.long (0 : Int64))])) (fun _ hr => XS.goto X126.here hx rfl (pc0 := 119) (pc' := 123) rfl (hb hby at_119) (by decide) (by decide) hr) ?_
    refine GoesW.step (T2 := T126) (g2 := (mkF m 125 #[iv p1, .val (.long q1), .second, .val (.long q2), .second, iv p2, iv p3, iv 1, rv b108, rv b112, rv w116, .val (.long (0 : Int64)), .second, .unset] [])) (fun _ hr => Jvm.Free.XT.lstore X126.here hx rfl (hb hby at_123) rfl (l' := #[iv p1, .val (.long q1), .second, .val (.long q2), .second, iv p2, iv p3, iv 1, rv b108, rv b112, rv w116, .val (.long (0 : Int64)), .second, .unset]) rfl hr) ?_
    refine GoesW.step (T2 := T126) (g2 := (mkF m 127 #[iv p1, .val (.long q1), .second, .val (.long q2), .second, iv p2, iv p3, iv 1, rv b108, rv b112, rv w116, .val (.long (0 : Int64)), .second, .unset] [(.ref w116)])) (fun _ hr => XS.aload X126.here hx rfl (hb hby at_125) rfl rfl hr) ?_
    have Zs127 : n0 ≤ T116.heap.size := Nat.le_trans Z0 K116.1
    obtain ⟨cq128, kq128, q128a, q128b, q128c⟩ := isOf hZ116 e126 E_w116_116c
    obtain ⟨_, _, ⟨T128, L128, k128, n128⟩, -, X128, ⟨Lc128, hQ128, l128, y128, z128⟩, st128⟩ := X126.virtualBack hx (y := Y19) (z := Y19) hown116 (mvT hZ116 (tw hw 95 rfl)) (mvT hZ116 (tw hw 96 rfl)) (notFace_of_selects (args := #[]) (mvT hZ116 (tw hw 98 rfl))) (mvT hZ116 (tw hw 98 rfl)) (mvT hZ116 (tw hw 97 rfl)) (by decide) (backOf (W := 0) (rm_failures1 l Z a0 hw [] w116 T116.heap n0 Zs127 (Old.keep O0 K116 hws) F_w116_failures_116c) hZ116 (tw hw 99 rfl) (tw hw 32 rfl) (by decide) (by decide)) q128a q128c (g := (mkF m 127 #[iv p1, .val (.long q1), .second, .val (.long q2), .second, iv p2, iv p3, iv 1, rv b108, rv b112, rv w116, .val (.long (0 : Int64)), .second, .unset] [(.ref w116)])) rfl (by rw [hml]; rfl) (Steps.refl _) (argsL := []) (rest := []) (lenOf pd_15 rfl) rfl (by show 2 * 0 + _ ≤ _; exact Nat.le_of_eq rfl) (hb hby at_127) (fun _ _ => ⟨rfl, e126, (by decide : 9 + 0 ≤ _), (by decide : 92 + 0 ≤ _)⟩)
    dsimp only [Pt.U, Pt.locs, Pt.cells, Pt.slots] at X128 l128 y128 z128 st128 hQ128
    subst l128 y128 z128
    obtain ⟨rfl, N128q, e128⟩ := hQ128
    have N128 := Fr.app N126 N128q
    refine GoesW.step (T2 := T128) (g2 := (mkF m 130 #[iv p1, .val (.long q1), .second, .val (.long q2), .second, iv p2, iv p3, iv 1, rv b108, rv b112, rv w116, .val (.long (0 : Int64)), .second, .unset] [(.long (0 : Int64))])) (fun _ hr => st128.trans hr) ?_
    refine GoesW.step (T2 := T128) (g2 := (mkF m 132 #[iv p1, .val (.long q1), .second, .val (.long q2), .second, iv p2, iv p3, iv 1, rv b108, rv b112, rv w116, .val (.long (0 : Int64)), .second, .unset] [(.long (0 : Int64)), (.long (0 : Int64))])) (fun _ hr => Jvm.Free.XT.lload X128.here hx rfl (hb hby at_130) rfl hr) ?_
    refine GoesW.step (T2 := T128) (g2 := (mkF m 133 #[iv p1, .val (.long q1), .second, .val (.long q2), .second, iv p2, iv p3, iv 1, rv b108, rv b112, rv w116, .val (.long (0 : Int64)), .second, .unset] [(.int (Jvm.Free.XT.cmpL (0 : Int64) (0 : Int64)))])) (fun _ hr => Jvm.Free.XT.lcmp X128.here hx rfl (hb hby at_132) rfl hr) ?_
    rw [cmpL_self]
    refine GoesW.step (T2 := T128) (g2 := (mkF m 138 #[iv p1, .val (.long q1), .second, .val (.long q2), .second, iv p2, iv p3, iv 1, rv b108, rv b112, rv w116, .val (.long (0 : Int64)), .second, .unset] [])) (fun _ hr => XS.ifYes X128.here hx rfl (pc0 := 133) (pc' := 138) rfl (hb hby at_133) rfl ((if0 _ _).trans (teq (by decide : (0 : Int32) = (0 : Int32))).1) (by decide) (by decide) hr) ?_
    refine GoesW.step (T2 := T128) (g2 := (mkF m 140 #[iv p1, .val (.long q1), .second, .val (.long q2), .second, iv p2, iv p3, iv 1, rv b108, rv b112, rv w116, .val (.long (0 : Int64)), .second, .unset] [(.ref w116)])) (fun _ hr => XS.aload X128.here hx rfl (hb hby at_138) rfl rfl hr) ?_
    have Zs129 : n0 ≤ T116.heap.size := Nat.le_trans Z0 K116.1
    obtain ⟨cq130, kq130, q130a, q130b, q130c⟩ := isOf hZ116 e128 E_w116_116c
    obtain ⟨_, _, ⟨T130, L130, k130, n130⟩, -, X130, ⟨Lc130, hQ130, l130, y130, z130⟩, st130⟩ := X128.virtualBack hx (y := Y17) (z := Y17) hown116 (mvT hZ116 (tw hw 100 rfl)) (mvT hZ116 (tw hw 101 rfl)) (notFace_of_selects (args := #[]) (mvT hZ116 (tw hw 103 rfl))) (mvT hZ116 (tw hw 103 rfl)) (mvT hZ116 (tw hw 102 rfl)) (by decide) (backOf (W := 0) (rm_lastSuccessMs0 l Z a0 hw [] w116 wo116 T116.heap n0 Zs129 (Old.keep O0 K116 hws) F_w116_lastSuccessMs_116c) hZ116 (tw hw 104 rfl) (tw hw 32 rfl) (by decide) (by decide)) q130a q130c (g := (mkF m 140 #[iv p1, .val (.long q1), .second, .val (.long q2), .second, iv p2, iv p3, iv 1, rv b108, rv b112, rv w116, .val (.long (0 : Int64)), .second, .unset] [(.ref w116)])) rfl (by rw [hml]; rfl) (Steps.refl _) (argsL := []) (rest := []) (lenOf pd_7 rfl) rfl (by show 2 * 0 + _ ≤ _; exact Nat.le_of_eq rfl) (hb hby at_140) (fun _ _ => ⟨rfl, e128, (by decide : 9 + 0 ≤ _), (by decide : 92 + 0 ≤ _)⟩)
    dsimp only [Pt.U, Pt.locs, Pt.cells, Pt.slots] at X130 l130 y130 z130 st130 hQ130
    subst l130 y130 z130
    obtain ⟨rfl, N130q, e130⟩ := hQ130
    have N130 := Fr.app N128 N130q
    refine GoesW.step (T2 := T130) (g2 := (mkF m 143 #[iv p1, .val (.long q1), .second, .val (.long q2), .second, iv p2, iv p3, iv 1, rv b108, rv b112, rv w116, .val (.long (0 : Int64)), .second, .unset] [(.ref wo116)])) (fun _ hr => st130.trans hr) ?_
    refine GoesW.step (T2 := T130) (g2 := (mkF m 145 #[iv p1, .val (.long q1), .second, .val (.long q2), .second, iv p2, iv p3, iv 1, rv b108, rv b112, rv w116, .val (.long (0 : Int64)), .second, rv wo116] [])) (fun _ hr => XS.astore X130.here hx rfl (hb hby at_143) rfl rfl (l' := #[iv p1, .val (.long q1), .second, .val (.long q2), .second, iv p2, iv p3, iv 1, rv b108, rv b112, rv w116, .val (.long (0 : Int64)), .second, rv wo116]) rfl hr) ?_
    refine GoesW.step (T2 := T130) (g2 := (mkF m 147 #[iv p1, .val (.long q1), .second, .val (.long q2), .second, iv p2, iv p3, iv 1, rv b108, rv b112, rv w116, .val (.long (0 : Int64)), .second, rv wo116] [(.int (1 : Int32))])) (fun _ hr => XS.iload X130.here hx rfl (hb hby at_145) rfl  hr) ?_
    refine GoesW.step (T2 := T130) (g2 := (mkF m 150 #[iv p1, .val (.long q1), .second, .val (.long q2), .second, iv p2, iv p3, iv 1, rv b108, rv b112, rv w116, .val (.long (0 : Int64)), .second, rv wo116] [])) (fun _ hr => XS.ifNo X130.here hx rfl (hb hby at_147) rfl ((if0 _ _).trans (feq (by decide : ¬ ((1 : Int32) = (0 : Int32)))).1) hr) ?_
    refine GoesW.step (T2 := T130) (g2 := (mkF m 152 #[iv p1, .val (.long q1), .second, .val (.long q2), .second, iv p2, iv p3, iv 1, rv b108, rv b112, rv w116, .val (.long (0 : Int64)), .second, rv wo116] [(.ref wo116)])) (fun _ hr => XS.aload X130.here hx rfl (hb hby at_150) rfl rfl hr) ?_
    have Zs131 : n0 ≤ T116.heap.size := Nat.le_trans Z0 K116.1
    obtain ⟨cq132, kq132, q132a, q132b, q132c⟩ := isOf hZ116 e130 E_wo116_116c
    obtain ⟨_, _, ⟨T132, L132, k132, n132⟩, -, X132, ⟨Lc132, hQ132, l132, y132, z132⟩, st132⟩ := X130.virtualBack hx (y := Y8) (z := Y8) hown116 (mvT hZ116 (tw hw 105 rfl)) (mvT hZ116 (tw hw 106 rfl)) (notFace_of_selects (args := #[]) (mvT hZ116 (tw hw 108 rfl))) (mvT hZ116 (tw hw 108 rfl)) (mvT hZ116 (tw hw 107 rfl)) (by decide) (backOf (W := 0) (rm_olp1 l Z a0 hw [] wo116 T116.heap n0 Zs131 (Old.keep O0 K116 hws) F_wo116_isPresent_116c) hZ116 (tw hw 109 rfl) (tw hw 36 rfl) (by decide) (by decide)) q132a q132c (g := (mkF m 152 #[iv p1, .val (.long q1), .second, .val (.long q2), .second, iv p2, iv p3, iv 1, rv b108, rv b112, rv w116, .val (.long (0 : Int64)), .second, rv wo116] [(.ref wo116)])) rfl (by rw [hml]; rfl) (Steps.refl _) (argsL := []) (rest := []) (lenOf pd_14 rfl) rfl (by show 2 * 0 + _ ≤ _; exact Nat.le_of_eq rfl) (hb hby at_152) (fun _ _ => ⟨rfl, e130, (by decide : 9 + 0 ≤ _), (by decide : 92 + 0 ≤ _)⟩)
    dsimp only [Pt.U, Pt.locs, Pt.cells, Pt.slots] at X132 l132 y132 z132 st132 hQ132
    subst l132 y132 z132
    obtain ⟨rfl, N132q, e132⟩ := hQ132
    have N132 := Fr.app N130 N132q
    refine GoesW.step (T2 := T132) (g2 := (mkF m 155 #[iv p1, .val (.long q1), .second, .val (.long q2), .second, iv p2, iv p3, iv 1, rv b108, rv b112, rv w116, .val (.long (0 : Int64)), .second, rv wo116] [(.int (1 : Int32))])) (fun _ hr => st132.trans hr) ?_
    refine GoesW.step (T2 := T132) (g2 := (mkF m 158 #[iv p1, .val (.long q1), .second, .val (.long q2), .second, iv p2, iv p3, iv 1, rv b108, rv b112, rv w116, .val (.long (0 : Int64)), .second, rv wo116] [])) (fun _ hr => XS.ifNo X132.here hx rfl (hb hby at_155) rfl ((if0 _ _).trans (feq (by decide : ¬ ((1 : Int32) = (0 : Int32)))).1) hr) ?_
    refine GoesW.step (T2 := T132) (g2 := (mkF m 160 #[iv p1, .val (.long q1), .second, .val (.long q2), .second, iv p2, iv p3, iv 1, rv b108, rv b112, rv w116, .val (.long (0 : Int64)), .second, rv wo116] [(.ref wo116)])) (fun _ hr => XS.aload X132.here hx rfl (hb hby at_158) rfl rfl hr) ?_
    have Zs133 : n0 ≤ T116.heap.size := Nat.le_trans Z0 K116.1
    obtain ⟨cq134, kq134, q134a, q134b, q134c⟩ := isOf hZ116 e132 E_wo116_116c
    obtain ⟨_, _, ⟨T134, L134, k134, n134⟩, -, X134, ⟨Lc134, hQ134, l134, y134, z134⟩, st134⟩ := X132.virtualBack hx (y := Y9) (z := Y9) hown116 (mvT hZ116 (tw hw 124 rfl)) (mvT hZ116 (tw hw 125 rfl)) (notFace_of_selects (args := #[]) (mvT hZ116 (tw hw 127 rfl))) (mvT hZ116 (tw hw 127 rfl)) (mvT hZ116 (tw hw 126 rfl)) (by decide) (backOf (W := 0) (rm_olg l Z a0 hw [] wo116 q2 T116.heap n0 Zs133 (Old.keep O0 K116 hws) F_wo116_isPresent_116c F_wo116_value_116c) hZ116 (tw hw 128 rfl) (tw hw 36 rfl) (by decide) (by decide)) q134a q134c (g := (mkF m 160 #[iv p1, .val (.long q1), .second, .val (.long q2), .second, iv p2, iv p3, iv 1, rv b108, rv b112, rv w116, .val (.long (0 : Int64)), .second, rv wo116] [(.ref wo116)])) rfl (by rw [hml]; rfl) (Steps.refl _) (argsL := []) (rest := []) (lenOf pd_15 rfl) rfl (by show 2 * 0 + _ ≤ _; exact Nat.le_of_eq rfl) (hb hby at_160) (fun _ _ => ⟨rfl, e132, (by decide : 9 + 0 ≤ _), (by decide : 92 + 0 ≤ _)⟩)
    dsimp only [Pt.U, Pt.locs, Pt.cells, Pt.slots] at X134 l134 y134 z134 st134 hQ134
    subst l134 y134 z134
    obtain ⟨rfl, N134q, e134⟩ := hQ134
    have N134 := Fr.app N132 N134q
    refine GoesW.step (T2 := T134) (g2 := (mkF m 163 #[iv p1, .val (.long q1), .second, .val (.long q2), .second, iv p2, iv p3, iv 1, rv b108, rv b112, rv w116, .val (.long (0 : Int64)), .second, rv wo116] [(.long q2)])) (fun _ hr => st134.trans hr) ?_
    refine GoesW.step (T2 := T134) (g2 := (mkF m 164 #[iv p1, .val (.long q1), .second, .val (.long q2), .second, iv p2, iv p3, iv 1, rv b108, rv b112, rv w116, .val (.long (0 : Int64)), .second, rv wo116] [(.long q2), (.long q2)])) (fun _ hr => Jvm.Free.XT.lloadN X134.here hx rfl (hb hby at_163) rfl hr) ?_
    refine GoesW.step (T2 := T134) (g2 := (mkF m 165 #[iv p1, .val (.long q1), .second, .val (.long q2), .second, iv p2, iv p3, iv 1, rv b108, rv b112, rv w116, .val (.long (0 : Int64)), .second, rv wo116] [(.int (Jvm.Free.XT.cmpL q2 q2))])) (fun _ hr => Jvm.Free.XT.lcmp X134.here hx rfl (hb hby at_164) rfl hr) ?_
    rw [cmpL_self]
    refine GoesW.step (T2 := T134) (g2 := (mkF m 168 #[iv p1, .val (.long q1), .second, .val (.long q2), .second, iv p2, iv p3, iv 1, rv b108, rv b112, rv w116, .val (.long (0 : Int64)), .second, rv wo116] [])) (fun _ hr => XS.ifNo X134.here hx rfl (hb hby at_165) rfl ((if0 _ _).trans (teq (by decide : (0 : Int32) = (0 : Int32))).2) hr) ?_
    refine GoesW.step (T2 := T134) (g2 := (mkF m 169 #[iv p1, .val (.long q1), .second, .val (.long q2), .second, iv p2, iv p3, iv 1, rv b108, rv b112, rv w116, .val (.long (0 : Int64)), .second, rv wo116] [(.int (1 : Int32))])) (fun _ hr => XS.iconst X134.here hx rfl (hb hby at_168) hr) ?_
    refine GoesW.step (T2 := T134) (g2 := (mkF m 173 #[iv p1, .val (.long q1), .second, .val (.long q2), .second, iv p2, iv p3, iv 1, rv b108, rv b112, rv w116, .val (.long (0 : Int64)), .second, rv wo116] [(.int (1 : Int32))])) (fun _ hr => XS.goto X134.here hx rfl (pc0 := 169) (pc' := 173) rfl (hb hby at_169) (by decide) (by decide) hr) ?_
    exact GoesW.ret (v := some (.int (1 : Int32))) X134 Sn116 (by rw [e134]; exact kle116) (by decide) (by decide) (fun h => by rw [Bd.returns] at h; cases h) ⟨rfl, N134⟩ (fun fs hr => retN X134 hx (t := .boolean) Bd.returns (by simp) (hb hby at_173) hr)
set_option maxRecDepth 65536 in
set_option maxHeartbeats 40000000 in
theorem comes_1 {Post : Tables → Env → Array Value → State → Outcome → State → Prop} (hpost : ∀ tb e args s v u, (limb_1_1.after args s (.returned v) u = true ∧ limb_1_2.after args s (.returned v) u = true ∧ True) → FramedW s (.returned v) u (Jvm.fieldLocs frame_1_writes args s ++ Jvm.arrayLocs frame_1_arrays args s ++ Jvm.staticLocs frame_1_statics s) 24 2176 → Post tb e args s (.returned v) u) :
    ArmFor flags0 classFile x code maxLocals ret World_1 tables_1 room_1 Calls_1 rest_1 Pre_1 Post := by
  intro l hfl _ _ p e ha hc hk s m args below hf hA hF happ hP
  obtain ⟨hcalls, hrest, hpre⟩ := hP
  obtain ⟨-, -, -, hnamed, -, -, -, hat⟩ := (Spec.applies_iff hf).mp happ
  obtain ⟨hg, hn⟩ := and_e (Cond.before_iff.mp (show (Jvm.Cond.and given_1 narrow_1).before args s = true from hpre))
  obtain ⟨g1, g2⟩ := and_e hg
  obtain ⟨g3, g4⟩ := and_e g2
  obtain ⟨g5, g6⟩ := and_e g4
  obtain ⟨g7, g8⟩ := and_e g6
  obtain ⟨g9, g10⟩ := and_e g8
  obtain ⟨w0, w1, w2, w3, w4, rfl⟩ : ∃ w0 w1 w2 w3 w4 : Value, args = #[w0, w1, w2, w3, w4] := by
    have hs : args.size = 5 := by simpa [Cond.value, given_1] using g1
    obtain ⟨L⟩ := args
    match L, hs with
    | [w0, w1, w2, w3, w4], _ => exact ⟨w0, w1, w2, w3, w4, rfl⟩
  have hw := fun d (hd : d ∈ tables_1) => atoms_spec (ws := Jvm.Cond.code x code maxLocals ret :: tables_1) hat d (List.mem_cons_of_mem _ hd)
  have hfit : Fit s := fun {y c} hc i hi => by
    obtain ⟨ha, rfl⟩ := Array.getElem?_eq_some_iff.mp hc
    have q := List.all_eq_true.mp ((Array.all_eq_true_iff_forall_mem.mp hF) _ (Array.getElem_mem ha)) i (List.mem_range.mpr hi)
    simpa [Array.getElem?_eq_getElem hi] using q
  obtain ⟨hsets, hown0⟩ := atoms_of _ (rest_1_c_eq ▸ (show rest_1_c.before _ s = true from hrest))
  have hr0 := Cond.before_iff.mp hown0
  obtain ⟨i0, ei0⟩ := is_v g3
  obtain rfl : w0 = (.int i0) := Option.some.inj ei0
  obtain ⟨i1, ei1⟩ := isL_v g5
  obtain rfl : w1 = (.long i1) := Option.some.inj ei1
  obtain ⟨i2, ei2⟩ := isL_v g7
  obtain rfl : w2 = (.long i2) := Option.some.inj ei2
  obtain ⟨i3, ei3⟩ := is_v g9
  obtain rfl : w3 = (.int i3) := Option.some.inj ei3
  obtain ⟨i4, ei4⟩ := is_v g10
  obtain rfl : w4 = (.int i4) := Option.some.inj ei4
  obtain ⟨cs, ev_cs⟩ := is_v (Cond.before_iff.mp (hsets _ (List.mem_of_getElem? (i := 1) rfl)))
  have S_cs := Sta.start ev_cs (Or.inl (hsets _ (List.mem_of_getElem? (i := 0) rfl)))
  have hcs := own_cs ev_cs (Cond.before_iff.mp (hsets _ (List.mem_of_getElem? (i := 2) rfl)))
  obtain ⟨em, ev_em⟩ := exa_v (Cond.before_iff.mp (hsets _ (List.mem_of_getElem? (i := 11) rfl)))
  have S_em := Sta.start ev_em (Or.inl (hsets _ (List.mem_of_getElem? (i := 10) rfl)))
  have E_em := Exa.start ev_em (Cond.before_iff.mp (hsets _ (List.mem_of_getElem? (i := 11) rfl)))
  have Fp_em := own_fint ev_em (Cond.before_iff.mp (hsets _ (List.mem_of_getElem? (i := 12) rfl)))
  have Fv_em := own_flong ev_em (Cond.before_iff.mp (hsets _ (List.mem_of_getElem? (i := 13) rfl)))
  obtain ⟨n, o, h1, h2, h3, _, L, rfl, ⟨rfl, N⟩, hq⟩ := rm_law l s _ hw tables_1 i0 i1 i2 i3 i4 cs em s.heap s.heap.size (Nat.le_refl _) (Old.start s) S_cs S_em E_em Fp_em Fv_em hcs p e ha hc hk s m _ below hf ((Spec.applies_iff_loose hf).mp happ).1 ⟨rfl, State.Warmed39.refl s, rfl⟩ trivial
  refine ⟨n, _, h1, h2, h3, hpost _ _ _ _ _ _ ⟨Cond.after_iff.mpr rfl, Cond.after_iff.mpr (eq_i res_at (Term.int_eval (1)) rfl), trivial⟩ ⟨hq.1, hq.2.1, hq.2.2.1, (hq.2.2.2.sift fun y hy => Or.inr (N y hy)).mono (by decide) (by decide)⟩⟩
theorem main_1_1 : Claimed_1_1 := comes_1 fun _ _ _ _ _ _ h hF => ⟨h.1, hF⟩
theorem main_1_2 : Claimed_1_2 := comes_1 fun _ _ _ _ _ _ h hF => ⟨h.2.1, hF⟩
end Jvm.Pilot.@@N@@
namespace Jvm.Pilot.@@N@@
open Jvm Jvm.ClassFile Sem Op Lib Jvm.Free Jvm.Stand Jvm.Pilot.@@N@@.Jvm.D
/-! MADE BY PROGRAM (witnessworld.py) out of the Statement's table words and the real class files: 21 classes; the members and pool entries that the words name. The judged class is class 1, her method 1. -/
namespace start1
open Jvm.ClassFile
def u (s : String) : CpInfo := .utf8 (stringToUtf16 s)
/-- a pool by its gaps: so many unusable entries, then the entry; so many at the end -/
def gap : Nat → List CpInfo → List CpInfo
  | 0, r => r
  | n + 1, r => .unusable :: gap n r
def poolList (es : List (Nat × CpInfo)) (last : Nat) : List CpInfo := es.foldr (fun e r => gap e.1 (e.2 :: r)) (gap last [])
def pool (es : List (Nat × CpInfo)) (last : Nat) : Array CpInfo := ⟨poolList es last⟩
def fileOf (pool : Array CpInfo) (this : Nat) (attrs : Array Attribute := #[]) (ms : Array MethodInfo := #[]) (fl : Nat := 33) (sup : Nat := 0) (ifs : Array Nat := #[]) (fds : Array FieldInfo := #[]) : ClassFile where
  minorVersion := 0
  majorVersion := 65
  constantPool := pool
  accessFlags := fl
  thisClass := this
  superClass := sup
  interfaces := ifs
  fields := fds
  methods := ms
  attributes := attrs
def plain (name : String) (sup : Option ClassId) : Class where
  name := name
  kind := .ordinary
  loader := none
  accessFlags := 33
  super := sup
  interfaces := #[]
  cf := none
  fields := #[]
  methods := #[]
  instanceTypes := #[]
  staticTypes := #[]
  resolved := #[]
  callSites := []
  init := .initialized
  statics := none
  mirror := none

def pool0 : Array CpInfo := pool [(5, u "<init>"), (0, u "()V"), (1, .class_ 10), (1, u "java/lang/Object")] 113

def k0c0 : Code := { maxStack := 0, maxLocals := 1, code := object_method_1_code, exceptionTable := #[], attributes := #[] }
def k0m0 : Method := { name := "<init>", desc := "()V", sig := { parameters := [], returnType := none }, accessFlags := 1, code := some k0c0 }
/-- java/lang/Object -/
def k0 : Class := { plain "java/lang/Object" none with
  accessFlags := 33
  interfaces := #[]
  cf := some (fileOf pool0 8 #[] #[{ accessFlags := 1, nameIndex := 5, descriptorIndex := 6, attributes := #[] }] 33 0 #[] #[])
  fields := #[]
  methods := #[k0m0]
  instanceTypes := #[]
  staticTypes := #[]
  resolved := Array.replicate 124 none
  statics := none }

def pool1 : Array CpInfo := pool [(2, .class_ 4), (1, u "java/lang/Object"), (0, u "<init>"), (0, u "()V"), (0, .class_ 8), (0, u "java/lang/String"), (0, .methodref 7 10), (0, .nameAndType 5 11), (0, u "([C)V"), (0, .methodref 13 14), (0, .class_ 15), (0, .nameAndType 16 17), (0, u "com/example/log_lag_gauge/loglaggauge/model/PartLooks"), (0, u "one"), (0, u "(Ljava/lang/String;ZJJ)Lcom/example/log_lag_gauge/loglaggauge/model/PartLooks;"), (0, .methodref 13 19), (0, .nameAndType 20 21), (0, u "part"), (0, u "()Ljava/lang/String;"), (0, .methodref 7 23), (0, .nameAndType 24 25), (0, u "equals"), (0, u "(Ljava/lang/Object;)Z"), (0, .methodref 13 27), (0, .nameAndType 28 29), (0, u "succeeded"), (0, u "()Z"), (0, .methodref 13 31), (0, .nameAndType 32 33), (0, u "durationMs"), (0, u "()J"), (0, .methodref 13 35), (0, .nameAndType 36 33), (0, u "looks"), (0, .methodref 13 38), (0, .nameAndType 39 33), (0, u "failures"), (0, .methodref 13 41), (0, .nameAndType 42 43), (0, u "lastSuccessMs"), (0, u "()Ljava/util/OptionalLong;"), (0, .methodref 45 46), (0, .class_ 47), (0, .nameAndType 48 29), (0, u "java/util/OptionalLong"), (0, u "isPresent"), (0, .methodref 45 50), (0, .nameAndType 51 33), (0, u "getAsLong"), (0, .class_ 53), (0, u "com/example/log_lag_gauge/loglaggauge/model/PartLooksOnePinLaw"), (2, u "law"), (0, u "(IJJII)Z")] 5

def k1m0 : Method := { name := "<init>", desc := "()V", sig := { parameters := [], returnType := none }, accessFlags := 1, code := none }
def k1c1 : Code := { maxStack := 6, maxLocals := 14, code := code, exceptionTable := #[], attributes := #[] }
def k1m1 : Method := { name := "law", desc := "(IJJII)Z", sig := { parameters := [.int, .long, .long, .int, .int], returnType := some .boolean }, accessFlags := 9, code := some k1c1 }
/-- com/example/log_lag_gauge/loglaggauge/model/PartLooksOnePinLaw -/
def k1 : Class := { plain "com/example/log_lag_gauge/loglaggauge/model/PartLooksOnePinLaw" (some 0) with
  accessFlags := 49
  interfaces := #[]
  cf := some (fileOf pool1 52 #[] #[{ accessFlags := 1, nameIndex := 5, descriptorIndex := 6, attributes := #[] }, { accessFlags := 9, nameIndex := 56, descriptorIndex := 57, attributes := #[] }] 49 2 #[] #[])
  fields := #[]
  methods := #[k1m0, k1m1]
  instanceTypes := #[]
  staticTypes := #[]
  resolved := Array.replicate 63 none
  statics := none }

def pool2 : Array CpInfo := pool [(1, .class_ 2), (0, u "java/io/Serializable"), (0, .class_ 4), (0, u "java/lang/Object")] 2

/-- java/io/Serializable -/
def k2 : Class := { plain "java/io/Serializable" (some 0) with
  accessFlags := 1537
  interfaces := #[]
  cf := some (fileOf pool2 1 #[] #[] 1537 3 #[] #[])
  fields := #[]
  methods := #[]
  instanceTypes := #[]
  staticTypes := #[]
  resolved := Array.replicate 7 none
  statics := none }

def pool3 : Array CpInfo := pool [(1, .class_ 2), (0, u "java/lang/Comparable"), (0, .class_ 4), (0, u "java/lang/Object")] 7

/-- java/lang/Comparable -/
def k3 : Class := { plain "java/lang/Comparable" (some 0) with
  accessFlags := 1537
  interfaces := #[]
  cf := some (fileOf pool3 1 #[] #[] 1537 3 #[] #[])
  fields := #[]
  methods := #[]
  instanceTypes := #[]
  staticTypes := #[]
  resolved := Array.replicate 12 none
  statics := none }

def pool4 : Array CpInfo := pool [(2, .class_ 4), (1, u "java/lang/CharSequence"), (42, .class_ 48), (0, u "java/lang/CharSequence$1CodePointIterator"), (10, .class_ 60), (0, u "java/lang/CharSequence$1CharIterator"), (5, .class_ 67), (0, u "java/lang/Object")] 63

/-- java/lang/CharSequence -/
def k4 : Class := { plain "java/lang/CharSequence" (some 0) with
  accessFlags := 1537
  interfaces := #[]
  cf := some (fileOf pool4 2 #[.nestMembers #[47, 59]] #[] 1537 66 #[] #[])
  fields := #[]
  methods := #[]
  instanceTypes := #[]
  staticTypes := #[]
  resolved := Array.replicate 131 none
  statics := none }

def pool5 : Array CpInfo := pool [(1, .class_ 2), (0, u "java/lang/constant/Constable"), (0, .class_ 4), (0, u "java/lang/Object")] 6

/-- java/lang/constant/Constable -/
def k5 : Class := { plain "java/lang/constant/Constable" (some 0) with
  accessFlags := 1537
  interfaces := #[]
  cf := some (fileOf pool5 1 #[] #[] 1537 3 #[] #[])
  fields := #[]
  methods := #[]
  instanceTypes := #[]
  staticTypes := #[]
  resolved := Array.replicate 11 none
  statics := none }

def pool6 : Array CpInfo := pool [(1, .class_ 2), (0, u "java/lang/constant/ConstantDesc"), (0, .class_ 4), (0, u "java/lang/Object")] 32

/-- java/lang/constant/ConstantDesc -/
def k6 : Class := { plain "java/lang/constant/ConstantDesc" (some 0) with
  accessFlags := 1537
  interfaces := #[]
  cf := some (fileOf pool6 1 #[] #[] 1537 3 #[] #[])
  fields := #[]
  methods := #[]
  instanceTypes := #[]
  staticTypes := #[]
  resolved := Array.replicate 37 none
  statics := none }

def pool7 : Array CpInfo := pool [(1, .methodref 2 3), (0, .class_ 4), (0, .nameAndType 5 6), (0, u "java/lang/Object"), (0, u "<init>"), (0, u "()V"), (2, .fieldref 10 11), (0, .class_ 12), (0, .nameAndType 13 14), (0, u "java/lang/String"), (0, u "value"), (0, u "[B"), (0, .fieldref 10 16), (0, .nameAndType 17 18), (0, u "coder"), (0, u "B"), (2, u "hash"), (0, u "I"), (2, u "hashIsZero"), (0, u "Z"), (0, .methodref 10 28), (0, .nameAndType 5 29), (0, u "([CIILjava/lang/Void;)V"), (8, .fieldref 10 39), (0, .nameAndType 40 26), (0, u "COMPACT_STRINGS"), (1, .class_ 44), (1, u "java/lang/StringUTF16"), (0, u "compress"), (1, .methodref 42 48), (0, .nameAndType 49 50), (0, u "coderFromArrayLen"), (0, u "([BI)B"), (126, .methodref 42 178), (0, .nameAndType 45 179), (0, u "([CII)[B"), (363, u "equals"), (29, u "(Ljava/lang/Object;)Z"), (1, .class_ 576), (0, u "java/lang/CharSequence"), (22, u "CASE_INSENSITIVE_ORDER"), (0, u "Ljava/util/Comparator;"), (409, u "([C)V"), (90, u "serialPersistentFields"), (0, u "[Ljava/io/ObjectStreamField;"), (0, .class_ 1104), (0, u "java/lang/String$CaseInsensitiveComparator"), (1, .class_ 1107), (0, u "java/io/Serializable"), (0, .class_ 1109), (0, u "java/lang/Comparable"), (0, .class_ 1111), (0, u "java/lang/constant/Constable"), (0, .class_ 1113), (0, u "java/lang/constant/ConstantDesc"), (2, u "serialVersionUID"), (0, u "J"), (3, u "REPL"), (0, u "C"), (2, u "LATIN1"), (1, u "UTF16")] 323

def k7m0 : Method := { name := "<init>", desc := "()V", sig := { parameters := [], returnType := none }, accessFlags := 1, code := none }
def k7c1 : Code := { maxStack := 5, maxLocals := 2, code := jdk_42_method_3_code, exceptionTable := #[], attributes := #[] }
def k7m1 : Method := { name := "<init>", desc := "([C)V", sig := { parameters := [(.array .char)], returnType := none }, accessFlags := 1, code := some k7c1 }
def k7c2 : Code := { maxStack := 2, maxLocals := 3, code := jdk_42_method_66_code, exceptionTable := #[], attributes := #[] }
def k7m2 : Method := { name := "equals", desc := "(Ljava/lang/Object;)Z", sig := { parameters := [(.object "java/lang/Object")], returnType := some .boolean }, accessFlags := 1, code := some k7c2 }
def k7c3 : Code := { maxStack := 4, maxLocals := 6, code := jdk_42_method_149_code, exceptionTable := #[], attributes := #[] }
def k7m3 : Method := { name := "<init>", desc := "([CIILjava/lang/Void;)V", sig := { parameters := [(.array .char), .int, .int, (.object "java/lang/Void")], returnType := none }, accessFlags := 2, code := some k7c3 }
/-- java/lang/String -/
def k7 : Class := { plain "java/lang/String" (some 0) with
  accessFlags := 49
  interfaces := #[2, 3, 4, 5, 6]
  cf := some (fileOf pool7 10 #[.nestMembers #[1103]] #[{ accessFlags := 1, nameIndex := 5, descriptorIndex := 6, attributes := #[] }, { accessFlags := 1, nameIndex := 5, descriptorIndex := 1010, attributes := #[] }, { accessFlags := 1, nameIndex := 543, descriptorIndex := 573, attributes := #[] }, { accessFlags := 2, nameIndex := 5, descriptorIndex := 29, attributes := #[] }] 49 2 #[1106, 1108, 575, 1110, 1112] #[{ accessFlags := 18, nameIndex := 13, descriptorIndex := 14, attributes := #[] }, { accessFlags := 18, nameIndex := 17, descriptorIndex := 18, attributes := #[] }, { accessFlags := 2, nameIndex := 21, descriptorIndex := 22, attributes := #[] }, { accessFlags := 2, nameIndex := 25, descriptorIndex := 26, attributes := #[] }, { accessFlags := 26, nameIndex := 1116, descriptorIndex := 1117, attributes := #[] }, { accessFlags := 24, nameIndex := 40, descriptorIndex := 26, attributes := #[] }, { accessFlags := 26, nameIndex := 1101, descriptorIndex := 1102, attributes := #[] }, { accessFlags := 26, nameIndex := 1121, descriptorIndex := 1122, attributes := #[] }, { accessFlags := 25, nameIndex := 599, descriptorIndex := 600, attributes := #[] }, { accessFlags := 24, nameIndex := 1125, descriptorIndex := 18, attributes := #[] }, { accessFlags := 24, nameIndex := 1127, descriptorIndex := 18, attributes := #[] }])
  fields := #[{ name := "value", type := (.array .byte), accessFlags := 18, slot := 0, constantValue := 0 }, { name := "coder", type := .byte, accessFlags := 18, slot := 1, constantValue := 0 }, { name := "hash", type := .int, accessFlags := 2, slot := 2, constantValue := 0 }, { name := "hashIsZero", type := .boolean, accessFlags := 2, slot := 3, constantValue := 0 }, { name := "serialVersionUID", type := .long, accessFlags := 26, slot := 0, constantValue := 0 }, { name := "COMPACT_STRINGS", type := .boolean, accessFlags := 24, slot := 1, constantValue := 0 }, { name := "serialPersistentFields", type := (.array (.object "java/io/ObjectStreamField")), accessFlags := 26, slot := 2, constantValue := 0 }, { name := "REPL", type := .char, accessFlags := 26, slot := 3, constantValue := 0 }, { name := "CASE_INSENSITIVE_ORDER", type := (.object "java/util/Comparator"), accessFlags := 25, slot := 4, constantValue := 0 }, { name := "LATIN1", type := .byte, accessFlags := 24, slot := 5, constantValue := 0 }, { name := "UTF16", type := .byte, accessFlags := 24, slot := 6, constantValue := 0 }]
  methods := #[k7m0, k7m1, k7m2, k7m3]
  instanceTypes := #[(.array .byte), .byte, .int, .boolean]
  staticTypes := #[.long, .boolean, (.array (.object "java/io/ObjectStreamField")), .char, (.object "java/util/Comparator"), .byte, .byte]
  resolved := Array.replicate 1451 none
  statics := some 0 }

def pool8 : Array CpInfo := pool [(6, .class_ 8), (1, u "java/lang/Object"), (0, u "<init>"), (0, u "()V"), (1, .class_ 14), (1, u "java/lang/StringUTF16"), (31, u "$assertionsDisabled"), (0, u "Z"), (13, u "HI_BYTE_SHIFT"), (0, u "I"), (2, u "LO_BYTE_SHIFT"), (49, .methodref 12 116), (0, .nameAndType 117 118), (0, u "compress"), (0, u "([CI[BII)I"), (3, u "([CII)[B"), (138, u "coderFromArrayLen"), (0, u "([BI)B"), (106, .class_ 371), (1, u "java/lang/StringUTF16$LinesSpliterator"), (58, u "MAX_LENGTH"), (196, .class_ 628), (0, u "java/lang/StringUTF16$CodePointsSpliterator"), (0, .class_ 630), (0, u "java/lang/StringUTF16$CharsSpliterator")] 4

def k8m0 : Method := { name := "<init>", desc := "()V", sig := { parameters := [], returnType := none }, accessFlags := 0, code := none }
def k8c1 : Code := { maxStack := 2, maxLocals := 2, code := jdk_52_method_15_code, exceptionTable := #[], attributes := #[] }
def k8m1 : Method := { name := "coderFromArrayLen", desc := "([BI)B", sig := { parameters := [(.array .byte), .int], returnType := some .byte }, accessFlags := 8, code := some k8c1 }
def k8c2 : Code := { maxStack := 5, maxLocals := 6, code := jdk_52_method_16_code, exceptionTable := #[], attributes := #[] }
def k8m2 : Method := { name := "compress", desc := "([CII)[B", sig := { parameters := [(.array .char), .int, .int], returnType := some (.array .byte) }, accessFlags := 9, code := some k8c2 }
def k8c3 : Code := { maxStack := 3, maxLocals := 7, code := jdk_52_method_21_code, exceptionTable := #[], attributes := #[] }
def k8m3 : Method := { name := "compress", desc := "([CI[BII)I", sig := { parameters := [(.array .char), .int, (.array .byte), .int, .int], returnType := some .int }, accessFlags := 9, code := some k8c3 }
/-- java/lang/StringUTF16 -/
def k8 : Class := { plain "java/lang/StringUTF16" (some 0) with
  accessFlags := 48
  interfaces := #[]
  cf := some (fileOf pool8 12 #[.nestMembers #[627, 629, 369]] #[{ accessFlags := 0, nameIndex := 9, descriptorIndex := 10, attributes := #[] }, { accessFlags := 8, nameIndex := 261, descriptorIndex := 262, attributes := #[] }, { accessFlags := 9, nameIndex := 117, descriptorIndex := 122, attributes := #[] }, { accessFlags := 9, nameIndex := 117, descriptorIndex := 118, attributes := #[] }] 48 6 #[] #[{ accessFlags := 26, nameIndex := 61, descriptorIndex := 62, attributes := #[] }, { accessFlags := 26, nameIndex := 65, descriptorIndex := 62, attributes := #[] }, { accessFlags := 24, nameIndex := 430, descriptorIndex := 62, attributes := #[] }, { accessFlags := 4120, nameIndex := 46, descriptorIndex := 47, attributes := #[] }])
  fields := #[{ name := "HI_BYTE_SHIFT", type := .int, accessFlags := 26, slot := 0, constantValue := 0 }, { name := "LO_BYTE_SHIFT", type := .int, accessFlags := 26, slot := 1, constantValue := 0 }, { name := "MAX_LENGTH", type := .int, accessFlags := 24, slot := 2, constantValue := 0 }, { name := "$assertionsDisabled", type := .boolean, accessFlags := 4120, slot := 3, constantValue := 0 }]
  methods := #[k8m0, k8m1, k8m2, k8m3]
  instanceTypes := #[]
  staticTypes := #[.int, .int, .int, .boolean]
  resolved := Array.replicate 635 none
  statics := none }

def pool9 : Array CpInfo := pool [(1, .methodref 2 3), (0, .class_ 4), (0, .nameAndType 5 6), (0, u "java/lang/Object"), (0, u "<init>"), (0, u "()V"), (0, .class_ 8), (0, u "java/lang/Record")] 13

def k9c0 : Code := { maxStack := 1, maxLocals := 1, code := jdk_30_method_1_code, exceptionTable := #[], attributes := #[] }
def k9m0 : Method := { name := "<init>", desc := "()V", sig := { parameters := [], returnType := none }, accessFlags := 4, code := some k9c0 }
/-- java/lang/Record -/
def k9 : Class := { plain "java/lang/Record" (some 0) with
  accessFlags := 1057
  interfaces := #[]
  cf := some (fileOf pool9 7 #[] #[{ accessFlags := 4, nameIndex := 5, descriptorIndex := 6, attributes := #[] }] 1057 2 #[] #[])
  fields := #[]
  methods := #[k9m0]
  instanceTypes := #[]
  staticTypes := #[]
  resolved := Array.replicate 22 none
  statics := none }

def pool10 : Array CpInfo := pool [(1, .methodref 2 3), (0, .class_ 4), (0, .nameAndType 5 6), (0, u "java/lang/Record"), (0, u "<init>"), (0, u "()V"), (0, .string 8), (0, u "part"), (0, .methodref 10 11), (0, .class_ 12), (0, .nameAndType 13 14), (0, u "java/util/Objects"), (0, u "requireNonNull"), (0, u "(Ljava/lang/Object;Ljava/lang/String;)Ljava/lang/Object;"), (0, .string 16), (0, u "lastSuccessMs"), (0, .fieldref 18 19), (0, .class_ 20), (0, .nameAndType 8 21), (0, u "com/example/log_lag_gauge/loglaggauge/model/PartLooks"), (0, u "Ljava/lang/String;"), (0, .fieldref 18 23), (0, .nameAndType 24 25), (0, u "succeeded"), (0, u "Z"), (0, .fieldref 18 27), (0, .nameAndType 28 29), (0, u "durationMs"), (0, u "J"), (0, .fieldref 18 31), (0, .nameAndType 16 32), (0, u "Ljava/util/OptionalLong;"), (0, .fieldref 18 34), (0, .nameAndType 35 29), (0, u "looks"), (0, .fieldref 18 37), (0, .nameAndType 38 29), (0, u "failures"), (0, .methodref 40 41), (0, .class_ 42), (0, .nameAndType 43 44), (0, u "java/util/OptionalLong"), (0, u "of"), (0, u "(J)Ljava/util/OptionalLong;"), (0, .methodref 40 46), (0, .nameAndType 47 48), (0, u "empty"), (0, u "()Ljava/util/OptionalLong;"), (0, .methodref 18 50), (0, .nameAndType 5 51), (0, u "(Ljava/lang/String;ZJLjava/util/OptionalLong;JJ)V"), (5, u "()Z"), (4, u "()J"), (19, u "one"), (0, u "(Ljava/lang/String;ZJJ)Lcom/example/log_lag_gauge/loglaggauge/model/PartLooks;"), (3, u "()Ljava/lang/String;")] 27

def k10c0 : Code := { maxStack := 3, maxLocals := 10, code := prog_11_method_1_code, exceptionTable := #[], attributes := #[] }
def k10m0 : Method := { name := "<init>", desc := "(Ljava/lang/String;ZJLjava/util/OptionalLong;JJ)V", sig := { parameters := [(.object "java/lang/String"), .boolean, .long, (.object "java/util/OptionalLong"), .long, .long], returnType := none }, accessFlags := 1, code := some k10c0 }
def k10c1 : Code := { maxStack := 11, maxLocals := 9, code := prog_11_method_2_code, exceptionTable := #[], attributes := #[] }
def k10m1 : Method := { name := "one", desc := "(Ljava/lang/String;ZJJ)Lcom/example/log_lag_gauge/loglaggauge/model/PartLooks;", sig := { parameters := [(.object "java/lang/String"), .boolean, .long, .long], returnType := some (.object "com/example/log_lag_gauge/loglaggauge/model/PartLooks") }, accessFlags := 9, code := some k10c1 }
def k10c2 : Code := { maxStack := 1, maxLocals := 1, code := prog_11_method_7_code, exceptionTable := #[], attributes := #[] }
def k10m2 : Method := { name := "part", desc := "()Ljava/lang/String;", sig := { parameters := [], returnType := some (.object "java/lang/String") }, accessFlags := 1, code := some k10c2 }
def k10c3 : Code := { maxStack := 1, maxLocals := 1, code := prog_11_method_8_code, exceptionTable := #[], attributes := #[] }
def k10m3 : Method := { name := "succeeded", desc := "()Z", sig := { parameters := [], returnType := some .boolean }, accessFlags := 1, code := some k10c3 }
def k10c4 : Code := { maxStack := 2, maxLocals := 1, code := prog_11_method_9_code, exceptionTable := #[], attributes := #[] }
def k10m4 : Method := { name := "durationMs", desc := "()J", sig := { parameters := [], returnType := some .long }, accessFlags := 1, code := some k10c4 }
def k10c5 : Code := { maxStack := 1, maxLocals := 1, code := prog_11_method_10_code, exceptionTable := #[], attributes := #[] }
def k10m5 : Method := { name := "lastSuccessMs", desc := "()Ljava/util/OptionalLong;", sig := { parameters := [], returnType := some (.object "java/util/OptionalLong") }, accessFlags := 1, code := some k10c5 }
def k10c6 : Code := { maxStack := 2, maxLocals := 1, code := prog_11_method_11_code, exceptionTable := #[], attributes := #[] }
def k10m6 : Method := { name := "looks", desc := "()J", sig := { parameters := [], returnType := some .long }, accessFlags := 1, code := some k10c6 }
def k10c7 : Code := { maxStack := 2, maxLocals := 1, code := prog_11_method_12_code, exceptionTable := #[], attributes := #[] }
def k10m7 : Method := { name := "failures", desc := "()J", sig := { parameters := [], returnType := some .long }, accessFlags := 1, code := some k10c7 }
/-- com/example/log_lag_gauge/loglaggauge/model/PartLooks -/
def k10 : Class := { plain "com/example/log_lag_gauge/loglaggauge/model/PartLooks" (some 9) with
  accessFlags := 49
  interfaces := #[]
  cf := some (fileOf pool10 18 #[] #[{ accessFlags := 1, nameIndex := 5, descriptorIndex := 51, attributes := #[] }, { accessFlags := 9, nameIndex := 82, descriptorIndex := 83, attributes := #[] }, { accessFlags := 1, nameIndex := 8, descriptorIndex := 87, attributes := #[] }, { accessFlags := 1, nameIndex := 24, descriptorIndex := 57, attributes := #[] }, { accessFlags := 1, nameIndex := 28, descriptorIndex := 62, attributes := #[] }, { accessFlags := 1, nameIndex := 16, descriptorIndex := 48, attributes := #[] }, { accessFlags := 1, nameIndex := 35, descriptorIndex := 62, attributes := #[] }, { accessFlags := 1, nameIndex := 38, descriptorIndex := 62, attributes := #[] }] 49 2 #[] #[{ accessFlags := 18, nameIndex := 8, descriptorIndex := 21, attributes := #[] }, { accessFlags := 18, nameIndex := 24, descriptorIndex := 25, attributes := #[] }, { accessFlags := 18, nameIndex := 28, descriptorIndex := 29, attributes := #[] }, { accessFlags := 18, nameIndex := 16, descriptorIndex := 32, attributes := #[] }, { accessFlags := 18, nameIndex := 35, descriptorIndex := 29, attributes := #[] }, { accessFlags := 18, nameIndex := 38, descriptorIndex := 29, attributes := #[] }])
  fields := #[{ name := "part", type := (.object "java/lang/String"), accessFlags := 18, slot := 0, constantValue := 0 }, { name := "succeeded", type := .boolean, accessFlags := 18, slot := 1, constantValue := 0 }, { name := "durationMs", type := .long, accessFlags := 18, slot := 2, constantValue := 0 }, { name := "lastSuccessMs", type := (.object "java/util/OptionalLong"), accessFlags := 18, slot := 3, constantValue := 0 }, { name := "looks", type := .long, accessFlags := 18, slot := 4, constantValue := 0 }, { name := "failures", type := .long, accessFlags := 18, slot := 5, constantValue := 0 }]
  methods := #[k10m0, k10m1, k10m2, k10m3, k10m4, k10m5, k10m6, k10m7]
  instanceTypes := #[(.object "java/lang/String"), .boolean, .long, (.object "java/util/OptionalLong"), .long, .long]
  staticTypes := #[]
  resolved := Array.replicate 115 none
  statics := none }

def pool11 : Array CpInfo := pool [(1, .methodref 2 3), (0, .class_ 4), (0, .nameAndType 5 6), (0, u "java/lang/Object"), (0, u "<init>"), (0, u "()V"), (0, .fieldref 8 9), (0, .class_ 10), (0, .nameAndType 11 12), (0, u "java/util/OptionalLong"), (0, u "isPresent"), (0, u "Z"), (0, .fieldref 8 14), (0, .nameAndType 15 16), (0, u "value"), (0, u "J"), (0, .fieldref 8 18), (0, .nameAndType 19 20), (0, u "EMPTY"), (0, u "Ljava/util/OptionalLong;"), (0, .methodref 8 22), (0, .nameAndType 5 23), (0, u "(J)V"), (21, u "of"), (3, u "empty"), (5, u "getAsLong"), (0, u "()J"), (39, u "()Ljava/util/OptionalLong;"), (0, u "(J)Ljava/util/OptionalLong;"), (1, u "()Z")] 38

def k11m0 : Method := { name := "<init>", desc := "()V", sig := { parameters := [], returnType := none }, accessFlags := 2, code := none }
def k11c1 : Code := { maxStack := 1, maxLocals := 0, code := jdk_2650_method_2_code, exceptionTable := #[], attributes := #[] }
def k11m1 : Method := { name := "empty", desc := "()Ljava/util/OptionalLong;", sig := { parameters := [], returnType := some (.object "java/util/OptionalLong") }, accessFlags := 9, code := some k11c1 }
def k11c2 : Code := { maxStack := 3, maxLocals := 3, code := jdk_2650_method_3_code, exceptionTable := #[], attributes := #[] }
def k11m2 : Method := { name := "<init>", desc := "(J)V", sig := { parameters := [.long], returnType := none }, accessFlags := 2, code := some k11c2 }
def k11c3 : Code := { maxStack := 4, maxLocals := 2, code := jdk_2650_method_4_code, exceptionTable := #[], attributes := #[] }
def k11m3 : Method := { name := "of", desc := "(J)Ljava/util/OptionalLong;", sig := { parameters := [.long], returnType := some (.object "java/util/OptionalLong") }, accessFlags := 9, code := some k11c3 }
def k11c4 : Code := { maxStack := 3, maxLocals := 1, code := jdk_2650_method_5_code, exceptionTable := #[], attributes := #[] }
def k11m4 : Method := { name := "getAsLong", desc := "()J", sig := { parameters := [], returnType := some .long }, accessFlags := 1, code := some k11c4 }
def k11c5 : Code := { maxStack := 1, maxLocals := 1, code := jdk_2650_method_6_code, exceptionTable := #[], attributes := #[] }
def k11m5 : Method := { name := "isPresent", desc := "()Z", sig := { parameters := [], returnType := some .boolean }, accessFlags := 1, code := some k11c5 }
/-- java/util/OptionalLong -/
def k11 : Class := { plain "java/util/OptionalLong" (some 0) with
  accessFlags := 49
  interfaces := #[]
  cf := some (fileOf pool11 8 #[] #[{ accessFlags := 2, nameIndex := 5, descriptorIndex := 6, attributes := #[] }, { accessFlags := 9, nameIndex := 49, descriptorIndex := 96, attributes := #[] }, { accessFlags := 2, nameIndex := 5, descriptorIndex := 23, attributes := #[] }, { accessFlags := 9, nameIndex := 45, descriptorIndex := 97, attributes := #[] }, { accessFlags := 1, nameIndex := 55, descriptorIndex := 56, attributes := #[] }, { accessFlags := 1, nameIndex := 11, descriptorIndex := 99, attributes := #[] }] 49 2 #[] #[{ accessFlags := 26, nameIndex := 19, descriptorIndex := 20, attributes := #[] }, { accessFlags := 18, nameIndex := 11, descriptorIndex := 12, attributes := #[] }, { accessFlags := 18, nameIndex := 15, descriptorIndex := 16, attributes := #[] }])
  fields := #[{ name := "EMPTY", type := (.object "java/util/OptionalLong"), accessFlags := 26, slot := 0, constantValue := 0 }, { name := "isPresent", type := .boolean, accessFlags := 18, slot := 0, constantValue := 0 }, { name := "value", type := .long, accessFlags := 18, slot := 1, constantValue := 0 }]
  methods := #[k11m0, k11m1, k11m2, k11m3, k11m4, k11m5]
  instanceTypes := #[.boolean, .long]
  staticTypes := #[(.object "java/util/OptionalLong")]
  resolved := Array.replicate 138 none
  statics := some 1 }

def pool12 : Array CpInfo := pool [(2, .class_ 4), (1, u "java/lang/Object"), (0, u "<init>"), (0, u "()V"), (35, .class_ 44), (1, u "java/util/Objects"), (0, u "requireNonNull"), (48, u "(Ljava/lang/Object;Ljava/lang/String;)Ljava/lang/Object;")] 89

def k12m0 : Method := { name := "<init>", desc := "()V", sig := { parameters := [], returnType := none }, accessFlags := 2, code := none }
def k12c1 : Code := { maxStack := 3, maxLocals := 2, code := jdk_31_method_11_code, exceptionTable := #[], attributes := #[] }
def k12m1 : Method := { name := "requireNonNull", desc := "(Ljava/lang/Object;Ljava/lang/String;)Ljava/lang/Object;", sig := { parameters := [(.object "java/lang/Object"), (.object "java/lang/String")], returnType := some (.object "java/lang/Object") }, accessFlags := 9, code := some k12c1 }
/-- java/util/Objects -/
def k12 : Class := { plain "java/util/Objects" (some 0) with
  accessFlags := 49
  interfaces := #[]
  cf := some (fileOf pool12 42 #[] #[{ accessFlags := 2, nameIndex := 5, descriptorIndex := 6, attributes := #[] }, { accessFlags := 9, nameIndex := 45, descriptorIndex := 94, attributes := #[] }] 49 2 #[] #[])
  fields := #[]
  methods := #[k12m0, k12m1]
  instanceTypes := #[]
  staticTypes := #[]
  resolved := Array.replicate 184 none
  statics := none }

def pool13 : Array CpInfo := pool [(4, .class_ 6), (1, u "java/lang/Object"), (0, u "<init>"), (0, u "()V"), (5, .class_ 16), (1, u "java/lang/StringLatin1"), (104, u "$assertionsDisabled"), (0, u "Z"), (98, .class_ 223), (1, u "java/lang/StringLatin1$LinesSpliterator"), (166, .class_ 391), (0, u "java/lang/StringLatin1$CharsSpliterator")] 3

def k13m0 : Method := { name := "<init>", desc := "()V", sig := { parameters := [], returnType := none }, accessFlags := 0, code := none }
/-- java/lang/StringLatin1 -/
def k13 : Class := { plain "java/lang/StringLatin1" (some 0) with
  accessFlags := 48
  interfaces := #[]
  cf := some (fileOf pool13 14 #[.nestMembers #[390, 221]] #[{ accessFlags := 0, nameIndex := 7, descriptorIndex := 8, attributes := #[] }] 48 4 #[] #[{ accessFlags := 4120, nameIndex := 121, descriptorIndex := 122, attributes := #[] }])
  fields := #[{ name := "$assertionsDisabled", type := .boolean, accessFlags := 4120, slot := 0, constantValue := 0 }]
  methods := #[k13m0]
  instanceTypes := #[]
  staticTypes := #[.boolean]
  resolved := Array.replicate 395 none
  statics := none }

def pool14 : Array CpInfo := pool [(2, .class_ 4), (1, u "java/lang/Object"), (0, u "<init>"), (0, u "()V"), (17, .class_ 26), (1, u "jdk/internal/util/Preconditions"), (28, .class_ 56), (0, u "jdk/internal/util/Preconditions$4"), (57, .class_ 115), (0, u "jdk/internal/util/Preconditions$1"), (7, u "SIOOBE_FORMATTER"), (0, u "Ljava/util/function/BiFunction;"), (0, .class_ 126), (0, u "jdk/internal/util/Preconditions$2"), (3, u "AIOOBE_FORMATTER"), (0, .class_ 132), (0, u "jdk/internal/util/Preconditions$3"), (3, u "IOOBE_FORMATTER")] 57

def k14m0 : Method := { name := "<init>", desc := "()V", sig := { parameters := [], returnType := none }, accessFlags := 1, code := none }
/-- jdk/internal/util/Preconditions -/
def k14 : Class := { plain "jdk/internal/util/Preconditions" (some 0) with
  accessFlags := 33
  interfaces := #[]
  cf := some (fileOf pool14 24 #[.nestMembers #[55, 131, 125, 114]] #[{ accessFlags := 1, nameIndex := 5, descriptorIndex := 6, attributes := #[] }] 33 2 #[] #[{ accessFlags := 25, nameIndex := 123, descriptorIndex := 124, attributes := #[] }, { accessFlags := 25, nameIndex := 130, descriptorIndex := 124, attributes := #[] }, { accessFlags := 25, nameIndex := 136, descriptorIndex := 124, attributes := #[] }])
  fields := #[{ name := "SIOOBE_FORMATTER", type := (.object "java/util/function/BiFunction"), accessFlags := 25, slot := 0, constantValue := 0 }, { name := "AIOOBE_FORMATTER", type := (.object "java/util/function/BiFunction"), accessFlags := 25, slot := 1, constantValue := 0 }, { name := "IOOBE_FORMATTER", type := (.object "java/util/function/BiFunction"), accessFlags := 25, slot := 2, constantValue := 0 }]
  methods := #[k14m0]
  instanceTypes := #[]
  staticTypes := #[(.object "java/util/function/BiFunction"), (.object "java/util/function/BiFunction"), (.object "java/util/function/BiFunction")]
  resolved := Array.replicate 194 none
  statics := some 2 }

def pool15 : Array CpInfo := pool [(9, u "<init>"), (6, .class_ 18), (1, u "java/lang/Object"), (0, u "()V"), (1, .class_ 23), (1, u "jdk/internal/util/ArraysSupport"), (0, u "LOG2_ARRAY_LONG_INDEX_SCALE"), (0, u "I"), (2, u "U"), (0, u "Ljdk/internal/misc/Unsafe;"), (8, u "BIG_ENDIAN"), (0, u "Z"), (8, u "LOG2_BYTE_BIT_SIZE"), (4, u "LOG2_ARRAY_INT_INDEX_SCALE"), (54, u "JLA"), (0, u "Ljdk/internal/access/JavaLangAccess;"), (11, u "LOG2_ARRAY_BOOLEAN_INDEX_SCALE"), (9, u "LOG2_ARRAY_BYTE_INDEX_SCALE"), (5, u "LOG2_ARRAY_CHAR_INDEX_SCALE"), (5, u "LOG2_ARRAY_SHORT_INDEX_SCALE"), (18, u "LOG2_ARRAY_FLOAT_INDEX_SCALE"), (24, u "LOG2_ARRAY_DOUBLE_INDEX_SCALE"), (89, u "T_BOOLEAN"), (2, u "T_CHAR"), (1, u "T_FLOAT"), (1, u "T_DOUBLE"), (1, u "T_BYTE"), (1, u "T_SHORT"), (1, u "T_INT"), (1, u "T_LONG"), (1, u "SOFT_MAX_ARRAY_LENGTH")] 83

def k15m0 : Method := { name := "<init>", desc := "()V", sig := { parameters := [], returnType := none }, accessFlags := 2, code := none }
/-- jdk/internal/util/ArraysSupport -/
def k15 : Class := { plain "jdk/internal/util/ArraysSupport" (some 0) with
  accessFlags := 33
  interfaces := #[]
  cf := some (fileOf pool15 21 #[] #[{ accessFlags := 2, nameIndex := 9, descriptorIndex := 19, attributes := #[] }] 33 16 #[] #[{ accessFlags := 24, nameIndex := 28, descriptorIndex := 29, attributes := #[] }, { accessFlags := 26, nameIndex := 38, descriptorIndex := 39, attributes := #[] }, { accessFlags := 25, nameIndex := 121, descriptorIndex := 25, attributes := #[] }, { accessFlags := 25, nameIndex := 131, descriptorIndex := 25, attributes := #[] }, { accessFlags := 25, nameIndex := 137, descriptorIndex := 25, attributes := #[] }, { accessFlags := 25, nameIndex := 143, descriptorIndex := 25, attributes := #[] }, { accessFlags := 25, nameIndex := 53, descriptorIndex := 25, attributes := #[] }, { accessFlags := 25, nameIndex := 24, descriptorIndex := 25, attributes := #[] }, { accessFlags := 25, nameIndex := 162, descriptorIndex := 25, attributes := #[] }, { accessFlags := 25, nameIndex := 187, descriptorIndex := 25, attributes := #[] }, { accessFlags := 26, nameIndex := 48, descriptorIndex := 25, attributes := #[] }, { accessFlags := 25, nameIndex := 277, descriptorIndex := 25, attributes := #[] }, { accessFlags := 25, nameIndex := 280, descriptorIndex := 25, attributes := #[] }, { accessFlags := 25, nameIndex := 282, descriptorIndex := 25, attributes := #[] }, { accessFlags := 25, nameIndex := 284, descriptorIndex := 25, attributes := #[] }, { accessFlags := 25, nameIndex := 286, descriptorIndex := 25, attributes := #[] }, { accessFlags := 25, nameIndex := 288, descriptorIndex := 25, attributes := #[] }, { accessFlags := 25, nameIndex := 290, descriptorIndex := 25, attributes := #[] }, { accessFlags := 25, nameIndex := 292, descriptorIndex := 25, attributes := #[] }, { accessFlags := 26, nameIndex := 108, descriptorIndex := 109, attributes := #[] }, { accessFlags := 25, nameIndex := 294, descriptorIndex := 25, attributes := #[] }])
  fields := #[{ name := "U", type := (.object "jdk/internal/misc/Unsafe"), accessFlags := 24, slot := 0, constantValue := 0 }, { name := "BIG_ENDIAN", type := .boolean, accessFlags := 26, slot := 1, constantValue := 0 }, { name := "LOG2_ARRAY_BOOLEAN_INDEX_SCALE", type := .int, accessFlags := 25, slot := 2, constantValue := 0 }, { name := "LOG2_ARRAY_BYTE_INDEX_SCALE", type := .int, accessFlags := 25, slot := 3, constantValue := 0 }, { name := "LOG2_ARRAY_CHAR_INDEX_SCALE", type := .int, accessFlags := 25, slot := 4, constantValue := 0 }, { name := "LOG2_ARRAY_SHORT_INDEX_SCALE", type := .int, accessFlags := 25, slot := 5, constantValue := 0 }, { name := "LOG2_ARRAY_INT_INDEX_SCALE", type := .int, accessFlags := 25, slot := 6, constantValue := 0 }, { name := "LOG2_ARRAY_LONG_INDEX_SCALE", type := .int, accessFlags := 25, slot := 7, constantValue := 0 }, { name := "LOG2_ARRAY_FLOAT_INDEX_SCALE", type := .int, accessFlags := 25, slot := 8, constantValue := 0 }, { name := "LOG2_ARRAY_DOUBLE_INDEX_SCALE", type := .int, accessFlags := 25, slot := 9, constantValue := 0 }, { name := "LOG2_BYTE_BIT_SIZE", type := .int, accessFlags := 26, slot := 10, constantValue := 0 }, { name := "T_BOOLEAN", type := .int, accessFlags := 25, slot := 11, constantValue := 0 }, { name := "T_CHAR", type := .int, accessFlags := 25, slot := 12, constantValue := 0 }, { name := "T_FLOAT", type := .int, accessFlags := 25, slot := 13, constantValue := 0 }, { name := "T_DOUBLE", type := .int, accessFlags := 25, slot := 14, constantValue := 0 }, { name := "T_BYTE", type := .int, accessFlags := 25, slot := 15, constantValue := 0 }, { name := "T_SHORT", type := .int, accessFlags := 25, slot := 16, constantValue := 0 }, { name := "T_INT", type := .int, accessFlags := 25, slot := 17, constantValue := 0 }, { name := "T_LONG", type := .int, accessFlags := 25, slot := 18, constantValue := 0 }, { name := "JLA", type := (.object "jdk/internal/access/JavaLangAccess"), accessFlags := 26, slot := 19, constantValue := 0 }, { name := "SOFT_MAX_ARRAY_LENGTH", type := .int, accessFlags := 25, slot := 20, constantValue := 0 }]
  methods := #[k15m0]
  instanceTypes := #[]
  staticTypes := #[(.object "jdk/internal/misc/Unsafe"), .boolean, .int, .int, .int, .int, .int, .int, .int, .int, .int, .int, .int, .int, .int, .int, .int, .int, .int, (.object "jdk/internal/access/JavaLangAccess"), .int]
  resolved := Array.replicate 378 none
  statics := none }

def pool16 : Array CpInfo := pool [(1, u "java/lang/Cloneable"), (0, .class_ 1), (0, u "java/lang/Object"), (0, .class_ 3)] 3

/-- java/lang/Cloneable -/
def k16 : Class := { plain "java/lang/Cloneable" (some 0) with
  accessFlags := 1537
  interfaces := #[]
  cf := some (fileOf pool16 2 #[] #[] 1537 4 #[] #[])
  fields := #[]
  methods := #[]
  instanceTypes := #[]
  staticTypes := #[]
  resolved := Array.replicate 8 none
  statics := none }

/-- the primitive byte -/
def k17 : Class := { plain "byte" none with kind := .primitive 'B', accessFlags := 0x411 }
/-- [B -/
def k18 : Class := { plain "[B" (some 0) with kind := .array 17 .byte, interfaces := #[16, 2], accessFlags := 1041 }

/-- the primitive char -/
def k19 : Class := { plain "char" none with kind := .primitive 'C', accessFlags := 0x411 }
/-- [C -/
def k20 : Class := { plain "[C" (some 0) with kind := .array 19 .char, interfaces := #[16, 2], accessFlags := 1041 }

def heap : Heap := #[{ cls := 7, slots := #[.long 0, .int 1, .null, .int 0, .null, .int 0, .int 0], vm := .statics 7 },
  { cls := 11, slots := #[.ref 3], vm := .statics 11 },
  { cls := 14, slots := #[.null, .null, .null], vm := .statics 14 },
  { cls := 11, slots := #[.int 0, .long 0], vm := .none }]
def classes : Array Class := #[k0, k1, k2, k3, k4, k5, k6, k7, k8, k9, k10, k11, k12, k13, k14, k15, k16, k17, k18, k19, k20]
def interned : List (Array UInt16 × Addr) := []
def slotsUsed : Nat := 13
def theMethod : MethodId := ⟨1, 1⟩
def args0 : Array Value := #[.int 5, .long 7, .long 9, .int 65, .int 66]
def aboutOver (below : List Frame) : State where
  vm := { classes := classes, interned := interned.toArray }
  heap := heap
  slotsUsed := slotsUsed
  threads := #[{ frames := .invoking theMethod args0 :: below }]
def below0 : List Frame := [.native { method := ⟨0, 0⟩, args := #[] }]
def about1 : State := aboutOver below0
def p0 : Program := .bare "" "" ""
def e0 : Env := launch0.env 0 0 0
theorem w_frames : about1.frames = Frame.invoking theMethod args0 :: below0 := rfl
set_option maxRecDepth 65536 in
theorem w_args : argsFit about1.vm theMethod args0 = true := by decide +kernel
set_option maxRecDepth 65536 in
theorem w_heap : heapFits about1 = true := by decide +kernel
set_option maxRecDepth 65536 in
theorem w_runnable : about1.curStatus? = some .runnable := by decide +kernel
set_option maxRecDepth 65536 in
theorem w_alone : about1.alone = true := by decide +kernel
set_option maxRecDepth 65536 in
theorem w_named : about1.methodNamed? x = some theMethod := by decide +kernel
set_option maxRecDepth 65536 in
theorem w_hears : about1.hears theMethod below0 = true := by decide +kernel
set_option maxRecDepth 65536 in
theorem w_ripe : about1.ripe theMethod args0 below0 = true := by decide +kernel
theorem w_running : about1.status = .running := rfl
set_option maxRecDepth 65536 in
theorem w_room : about1.hasRoom e0.platform room_1 = true :=
  launch0.hasRoom_least _ room_1 (by decide +kernel) (by decide +kernel) (by decide +kernel) (by decide +kernel) (by decide +kernel) (by decide +kernel)
theorem allAtoms_all (ts : List Jvm.Cond) (a : Array Jvm.Value) (st : Jvm.State) : (allAtoms ts).before a st = ts.all (fun c => c.before a st) := by
  induction ts with
  | nil => rfl
  | cons c t ih =>
    show (Jvm.Cond.and c (allAtoms t)).before a st = _
    rw [Jvm.Cond.before_and, ih, List.all_cons]
def words1 : List Jvm.Cond := Jvm.Cond.code x code maxLocals ret :: tables_1
/-- a 'code' word, met by the world's own term for the bytes: nothing is compared byte by byte -/
theorem code_word {y : MethodName} {bytes : ByteArray} {mx : Nat} {rt : Option FieldType} {a : Array Value} {s : State} {m : MethodId} {meth : Method} {c : Code} (h1 : s.methodNamed? y = some m) (h2 : s.vm.method? m = some meth) (h3 : meth.code = some c) (h4 : c.code = bytes)
    (h5 : (c.maxLocals == mx && c.exceptionTable.isEmpty && decide (c.maxStack ≤ mostOperands) && decide (meth.sig.returnType = rt) && !meth.locks && decide (parseMethodDescriptor y.desc = some meth.sig)) = true) : (Jvm.Cond.code y bytes mx rt).before a s = true := by
  simp only [Bool.and_eq_true, beq_iff_eq, Bool.not_eq_true', decide_eq_true_eq] at h5
  obtain ⟨⟨⟨⟨⟨g1, g2⟩, g3⟩, g4⟩, g5⟩, g6⟩ := h5
  simp [Cond.before, Cond.holds, Cond.value, h1, h2, h3, h4, g1, g2, g3, g4, g5, g6]
def isCode : Jvm.Cond → Bool
  | .code _ _ _ _ => true
  | _ => false
theorem all_split {L : List Jvm.Cond} {P : Jvm.Cond → Bool} (h1 : L.all (fun c => isCode c || P c) = true) (h2 : ∀ c ∈ L.filter isCode, P c = true) : L.all P = true := by
  refine List.all_eq_true.mpr fun c hc => ?_
  have h := List.all_eq_true.mp h1 c hc
  rcases Bool.eq_false_or_eq_true (isCode c) with hi | hi
  · exact h2 c (List.mem_filter.mpr ⟨hc, hi⟩)
  · simpa [hi] using h
set_option maxRecDepth 65536 in
theorem w_c0 : (Jvm.Cond.code x code maxLocals ret).before args0 about1 = true := code_word (m := ⟨1, 1⟩) (meth := k1m1) (c := k1c1) (by decide +kernel) rfl rfl rfl (by decide +kernel)
set_option maxRecDepth 65536 in
theorem w_c1 : (Jvm.Cond.code ({ cls := "java/lang/String", name := "<init>", desc := "([C)V" } : Jvm.MethodName) jdk_42_method_3_code (2 : Nat) (Option.none : Option Jvm.ClassFile.FieldType)).before args0 about1 = true := code_word (m := ⟨7, 1⟩) (meth := k7m1) (c := k7c1) (by decide +kernel) rfl rfl rfl (by decide +kernel)
set_option maxRecDepth 65536 in
theorem w_c2 : (Jvm.Cond.code ({ cls := "java/lang/String", name := "<init>", desc := "([CIILjava/lang/Void;)V" } : Jvm.MethodName) jdk_42_method_149_code (6 : Nat) (Option.none : Option Jvm.ClassFile.FieldType)).before args0 about1 = true := code_word (m := ⟨7, 3⟩) (meth := k7m3) (c := k7c3) (by decide +kernel) rfl rfl rfl (by decide +kernel)
set_option maxRecDepth 65536 in
theorem w_c3 : (Jvm.Cond.code ({ cls := "java/lang/Object", name := "<init>", desc := "()V" } : Jvm.MethodName) object_method_1_code (1 : Nat) (Option.none : Option Jvm.ClassFile.FieldType)).before args0 about1 = true := code_word (m := ⟨0, 0⟩) (meth := k0m0) (c := k0c0) (by decide +kernel) rfl rfl rfl (by decide +kernel)
set_option maxRecDepth 65536 in
theorem w_c4 : (Jvm.Cond.code ({ cls := "java/lang/StringUTF16", name := "compress", desc := "([CII)[B" } : Jvm.MethodName) jdk_52_method_16_code (6 : Nat) (Option.some (Jvm.ClassFile.FieldType.array Jvm.ClassFile.FieldType.byte))).before args0 about1 = true := code_word (m := ⟨8, 2⟩) (meth := k8m2) (c := k8c2) (by decide +kernel) rfl rfl rfl (by decide +kernel)
set_option maxRecDepth 65536 in
theorem w_c5 : (Jvm.Cond.code ({ cls := "java/lang/StringUTF16", name := "compress", desc := "([CI[BII)I" } : Jvm.MethodName) jdk_52_method_21_code (7 : Nat) (Option.some Jvm.ClassFile.FieldType.int)).before args0 about1 = true := code_word (m := ⟨8, 3⟩) (meth := k8m3) (c := k8c3) (by decide +kernel) rfl rfl rfl (by decide +kernel)
set_option maxRecDepth 65536 in
theorem w_c6 : (Jvm.Cond.code ({ cls := "java/lang/StringUTF16", name := "coderFromArrayLen", desc := "([BI)B" } : Jvm.MethodName) jdk_52_method_15_code (2 : Nat) (Option.some Jvm.ClassFile.FieldType.byte)).before args0 about1 = true := code_word (m := ⟨8, 1⟩) (meth := k8m1) (c := k8c1) (by decide +kernel) rfl rfl rfl (by decide +kernel)
set_option maxRecDepth 65536 in
theorem w_c7 : (Jvm.Cond.code ({ cls := "com/example/log_lag_gauge/loglaggauge/model/PartLooks", name := "one", desc := "(Ljava/lang/String;ZJJ)Lcom/example/log_lag_gauge/loglaggauge/model/PartLooks;" } : Jvm.MethodName) prog_11_method_2_code (9 : Nat) (Option.some (Jvm.ClassFile.FieldType.object "com/example/log_lag_gauge/loglaggauge/model/PartLooks"))).before args0 about1 = true := code_word (m := ⟨10, 1⟩) (meth := k10m1) (c := k10c1) (by decide +kernel) rfl rfl rfl (by decide +kernel)
set_option maxRecDepth 65536 in
theorem w_c8 : (Jvm.Cond.code ({ cls := "java/util/OptionalLong", name := "empty", desc := "()Ljava/util/OptionalLong;" } : Jvm.MethodName) jdk_2650_method_2_code (0 : Nat) (Option.some (Jvm.ClassFile.FieldType.object "java/util/OptionalLong"))).before args0 about1 = true := code_word (m := ⟨11, 1⟩) (meth := k11m1) (c := k11c1) (by decide +kernel) rfl rfl rfl (by decide +kernel)
set_option maxRecDepth 65536 in
theorem w_c9 : (Jvm.Cond.code ({ cls := "com/example/log_lag_gauge/loglaggauge/model/PartLooks", name := "<init>", desc := "(Ljava/lang/String;ZJLjava/util/OptionalLong;JJ)V" } : Jvm.MethodName) prog_11_method_1_code (10 : Nat) (Option.none : Option Jvm.ClassFile.FieldType)).before args0 about1 = true := code_word (m := ⟨10, 0⟩) (meth := k10m0) (c := k10c0) (by decide +kernel) rfl rfl rfl (by decide +kernel)
set_option maxRecDepth 65536 in
theorem w_c10 : (Jvm.Cond.code ({ cls := "java/lang/Record", name := "<init>", desc := "()V" } : Jvm.MethodName) jdk_30_method_1_code (1 : Nat) (Option.none : Option Jvm.ClassFile.FieldType)).before args0 about1 = true := code_word (m := ⟨9, 0⟩) (meth := k9m0) (c := k9c0) (by decide +kernel) rfl rfl rfl (by decide +kernel)
set_option maxRecDepth 65536 in
theorem w_c11 : (Jvm.Cond.code ({ cls := "java/util/Objects", name := "requireNonNull", desc := "(Ljava/lang/Object;Ljava/lang/String;)Ljava/lang/Object;" } : Jvm.MethodName) jdk_31_method_11_code (2 : Nat) (Option.some (Jvm.ClassFile.FieldType.object "java/lang/Object"))).before args0 about1 = true := code_word (m := ⟨12, 1⟩) (meth := k12m1) (c := k12c1) (by decide +kernel) rfl rfl rfl (by decide +kernel)
set_option maxRecDepth 65536 in
theorem w_c12 : (Jvm.Cond.code ({ cls := "com/example/log_lag_gauge/loglaggauge/model/PartLooks", name := "part", desc := "()Ljava/lang/String;" } : Jvm.MethodName) prog_11_method_7_code (1 : Nat) (Option.some (Jvm.ClassFile.FieldType.object "java/lang/String"))).before args0 about1 = true := code_word (m := ⟨10, 2⟩) (meth := k10m2) (c := k10c2) (by decide +kernel) rfl rfl rfl (by decide +kernel)
set_option maxRecDepth 65536 in
theorem w_c13 : (Jvm.Cond.code ({ cls := "java/lang/String", name := "equals", desc := "(Ljava/lang/Object;)Z" } : Jvm.MethodName) jdk_42_method_66_code (3 : Nat) (Option.some Jvm.ClassFile.FieldType.boolean)).before args0 about1 = true := code_word (m := ⟨7, 2⟩) (meth := k7m2) (c := k7c2) (by decide +kernel) rfl rfl rfl (by decide +kernel)
set_option maxRecDepth 65536 in
theorem w_c14 : (Jvm.Cond.code ({ cls := "com/example/log_lag_gauge/loglaggauge/model/PartLooks", name := "succeeded", desc := "()Z" } : Jvm.MethodName) prog_11_method_8_code (1 : Nat) (Option.some Jvm.ClassFile.FieldType.boolean)).before args0 about1 = true := code_word (m := ⟨10, 3⟩) (meth := k10m3) (c := k10c3) (by decide +kernel) rfl rfl rfl (by decide +kernel)
set_option maxRecDepth 65536 in
theorem w_c15 : (Jvm.Cond.code ({ cls := "com/example/log_lag_gauge/loglaggauge/model/PartLooks", name := "durationMs", desc := "()J" } : Jvm.MethodName) prog_11_method_9_code (1 : Nat) (Option.some Jvm.ClassFile.FieldType.long)).before args0 about1 = true := code_word (m := ⟨10, 4⟩) (meth := k10m4) (c := k10c4) (by decide +kernel) rfl rfl rfl (by decide +kernel)
set_option maxRecDepth 65536 in
theorem w_c16 : (Jvm.Cond.code ({ cls := "com/example/log_lag_gauge/loglaggauge/model/PartLooks", name := "looks", desc := "()J" } : Jvm.MethodName) prog_11_method_11_code (1 : Nat) (Option.some Jvm.ClassFile.FieldType.long)).before args0 about1 = true := code_word (m := ⟨10, 6⟩) (meth := k10m6) (c := k10c6) (by decide +kernel) rfl rfl rfl (by decide +kernel)
set_option maxRecDepth 65536 in
theorem w_c17 : (Jvm.Cond.code ({ cls := "com/example/log_lag_gauge/loglaggauge/model/PartLooks", name := "failures", desc := "()J" } : Jvm.MethodName) prog_11_method_12_code (1 : Nat) (Option.some Jvm.ClassFile.FieldType.long)).before args0 about1 = true := code_word (m := ⟨10, 7⟩) (meth := k10m7) (c := k10c7) (by decide +kernel) rfl rfl rfl (by decide +kernel)
set_option maxRecDepth 65536 in
theorem w_c18 : (Jvm.Cond.code ({ cls := "com/example/log_lag_gauge/loglaggauge/model/PartLooks", name := "lastSuccessMs", desc := "()Ljava/util/OptionalLong;" } : Jvm.MethodName) prog_11_method_10_code (1 : Nat) (Option.some (Jvm.ClassFile.FieldType.object "java/util/OptionalLong"))).before args0 about1 = true := code_word (m := ⟨10, 5⟩) (meth := k10m5) (c := k10c5) (by decide +kernel) rfl rfl rfl (by decide +kernel)
set_option maxRecDepth 65536 in
theorem w_c19 : (Jvm.Cond.code ({ cls := "java/util/OptionalLong", name := "isPresent", desc := "()Z" } : Jvm.MethodName) jdk_2650_method_6_code (1 : Nat) (Option.some Jvm.ClassFile.FieldType.boolean)).before args0 about1 = true := code_word (m := ⟨11, 5⟩) (meth := k11m5) (c := k11c5) (by decide +kernel) rfl rfl rfl (by decide +kernel)
set_option maxRecDepth 65536 in
theorem w_c20 : (Jvm.Cond.code ({ cls := "java/util/OptionalLong", name := "of", desc := "(J)Ljava/util/OptionalLong;" } : Jvm.MethodName) jdk_2650_method_4_code (2 : Nat) (Option.some (Jvm.ClassFile.FieldType.object "java/util/OptionalLong"))).before args0 about1 = true := code_word (m := ⟨11, 3⟩) (meth := k11m3) (c := k11c3) (by decide +kernel) rfl rfl rfl (by decide +kernel)
set_option maxRecDepth 65536 in
theorem w_c21 : (Jvm.Cond.code ({ cls := "java/util/OptionalLong", name := "<init>", desc := "(J)V" } : Jvm.MethodName) jdk_2650_method_3_code (3 : Nat) (Option.none : Option Jvm.ClassFile.FieldType)).before args0 about1 = true := code_word (m := ⟨11, 2⟩) (meth := k11m2) (c := k11c2) (by decide +kernel) rfl rfl rfl (by decide +kernel)
set_option maxRecDepth 65536 in
theorem w_c22 : (Jvm.Cond.code ({ cls := "java/util/OptionalLong", name := "getAsLong", desc := "()J" } : Jvm.MethodName) jdk_2650_method_5_code (1 : Nat) (Option.some Jvm.ClassFile.FieldType.long)).before args0 about1 = true := code_word (m := ⟨11, 4⟩) (meth := k11m4) (c := k11c4) (by decide +kernel) rfl rfl rfl (by decide +kernel)
def codes1 : List Jvm.Cond := [Jvm.Cond.code x code maxLocals ret, Jvm.Cond.code ({ cls := "java/lang/String", name := "<init>", desc := "([C)V" } : Jvm.MethodName) jdk_42_method_3_code (2 : Nat) (Option.none : Option Jvm.ClassFile.FieldType), Jvm.Cond.code ({ cls := "java/lang/String", name := "<init>", desc := "([CIILjava/lang/Void;)V" } : Jvm.MethodName) jdk_42_method_149_code (6 : Nat) (Option.none : Option Jvm.ClassFile.FieldType), Jvm.Cond.code ({ cls := "java/lang/Object", name := "<init>", desc := "()V" } : Jvm.MethodName) object_method_1_code (1 : Nat) (Option.none : Option Jvm.ClassFile.FieldType), Jvm.Cond.code ({ cls := "java/lang/StringUTF16", name := "compress", desc := "([CII)[B" } : Jvm.MethodName) jdk_52_method_16_code (6 : Nat) (Option.some (Jvm.ClassFile.FieldType.array Jvm.ClassFile.FieldType.byte)), Jvm.Cond.code ({ cls := "java/lang/StringUTF16", name := "compress", desc := "([CI[BII)I" } : Jvm.MethodName) jdk_52_method_21_code (7 : Nat) (Option.some Jvm.ClassFile.FieldType.int), Jvm.Cond.code ({ cls := "java/lang/StringUTF16", name := "coderFromArrayLen", desc := "([BI)B" } : Jvm.MethodName) jdk_52_method_15_code (2 : Nat) (Option.some Jvm.ClassFile.FieldType.byte), Jvm.Cond.code ({ cls := "com/example/log_lag_gauge/loglaggauge/model/PartLooks", name := "one", desc := "(Ljava/lang/String;ZJJ)Lcom/example/log_lag_gauge/loglaggauge/model/PartLooks;" } : Jvm.MethodName) prog_11_method_2_code (9 : Nat) (Option.some (Jvm.ClassFile.FieldType.object "com/example/log_lag_gauge/loglaggauge/model/PartLooks")), Jvm.Cond.code ({ cls := "java/util/OptionalLong", name := "empty", desc := "()Ljava/util/OptionalLong;" } : Jvm.MethodName) jdk_2650_method_2_code (0 : Nat) (Option.some (Jvm.ClassFile.FieldType.object "java/util/OptionalLong")), Jvm.Cond.code ({ cls := "com/example/log_lag_gauge/loglaggauge/model/PartLooks", name := "<init>", desc := "(Ljava/lang/String;ZJLjava/util/OptionalLong;JJ)V" } : Jvm.MethodName) prog_11_method_1_code (10 : Nat) (Option.none : Option Jvm.ClassFile.FieldType), Jvm.Cond.code ({ cls := "java/lang/Record", name := "<init>", desc := "()V" } : Jvm.MethodName) jdk_30_method_1_code (1 : Nat) (Option.none : Option Jvm.ClassFile.FieldType), Jvm.Cond.code ({ cls := "java/util/Objects", name := "requireNonNull", desc := "(Ljava/lang/Object;Ljava/lang/String;)Ljava/lang/Object;" } : Jvm.MethodName) jdk_31_method_11_code (2 : Nat) (Option.some (Jvm.ClassFile.FieldType.object "java/lang/Object")), Jvm.Cond.code ({ cls := "com/example/log_lag_gauge/loglaggauge/model/PartLooks", name := "part", desc := "()Ljava/lang/String;" } : Jvm.MethodName) prog_11_method_7_code (1 : Nat) (Option.some (Jvm.ClassFile.FieldType.object "java/lang/String")), Jvm.Cond.code ({ cls := "java/lang/String", name := "equals", desc := "(Ljava/lang/Object;)Z" } : Jvm.MethodName) jdk_42_method_66_code (3 : Nat) (Option.some Jvm.ClassFile.FieldType.boolean), Jvm.Cond.code ({ cls := "com/example/log_lag_gauge/loglaggauge/model/PartLooks", name := "succeeded", desc := "()Z" } : Jvm.MethodName) prog_11_method_8_code (1 : Nat) (Option.some Jvm.ClassFile.FieldType.boolean), Jvm.Cond.code ({ cls := "com/example/log_lag_gauge/loglaggauge/model/PartLooks", name := "durationMs", desc := "()J" } : Jvm.MethodName) prog_11_method_9_code (1 : Nat) (Option.some Jvm.ClassFile.FieldType.long), Jvm.Cond.code ({ cls := "com/example/log_lag_gauge/loglaggauge/model/PartLooks", name := "looks", desc := "()J" } : Jvm.MethodName) prog_11_method_11_code (1 : Nat) (Option.some Jvm.ClassFile.FieldType.long), Jvm.Cond.code ({ cls := "com/example/log_lag_gauge/loglaggauge/model/PartLooks", name := "failures", desc := "()J" } : Jvm.MethodName) prog_11_method_12_code (1 : Nat) (Option.some Jvm.ClassFile.FieldType.long), Jvm.Cond.code ({ cls := "com/example/log_lag_gauge/loglaggauge/model/PartLooks", name := "lastSuccessMs", desc := "()Ljava/util/OptionalLong;" } : Jvm.MethodName) prog_11_method_10_code (1 : Nat) (Option.some (Jvm.ClassFile.FieldType.object "java/util/OptionalLong")), Jvm.Cond.code ({ cls := "java/util/OptionalLong", name := "isPresent", desc := "()Z" } : Jvm.MethodName) jdk_2650_method_6_code (1 : Nat) (Option.some Jvm.ClassFile.FieldType.boolean), Jvm.Cond.code ({ cls := "java/util/OptionalLong", name := "of", desc := "(J)Ljava/util/OptionalLong;" } : Jvm.MethodName) jdk_2650_method_4_code (2 : Nat) (Option.some (Jvm.ClassFile.FieldType.object "java/util/OptionalLong")), Jvm.Cond.code ({ cls := "java/util/OptionalLong", name := "<init>", desc := "(J)V" } : Jvm.MethodName) jdk_2650_method_3_code (3 : Nat) (Option.none : Option Jvm.ClassFile.FieldType), Jvm.Cond.code ({ cls := "java/util/OptionalLong", name := "getAsLong", desc := "()J" } : Jvm.MethodName) jdk_2650_method_5_code (1 : Nat) (Option.some Jvm.ClassFile.FieldType.long)]
set_option maxRecDepth 65536 in
theorem codes_eq : words1.filter isCode = codes1 := rfl
theorem w_codes : ∀ c ∈ words1.filter isCode, c.before args0 about1 = true := by
  rw [codes_eq]
  intro c hc
  simp only [codes1, List.mem_cons, List.not_mem_nil, or_false] at hc
  rcases hc with rfl | rfl | rfl | rfl | rfl | rfl | rfl | rfl | rfl | rfl | rfl | rfl | rfl | rfl | rfl | rfl | rfl | rfl | rfl | rfl | rfl | rfl | rfl
  · exact w_c0
  · exact w_c1
  · exact w_c2
  · exact w_c3
  · exact w_c4
  · exact w_c5
  · exact w_c6
  · exact w_c7
  · exact w_c8
  · exact w_c9
  · exact w_c10
  · exact w_c11
  · exact w_c12
  · exact w_c13
  · exact w_c14
  · exact w_c15
  · exact w_c16
  · exact w_c17
  · exact w_c18
  · exact w_c19
  · exact w_c20
  · exact w_c21
  · exact w_c22
set_option maxRecDepth 65536 in
theorem w_t1 : (words1.take 24).all (fun c => isCode c || c.before args0 about1) = true := by decide +kernel
set_option maxRecDepth 65536 in
theorem w_t2 : ((words1.drop 24).take 24).all (fun c => isCode c || c.before args0 about1) = true := by decide +kernel
set_option maxRecDepth 65536 in
theorem w_t3 : (((words1.drop 24).drop 24).take 24).all (fun c => isCode c || c.before args0 about1) = true := by decide +kernel
set_option maxRecDepth 65536 in
theorem w_t4 : ((((words1.drop 24).drop 24).drop 24).take 24).all (fun c => isCode c || c.before args0 about1) = true := by decide +kernel
set_option maxRecDepth 65536 in
theorem w_t5 : (((((words1.drop 24).drop 24).drop 24).drop 24).take 24).all (fun c => isCode c || c.before args0 about1) = true := by decide +kernel
set_option maxRecDepth 65536 in
theorem w_t6 : (((((words1.drop 24).drop 24).drop 24).drop 24).drop 24).all (fun c => isCode c || c.before args0 about1) = true := by decide +kernel
theorem w_tables : (allAtoms (Jvm.Cond.code x code maxLocals ret :: tables_1)).before args0 about1 = true := by
  rw [allAtoms_all]
  show words1.all (fun c => c.before args0 about1) = true
  refine all_split ?_ w_codes
  rw [← List.take_append_drop 24 words1, List.all_append, w_t1, ← List.take_append_drop 24 (words1.drop 24), List.all_append, w_t2, ← List.take_append_drop 24 ((words1.drop 24).drop 24), List.all_append, w_t3, ← List.take_append_drop 24 (((words1.drop 24).drop 24).drop 24), List.all_append, w_t4, ← List.take_append_drop 24 ((((words1.drop 24).drop 24).drop 24).drop 24), List.all_append, w_t5, w_t6]
  rfl
set_option maxRecDepth 65536 in
theorem w_rest : rest_1_c.before args0 about1 = true := by decide +kernel
set_option maxRecDepth 65536 in
theorem w_case : (Jvm.Cond.and given_1 narrow_1).before args0 about1 = true := by decide +kernel
theorem w_applies : (headSpec (Jvm.Cond.code x code maxLocals ret :: tables_1) room_1).applies x e0.platform about1 = true :=
  (Spec.applies_iff w_frames).mpr ⟨w_running, w_runnable, w_alone, w_named, w_hears, w_ripe, w_room, w_tables⟩
theorem atStart : AtStart classFile x code maxLocals ret World_1 tables_1 room_1 Calls_1 rest_1 Pre_1 launch0 p0 e0 about1 theMethod args0 below0 :=
  ⟨lists_1, trivial, launch0.admits_env _ _ _, launch0.least_env, fairChoices_fair.cas, fairChoices_fair.clock, w_frames, w_args, w_heap, w_applies, trivial, w_rest, w_case⟩
end start1
theorem witness_1 : WitnessClaimed_1 := ⟨start1.p0, start1.e0, start1.about1, start1.theMethod, start1.args0, start1.below0, start1.atStart⟩
end Jvm.Pilot.@@N@@
