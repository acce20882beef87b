import JvmDerived
import JvmDerived.Pilot.@@N@@Statement
import JvmDerived.Pilot.@@N@@Code
set_option linter.unusedVariables false
set_option linter.unusedSimpArgs false
@@BLOCK:NumsL.lean.txt@@
namespace Jvm.Pilot.@@N@@
open Jvm Jvm.ClassFile Sem Op Lib Jvm.Free Jvm.Stand Jvm.LawKit Jvm.RoadKit Bundle Jvm.Pilot.@@N@@.Jvm.D
/-- from the state T with the frame g on top the method comes to its end, and Q holds there -/
def Goes (p : Program) (l : Launch) (e : Env) (R : Room) (s : State) (m : MethodId) (args : Array Value) (below : List Frame) (meth : Method) (c : Code) (Q : Option Value → Heap → List Loc → Prop) (T : State) (g : JFrame) : Prop :=
  ∃ (T' : State) (v : Option Value) (L : List Loc) (k n : Nat), Stand p l e R s m args below meth c T' L k n ∧ k ≤ R.cells ∧ n ≤ R.slots ∧ (meth.sig.returnType = none → v = none) ∧ Q v T'.heap L ∧
    ∀ fs, (∀ (f : JFrame) (acts : List Action), f.method = m → f.locked = none → f.entered = [] → (doReturn e (T'.setTop f) acts v).1 = T'.setFrames fs) → Steps p.tables e below (T.setTop g) (T'.setFrames fs)
section OwnGoes
variable {p : Program} {l : Launch} {e : Env} {R : Room} {s : State} {m : MethodId} {args : Array Value} {below : List Frame} {meth : Method} {c : Code} {Q : Option Value → Heap → List Loc → Prop} {T T2 : State} {g g2 : JFrame} {L : List Loc} {k n : Nat}
theorem Goes.step (st : ∀ target, Steps p.tables e below (T2.setTop g2) target → Steps p.tables e below (T.setTop g) target) (F : Goes p l e R s m args below meth c Q T2 g2) : Goes p l e R s m args below meth c Q T g := by
  obtain ⟨T', v, L, k, n, X, hk, hn, hv, hq, hs⟩ := F
  exact ⟨T', v, L, k, n, X, hk, hn, hv, hq, fun fs h => st _ (hs fs h)⟩
theorem Goes.cast (q : g = g2) (F : Goes p l e R s m args below meth c Q T g2) : Goes p l e R s m args below meth c Q T g := q ▸ F
theorem Goes.out {maxL : Nat} {s₁ : State} (hl : meth.locks = false) (F : Goes p l e R s m args below meth c Q s₁ (entryFrame m args maxL)) :
    ∃ s₂ o, Steps p.tables e below (s₁.setTop (entryFrame m args maxL)) s₂ ∧ s₂.status = .running ∧ Ended s₂ below o ∧ ∃ v L, o = .returned v ∧ Q v s₂.heap L ∧ FrameEnd s o s₂ L R.cells R.slots := by
  obtain ⟨T', v, L, k, n, X, hk, hn, hv, hq, hs⟩ := F
  obtain ⟨fs, hr, hrun, hended, hW, hsame⟩ := X.leave (v := v) hv hl
  exact ⟨_, _, hs fs hr, hrun, hended, v, L, rfl, hq, ⟨_, rfl⟩, hW, hsame.mono hk hn⟩
theorem Goes.ret {v : Option Value} (X : Stand p l e R s m args below meth c T L k n) (hk : k ≤ R.cells) (hn : n ≤ R.slots) (hv : meth.sig.returnType = none → v = none) (hq : Q v T.heap L)
    (hs : ∀ fs, (∀ (f : JFrame) (acts : List Action), f.method = m → f.locked = none → f.entered = [] → (doReturn e (T.setTop f) acts v).1 = T.setFrames fs) → Steps p.tables e below (T.setTop g) (T.setFrames fs)) : Goes p l e R s m args below meth c Q T g :=
  ⟨T, v, L, k, n, X, hk, hn, hv, hq, hs⟩
/-- the same where String constants may have been interned on the road -/
def GoesW (p : Program) (l : Launch) (e : Env) (R : Room) (s : State) (m : MethodId) (args : Array Value) (below : List Frame) (meth : Method) (c : Code) (Q : Option Value → Heap → List Loc → Prop) (T : State) (g : JFrame) : Prop :=
  ∃ (T' : State) (v : Option Value) (L : List Loc) (k n : Nat) (vm : Vm) (j : Nat), Stand p l e R (s.setVm vm) m args below meth c T' L k n ∧ s.Since vm j ∧ j ≤ T'.heap.size ∧ k ≤ R.cells ∧ n ≤ R.slots ∧ (meth.sig.returnType = none → v = none) ∧ Q v T'.heap L ∧
    ∀ fs, (∀ (f : JFrame) (acts : List Action), f.method = m → f.locked = none → f.entered = [] → (doReturn e (T'.setTop f) acts v).1 = T'.setFrames fs) → Steps p.tables e below (T.setTop g) (T'.setFrames fs)
theorem GoesW.step (st : ∀ target, Steps p.tables e below (T2.setTop g2) target → Steps p.tables e below (T.setTop g) target) (F : GoesW p l e R s m args below meth c Q T2 g2) : GoesW p l e R s m args below meth c Q T g := by
  obtain ⟨T', v, L, k, n, vm, j, X, hS, hj, hk, hn, hv, hq, hs⟩ := F
  exact ⟨T', v, L, k, n, vm, j, X, hS, hj, hk, hn, hv, hq, fun fs h => st _ (hs fs h)⟩
theorem GoesW.cast (q : g = g2) (F : GoesW p l e R s m args below meth c Q T g2) : GoesW p l e R s m args below meth c Q T g := q ▸ F
theorem GoesW.out {maxL : Nat} {s₁ : State} (hl : meth.locks = false) (F : GoesW p l e R s m args below meth c Q s₁ (entryFrame m args maxL)) :
    ∃ s₂ o, Steps p.tables e below (s₁.setTop (entryFrame m args maxL)) s₂ ∧ s₂.status = .running ∧ Ended s₂ below o ∧ ∃ v L, o = .returned v ∧ Q v s₂.heap L ∧ ReturnedEndW s o s₂ L R.cells R.slots := by
  obtain ⟨T', v, L, k, n, vm, j, X, hS, hj, hk, hn, hv, hq, hs⟩ := F
  obtain ⟨fs, hr, hrun, hended, h1, h2, h3, hsame⟩ := X.leaveW (v := v) hS hj hv hl
  exact ⟨_, _, hs fs hr, hrun, hended, v, L, rfl, hq, h1, h2, h3, hsame.mono hk hn⟩
theorem GoesW.ret {v : Option Value} {vm : Vm} {j : Nat} (X : Stand p l e R (s.setVm vm) m args below meth c T L k n) (hS : s.Since vm j) (hj : j ≤ T.heap.size) (hk : k ≤ R.cells) (hn : n ≤ R.slots) (hv : meth.sig.returnType = none → v = none) (hq : Q v T.heap L)
    (hs : ∀ fs, (∀ (f : JFrame) (acts : List Action), f.method = m → f.locked = none → f.entered = [] → (doReturn e (T.setTop f) acts v).1 = T.setFrames fs) → Steps p.tables e below (T.setTop g) (T.setFrames fs)) : GoesW p l e R s m args below meth c Q T g :=
  ⟨T, v, L, k, n, vm, j, X, hS, hj, hk, hn, hv, hq, hs⟩
theorem tw {a0 : Array Value} {Z : State} (hw : ∀ d ∈ tables_1, d.before a0 Z = true) (i : Nat) {d : Jvm.Cond} (h : tables_1[i]? = some d) : d.before a0 Z = true := hw d (List.mem_of_getElem? h)
theorem own_at {T : State} {h : Heap} {a : Addr} {c : Cell} (e : T.heap = h) (q : h[a]? = some c) : T.heap[a]? = some c := by rw [e]; exact q
theorem cmpL_self (x : Int64) : Jvm.Free.XT.cmpL x x = (0 : Int32) := by simp [Jvm.Free.XT.cmpL, Int64.lt_iff_toInt_lt]
theorem own_mvMN {Z s : State} {a0 args : Array Value} {own host : String} {index : Nat} {y : MethodName} (hZ : Z.Warmed39 s.vm) (w : (Jvm.Cond.methodLinkNest own index y host).before a0 Z = true) : (Jvm.Cond.methodLinkNest own index y host).before args s = true := (Cond.methodLinkNest_wide hZ w :)
end OwnGoes
theorem pd_0 : parseMethodDescriptor "(Z)Lcom/example/rights_over_time/rightsovertime/model/Formula$Known;" = some ⟨[.boolean], some (.object "com/example/rights_over_time/rightsovertime/model/Formula$Known")⟩ := by decide +kernel
theorem pd_1 : parseMethodDescriptor "()Lcom/example/rights_over_time/rightsovertime/model/Formula$Known;" = some ⟨[], some (.object "com/example/rights_over_time/rightsovertime/model/Formula$Known")⟩ := by decide +kernel
abbrev Y0 : MethodName := (⟨"com/example/rights_over_time/rightsovertime/model/Formula$Known", "of", "(Z)Lcom/example/rights_over_time/rightsovertime/model/Formula$Known;"⟩ : MethodName)
abbrev Y1 : MethodName := (⟨"com/example/rights_over_time/rightsovertime/model/Formula$Known", "negated", "()Lcom/example/rights_over_time/rightsovertime/model/Formula$Known;"⟩ : MethodName)
theorem own_mask1 (x : Int32) : (x &&& (1 : Int32)) = (0 : Int32) ∨ (x &&& (1 : Int32)) = (1 : Int32) := by
  have e1 : (x &&& 1).toInt = x.toInt % 2 ^ 1 := Jvm.Kit.i32_mask x 1 (k := 1) (by decide) (by decide)
  have e3 : (x &&& 1).toInt = 0 ∨ (x &&& 1).toInt = 1 := by omega
  simp only [← Int32.toInt_inj]
  rcases e3 with h | h <;> rw [h] <;> decide
def Env0 (Z : State) (h : Heap) (c_FALSE c_TRUE c_UNKNOWN : Addr) : Prop :=
  Sta Z h "com/example/rights_over_time/rightsovertime/model/Formula$Known" "FALSE" "Lcom/example/rights_over_time/rightsovertime/model/Formula$Known;" (.ref c_FALSE) ∧ Exa Z h c_FALSE "com/example/rights_over_time/rightsovertime/model/Formula$Known" ∧ Fld Z h c_FALSE "java/lang/Enum" "ordinal" "I" (.int (0 : Int32)) ∧
  Sta Z h "com/example/rights_over_time/rightsovertime/model/Formula$Known" "TRUE" "Lcom/example/rights_over_time/rightsovertime/model/Formula$Known;" (.ref c_TRUE) ∧ Exa Z h c_TRUE "com/example/rights_over_time/rightsovertime/model/Formula$Known" ∧ Fld Z h c_TRUE "java/lang/Enum" "ordinal" "I" (.int (1 : Int32)) ∧
  Sta Z h "com/example/rights_over_time/rightsovertime/model/Formula$Known" "UNKNOWN" "Lcom/example/rights_over_time/rightsovertime/model/Formula$Known;" (.ref c_UNKNOWN) ∧ Exa Z h c_UNKNOWN "com/example/rights_over_time/rightsovertime/model/Formula$Known" ∧ Fld Z h c_UNKNOWN "java/lang/Enum" "ordinal" "I" (.int (2 : Int32))
theorem own_ord {s : State} {args : Array Value} {t : Term} {C n d : String} {k : Int32} {a : Addr} (ev : t.eval args s none [] s = some (.ref a)) (h : (Jvm.Cond.eq (.field t C n d) (.int k)).value args s none s [] = some true) : Fld s s.heap a C n d (.int k) := by
  obtain ⟨x', y', e1, e2, k1, k2⟩ := cmp_v (Or.inl h)
  have e3 : y' = .int k := (Option.some.inj ((Term.int_eval k).symm.trans e2)).symm
  subst e3
  obtain ⟨z, rfl⟩ := k2
  have e4 : z = k := by
    simp only [Cond.value, e1, e2] at h
    simpa using h
  subst e4
  rw [fld_at ev] at e1
  exact Fld.start e1
theorem d0_0 : decode prog_126_method_4_code 0 = .ok (.iload_n 0, 1) := by decide +kernel
theorem d0_1 : decode prog_126_method_4_code 1 = .ok (.ifCond .eq 9, 3) := by decide +kernel
theorem d0_10 : decode prog_126_method_4_code 10 = .ok (.getstatic 3, 3) := by decide +kernel
theorem d0_13 : decode prog_126_method_4_code 13 = .ok (.areturn, 1) := by decide +kernel
theorem pn_com_example_rights_over_time_rightsovertime_model_Formula_Known : plainName "com/example/rights_over_time/rightsovertime/model/Formula$Known" = true := by first | (simp [plainName, overriddenIn]; done) | decide +kernel
def Q_rm_of0 (Z : State) (c_FALSE : Addr) (c_TRUE : Addr) (c_UNKNOWN : Addr) (h0 : Heap) (n0 : Nat) (v : Option Value) (h : Heap) (L : List Loc) : Prop := v = some (.ref c_FALSE) ∧ Fr n0 L ∧ h = h0
set_option maxRecDepth 65536 in
set_option maxHeartbeats 40000000 in
theorem rm_of0 (l : Launch) (Z : State) (a0 : Array Value) (hw : ∀ d ∈ tables_1, d.before a0 Z = true) (ws : List Jvm.Cond) (c_FALSE : Addr) (c_TRUE : Addr) (c_UNKNOWN : Addr) (h0 : Heap) (n0 : Nat) (Z0 : n0 ≤ h0.size) (G : Env0 Z h0 c_FALSE c_TRUE c_UNKNOWN) :
    MetFree l Y0 (head1 (Jvm.Cond.code Y0 prog_126_method_4_code 1 (some (.object "com/example/rights_over_time/rightsovertime/model/Formula$Known")) :: ws) ({ frames := 0, cells := 0, slots := 0, locals := 0 } : Room)) (fun a U => a = #[(.int (0 : Int32))] ∧ Z.Warmed39 U.vm ∧ U.heap = h0) (fun _ _ _ _ _ => True) (fun _ U o U' => ∃ v L, o = .returned v ∧ Q_rm_of0 Z c_FALSE c_TRUE c_UNKNOWN h0 n0 v U'.heap L ∧ FrameEnd U o U' L ({ frames := 0, cells := 0, slots := 0, locals := 0 } : Room).cells ({ frames := 0, cells := 0, slots := 0, locals := 0 } : Room).slots) := by
  refine MetFree.of_bodySF (plainFor_of_name pn_com_example_rights_over_time_rightsovertime_model_Formula_Known) hisR ?_
  intro p e s m args below meth c s₁ Bd hml0 hP hK
  obtain ⟨rfl, hZ, hh⟩ := hP
  have hx := Bd.exec
  have hby := Bd.bytes
  have hml : c.maxLocals = 1 := hml0
  have hown : s.vm.findClass "com/example/rights_over_time/rightsovertime/model/Formula$Known" = some m.cls := findClass_of_methodNamed Bd.named
  have hnm := (name_of_methodNamed Bd.named Bd.method).1
  have X0 : Stand p l e ({ frames := 0, cells := 0, slots := 0, locals := 0 } : Room) s m #[(.int (0 : Int32))] below meth c s₁ [] 0 0 := Stand.of_body Bd
  have e0 : s₁.heap = h0 := by rw [← hh, Bd.state]; rfl
  have N0 := Fr.nil n0
  refine Goes.out (l := l) (c := c) (R := ({ frames := 0, cells := 0, slots := 0, locals := 0 } : Room)) (Q := Q_rm_of0 Z c_FALSE c_TRUE c_UNKNOWN h0 n0) Bd.notSynchronized ?_
  refine Goes.cast (g2 := mkF m 0 #[iv 0] []) (by first | (simp [entryFrame, mkF, argsToLocals, Value.category]; done) | rfl) ?_
  obtain ⟨S_FALSE, E_FALSE, F_FALSE, S_TRUE, E_TRUE, F_TRUE, S_UNKNOWN, E_UNKNOWN, F_UNKNOWN⟩ := id G
  refine Goes.step (T2 := s₁) (g2 := (mkF m 1 #[iv 0] [(.int (0 : Int32))])) (fun _ hr => XS.iloadN X0.here hx rfl (hb hby d0_0) rfl  hr) ?_
  refine Goes.step (T2 := s₁) (g2 := (mkF m 10 #[iv 0] [])) (fun _ hr => XS.ifYes X0.here hx rfl (pc0 := 1) (pc' := 10) rfl (hb hby d0_1) rfl ((if0 _ _).trans (teq (by decide : (0 : Int32) = (0 : Int32))).1) (by decide) (by decide) hr) ?_
  obtain ⟨T1, X1, e1, st1⟩ := getS2 X0 hx hZ hown (host := "") (Or.inl (tw hw 4 rfl)) Via.refl e0 S_FALSE (g := (mkF m 10 #[iv 0] [])) rfl (hb hby d0_10)
  refine Goes.step (T2 := T1) (g2 := (mkF m 13 #[iv 0] [(.ref c_FALSE)])) st1 ?_
  exact Goes.ret (v := some (.ref c_FALSE)) X1 (by decide) (by decide) (fun h => by rw [Bd.returns] at h; cases h) ⟨rfl, N0, e1⟩ (fun fs hr => retOut X1 hx Bd.returns rfl (Or.inr (Or.inr (Or.inr (Or.inr ⟨rfl, rfl, rfl⟩)))) (hb hby d0_13) hr)
theorem d0_4 : decode prog_126_method_4_code 4 = .ok (.getstatic 7, 3) := by decide +kernel
theorem d0_7 : decode prog_126_method_4_code 7 = .ok (.goto 6, 3) := by decide +kernel
def Q_rm_of1 (Z : State) (c_FALSE : Addr) (c_TRUE : Addr) (c_UNKNOWN : Addr) (h0 : Heap) (n0 : Nat) (v : Option Value) (h : Heap) (L : List Loc) : Prop := v = some (.ref c_TRUE) ∧ Fr n0 L ∧ h = h0
set_option maxRecDepth 65536 in
set_option maxHeartbeats 40000000 in
theorem rm_of1 (l : Launch) (Z : State) (a0 : Array Value) (hw : ∀ d ∈ tables_1, d.before a0 Z = true) (ws : List Jvm.Cond) (c_FALSE : Addr) (c_TRUE : Addr) (c_UNKNOWN : Addr) (h0 : Heap) (n0 : Nat) (Z0 : n0 ≤ h0.size) (G : Env0 Z h0 c_FALSE c_TRUE c_UNKNOWN) :
    MetFree l Y0 (head1 (Jvm.Cond.code Y0 prog_126_method_4_code 1 (some (.object "com/example/rights_over_time/rightsovertime/model/Formula$Known")) :: ws) ({ frames := 0, cells := 0, slots := 0, locals := 0 } : Room)) (fun a U => a = #[(.int (1 : Int32))] ∧ Z.Warmed39 U.vm ∧ U.heap = h0) (fun _ _ _ _ _ => True) (fun _ U o U' => ∃ v L, o = .returned v ∧ Q_rm_of1 Z c_FALSE c_TRUE c_UNKNOWN h0 n0 v U'.heap L ∧ FrameEnd U o U' L ({ frames := 0, cells := 0, slots := 0, locals := 0 } : Room).cells ({ frames := 0, cells := 0, slots := 0, locals := 0 } : Room).slots) := by
  refine MetFree.of_bodySF (plainFor_of_name pn_com_example_rights_over_time_rightsovertime_model_Formula_Known) hisR ?_
  intro p e s m args below meth c s₁ Bd hml0 hP hK
  obtain ⟨rfl, hZ, hh⟩ := hP
  have hx := Bd.exec
  have hby := Bd.bytes
  have hml : c.maxLocals = 1 := hml0
  have hown : s.vm.findClass "com/example/rights_over_time/rightsovertime/model/Formula$Known" = some m.cls := findClass_of_methodNamed Bd.named
  have hnm := (name_of_methodNamed Bd.named Bd.method).1
  have X0 : Stand p l e ({ frames := 0, cells := 0, slots := 0, locals := 0 } : Room) s m #[(.int (1 : Int32))] below meth c s₁ [] 0 0 := Stand.of_body Bd
  have e0 : s₁.heap = h0 := by rw [← hh, Bd.state]; rfl
  have N0 := Fr.nil n0
  refine Goes.out (l := l) (c := c) (R := ({ frames := 0, cells := 0, slots := 0, locals := 0 } : Room)) (Q := Q_rm_of1 Z c_FALSE c_TRUE c_UNKNOWN h0 n0) Bd.notSynchronized ?_
  refine Goes.cast (g2 := mkF m 0 #[iv 1] []) (by first | (simp [entryFrame, mkF, argsToLocals, Value.category]; done) | rfl) ?_
  obtain ⟨S_FALSE, E_FALSE, F_FALSE, S_TRUE, E_TRUE, F_TRUE, S_UNKNOWN, E_UNKNOWN, F_UNKNOWN⟩ := id G
  refine Goes.step (T2 := s₁) (g2 := (mkF m 1 #[iv 1] [(.int (1 : Int32))])) (fun _ hr => XS.iloadN X0.here hx rfl (hb hby d0_0) rfl  hr) ?_
  refine Goes.step (T2 := s₁) (g2 := (mkF m 4 #[iv 1] [])) (fun _ hr => XS.ifNo X0.here hx rfl (hb hby d0_1) rfl ((if0 _ _).trans (feq (by decide : ¬ ((1 : Int32) = (0 : Int32)))).1) hr) ?_
  obtain ⟨T2, X2, e2, st2⟩ := getS2 X0 hx hZ hown (host := "") (Or.inl (tw hw 6 rfl)) Via.refl e0 S_TRUE (g := (mkF m 4 #[iv 1] [])) rfl (hb hby d0_4)
  refine Goes.step (T2 := T2) (g2 := (mkF m 7 #[iv 1] [(.ref c_TRUE)])) st2 ?_
  refine Goes.step (T2 := T2) (g2 := (mkF m 13 #[iv 1] [(.ref c_TRUE)])) (fun _ hr => XS.goto X2.here hx rfl (pc0 := 7) (pc' := 13) rfl (hb hby d0_7) (by decide) (by decide) hr) ?_
  exact Goes.ret (v := some (.ref c_TRUE)) X2 (by decide) (by decide) (fun h => by rw [Bd.returns] at h; cases h) ⟨rfl, N0, e2⟩ (fun fs hr => retOut X2 hx Bd.returns rfl (Or.inr (Or.inr (Or.inr (Or.inr ⟨rfl, rfl, rfl⟩)))) (hb hby d0_13) hr)
theorem d1_0 : decode prog_126_method_5_code 0 = .ok (.aload_n 0, 1) := by decide +kernel
theorem d1_1 : decode prog_126_method_5_code 1 = .ok (.getstatic 10, 3) := by decide +kernel
theorem d1_4 : decode prog_126_method_5_code 4 = .ok (.if_acmp .ne 9, 3) := by decide +kernel
theorem d1_13 : decode prog_126_method_5_code 13 = .ok (.aload_n 0, 1) := by decide +kernel
theorem d1_14 : decode prog_126_method_5_code 14 = .ok (.getstatic 3, 3) := by decide +kernel
theorem d1_17 : decode prog_126_method_5_code 17 = .ok (.if_acmp .ne 7, 3) := by decide +kernel
theorem d1_20 : decode prog_126_method_5_code 20 = .ok (.iconst 1, 1) := by decide +kernel
theorem d1_21 : decode prog_126_method_5_code 21 = .ok (.goto 4, 3) := by decide +kernel
theorem d1_25 : decode prog_126_method_5_code 25 = .ok (.invokestatic 32, 3) := by decide +kernel
theorem d1_28 : decode prog_126_method_5_code 28 = .ok (.areturn, 1) := by decide +kernel
def Q_rm_negFALSE (Z : State) (c_FALSE : Addr) (c_TRUE : Addr) (c_UNKNOWN : Addr) (h0 : Heap) (n0 : Nat) (v : Option Value) (h : Heap) (L : List Loc) : Prop := v = some (.ref c_TRUE) ∧ Fr n0 L ∧ h = h0
set_option maxRecDepth 65536 in
set_option maxHeartbeats 40000000 in
theorem rm_negFALSE (l : Launch) (Z : State) (a0 : Array Value) (hw : ∀ d ∈ tables_1, d.before a0 Z = true) (ws : List Jvm.Cond) (c_FALSE : Addr) (c_TRUE : Addr) (c_UNKNOWN : Addr) (h0 : Heap) (n0 : Nat) (Z0 : n0 ≤ h0.size) (G : Env0 Z h0 c_FALSE c_TRUE c_UNKNOWN) :
    MetFree l Y1 (head1 (Jvm.Cond.code Y1 prog_126_method_5_code 1 (some (.object "com/example/rights_over_time/rightsovertime/model/Formula$Known")) :: ws) ({ frames := 1, cells := 0, slots := 0, locals := 12 } : Room)) (fun a U => a = #[(.ref c_FALSE)] ∧ Z.Warmed39 U.vm ∧ U.heap = h0) (fun _ _ _ _ _ => True) (fun _ U o U' => ∃ v L, o = .returned v ∧ Q_rm_negFALSE Z c_FALSE c_TRUE c_UNKNOWN h0 n0 v U'.heap L ∧ FrameEnd U o U' L ({ frames := 1, cells := 0, slots := 0, locals := 12 } : Room).cells ({ frames := 1, cells := 0, slots := 0, locals := 12 } : Room).slots) := by
  refine MetFree.of_bodySF (plainFor_of_name pn_com_example_rights_over_time_rightsovertime_model_Formula_Known) hisR ?_
  intro p e s m args below meth c s₁ Bd hml0 hP hK
  obtain ⟨rfl, hZ, hh⟩ := hP
  have hx := Bd.exec
  have hby := Bd.bytes
  have hml : c.maxLocals = 1 := hml0
  have hown : s.vm.findClass "com/example/rights_over_time/rightsovertime/model/Formula$Known" = some m.cls := findClass_of_methodNamed Bd.named
  have hnm := (name_of_methodNamed Bd.named Bd.method).1
  have X0 : Stand p l e ({ frames := 1, cells := 0, slots := 0, locals := 12 } : Room) s m #[(.ref c_FALSE)] below meth c s₁ [] 0 0 := Stand.of_body Bd
  have e0 : s₁.heap = h0 := by rw [← hh, Bd.state]; rfl
  have N0 := Fr.nil n0
  refine Goes.out (l := l) (c := c) (R := ({ frames := 1, cells := 0, slots := 0, locals := 12 } : Room)) (Q := Q_rm_negFALSE Z c_FALSE c_TRUE c_UNKNOWN h0 n0) Bd.notSynchronized ?_
  refine Goes.cast (g2 := mkF m 0 #[rv c_FALSE] []) (by first | (simp [entryFrame, mkF, argsToLocals, Value.category]; done) | rfl) ?_
  obtain ⟨S_FALSE, E_FALSE, F_FALSE, S_TRUE, E_TRUE, F_TRUE, S_UNKNOWN, E_UNKNOWN, F_UNKNOWN⟩ := id G
  refine Goes.step (T2 := s₁) (g2 := (mkF m 1 #[rv c_FALSE] [(.ref c_FALSE)])) (fun _ hr => XS.aloadN X0.here hx rfl (hb hby d1_0) rfl rfl hr) ?_
  obtain ⟨T3, X3, e3, st3⟩ := getS2 X0 hx hZ hown (host := "") (Or.inl (tw hw 17 rfl)) Via.refl e0 S_UNKNOWN (g := (mkF m 1 #[rv c_FALSE] [(.ref c_FALSE)])) rfl (hb hby d1_1)
  refine Goes.step (T2 := T3) (g2 := (mkF m 4 #[rv c_FALSE] [(.ref c_UNKNOWN), (.ref c_FALSE)])) st3 ?_
  refine Goes.step (T2 := T3) (g2 := (mkF m 13 #[rv c_FALSE] [])) (fun _ hr => Jvm.RoadKit.acmp (g := (mkF m 4 #[rv c_FALSE] [(.ref c_UNKNOWN), (.ref c_FALSE)])) X3 hx rfl rfl rfl (pc0 := 4) (pc' := 13) (same := false) rfl (hb hby d1_4) rfl (decide_eq_false fun q => (Fld.ne F_FALSE F_UNKNOWN (fun q => absurd (Value.int.inj q) (by decide))) (Value.ref.inj q)) (by decide) (by decide) hr) ?_
  refine Goes.step (T2 := T3) (g2 := (mkF m 14 #[rv c_FALSE] [(.ref c_FALSE)])) (fun _ hr => XS.aloadN X3.here hx rfl (hb hby d1_13) rfl rfl hr) ?_
  obtain ⟨T4, X4, e4, st4⟩ := getS2 X3 hx hZ hown (host := "") (Or.inl (tw hw 4 rfl)) Via.refl e3 S_FALSE (g := (mkF m 14 #[rv c_FALSE] [(.ref c_FALSE)])) rfl (hb hby d1_14)
  refine Goes.step (T2 := T4) (g2 := (mkF m 17 #[rv c_FALSE] [(.ref c_FALSE), (.ref c_FALSE)])) st4 ?_
  refine Goes.step (T2 := T4) (g2 := (mkF m 20 #[rv c_FALSE] [])) (fun _ hr => Jvm.RoadKit.acmp (g := (mkF m 17 #[rv c_FALSE] [(.ref c_FALSE), (.ref c_FALSE)])) X4 hx rfl rfl rfl (pc0 := 17) (pc' := 20) (same := true) rfl (hb hby d1_17) rfl (decide_eq_true rfl) (by decide) (by decide) hr) ?_
  refine Goes.step (T2 := T4) (g2 := (mkF m 21 #[rv c_FALSE] [(.int (1 : Int32))])) (fun _ hr => XS.iconst X4.here hx rfl (hb hby d1_20) hr) ?_
  refine Goes.step (T2 := T4) (g2 := (mkF m 25 #[rv c_FALSE] [(.int (1 : Int32))])) (fun _ hr => XS.goto X4.here hx rfl (pc0 := 21) (pc' := 25) rfl (hb hby d1_21) (by decide) (by decide) hr) ?_
  obtain ⟨_, _, ⟨T5, L5, k5, n5⟩, -, X5, ⟨Lc5, hQ5, l5, y5, z5⟩, st5⟩ := Jvm.LawKit.callS X4 hx (y := Y0) hown (mvT hZ (tw hw 18 rfl)) (mvT hZ (tw hw 1 rfl)) (mvT hZ (tw hw 2 rfl)) (mvT hZ (tw hw 3 rfl)) (by decide) (backOf (W := 0) (rm_of1 l Z a0 hw [] c_FALSE c_TRUE c_UNKNOWN h0 n0 Z0 G) hZ (tw hw 3 rfl) (tw hw 2 rfl) (by decide) (by decide)) (g := (mkF m 25 #[rv c_FALSE] [(.int (1 : Int32))])) rfl (by rw [hml]; rfl) (argsL := [(.int (1 : Int32))]) (rest := []) (lenOf pd_0 rfl) rfl (by show 2 * 0 + _ ≤ _; exact Nat.le_of_eq rfl) (hb hby d1_25) (fun _ _ => ⟨rfl, e4, (by decide : 0 + 0 ≤ _), (by decide : 0 + 0 ≤ _)⟩)
  dsimp only [Pt.U, Pt.locs, Pt.cells, Pt.slots] at X5 l5 y5 z5 st5 hQ5
  subst l5 y5 z5
  obtain ⟨rfl, N5q, e5⟩ := hQ5
  have N5 := Fr.app N0 N5q
  refine Goes.step (T2 := T5) (g2 := (mkF m 28 #[rv c_FALSE] [(.ref c_TRUE)])) st5 ?_
  exact Goes.ret (v := some (.ref c_TRUE)) X5 (by decide) (by decide) (fun h => by rw [Bd.returns] at h; cases h) ⟨rfl, N5, e5⟩ (fun fs hr => retOut X5 hx Bd.returns rfl (Or.inr (Or.inr (Or.inr (Or.inr ⟨rfl, rfl, rfl⟩)))) (hb hby d1_28) hr)
theorem d1_24 : decode prog_126_method_5_code 24 = .ok (.iconst 0, 1) := by decide +kernel
def Q_rm_negTRUE (Z : State) (c_FALSE : Addr) (c_TRUE : Addr) (c_UNKNOWN : Addr) (h0 : Heap) (n0 : Nat) (v : Option Value) (h : Heap) (L : List Loc) : Prop := v = some (.ref c_FALSE) ∧ Fr n0 L ∧ h = h0
set_option maxRecDepth 65536 in
set_option maxHeartbeats 40000000 in
theorem rm_negTRUE (l : Launch) (Z : State) (a0 : Array Value) (hw : ∀ d ∈ tables_1, d.before a0 Z = true) (ws : List Jvm.Cond) (c_FALSE : Addr) (c_TRUE : Addr) (c_UNKNOWN : Addr) (h0 : Heap) (n0 : Nat) (Z0 : n0 ≤ h0.size) (G : Env0 Z h0 c_FALSE c_TRUE c_UNKNOWN) :
    MetFree l Y1 (head1 (Jvm.Cond.code Y1 prog_126_method_5_code 1 (some (.object "com/example/rights_over_time/rightsovertime/model/Formula$Known")) :: ws) ({ frames := 1, cells := 0, slots := 0, locals := 12 } : Room)) (fun a U => a = #[(.ref c_TRUE)] ∧ Z.Warmed39 U.vm ∧ U.heap = h0) (fun _ _ _ _ _ => True) (fun _ U o U' => ∃ v L, o = .returned v ∧ Q_rm_negTRUE Z c_FALSE c_TRUE c_UNKNOWN h0 n0 v U'.heap L ∧ FrameEnd U o U' L ({ frames := 1, cells := 0, slots := 0, locals := 12 } : Room).cells ({ frames := 1, cells := 0, slots := 0, locals := 12 } : Room).slots) := by
  refine MetFree.of_bodySF (plainFor_of_name pn_com_example_rights_over_time_rightsovertime_model_Formula_Known) hisR ?_
  intro p e s m args below meth c s₁ Bd hml0 hP hK
  obtain ⟨rfl, hZ, hh⟩ := hP
  have hx := Bd.exec
  have hby := Bd.bytes
  have hml : c.maxLocals = 1 := hml0
  have hown : s.vm.findClass "com/example/rights_over_time/rightsovertime/model/Formula$Known" = some m.cls := findClass_of_methodNamed Bd.named
  have hnm := (name_of_methodNamed Bd.named Bd.method).1
  have X0 : Stand p l e ({ frames := 1, cells := 0, slots := 0, locals := 12 } : Room) s m #[(.ref c_TRUE)] below meth c s₁ [] 0 0 := Stand.of_body Bd
  have e0 : s₁.heap = h0 := by rw [← hh, Bd.state]; rfl
  have N0 := Fr.nil n0
  refine Goes.out (l := l) (c := c) (R := ({ frames := 1, cells := 0, slots := 0, locals := 12 } : Room)) (Q := Q_rm_negTRUE Z c_FALSE c_TRUE c_UNKNOWN h0 n0) Bd.notSynchronized ?_
  refine Goes.cast (g2 := mkF m 0 #[rv c_TRUE] []) (by first | (simp [entryFrame, mkF, argsToLocals, Value.category]; done) | rfl) ?_
  obtain ⟨S_FALSE, E_FALSE, F_FALSE, S_TRUE, E_TRUE, F_TRUE, S_UNKNOWN, E_UNKNOWN, F_UNKNOWN⟩ := id G
  refine Goes.step (T2 := s₁) (g2 := (mkF m 1 #[rv c_TRUE] [(.ref c_TRUE)])) (fun _ hr => XS.aloadN X0.here hx rfl (hb hby d1_0) rfl rfl hr) ?_
  obtain ⟨T6, X6, e6, st6⟩ := getS2 X0 hx hZ hown (host := "") (Or.inl (tw hw 17 rfl)) Via.refl e0 S_UNKNOWN (g := (mkF m 1 #[rv c_TRUE] [(.ref c_TRUE)])) rfl (hb hby d1_1)
  refine Goes.step (T2 := T6) (g2 := (mkF m 4 #[rv c_TRUE] [(.ref c_UNKNOWN), (.ref c_TRUE)])) st6 ?_
  refine Goes.step (T2 := T6) (g2 := (mkF m 13 #[rv c_TRUE] [])) (fun _ hr => Jvm.RoadKit.acmp (g := (mkF m 4 #[rv c_TRUE] [(.ref c_UNKNOWN), (.ref c_TRUE)])) X6 hx rfl rfl rfl (pc0 := 4) (pc' := 13) (same := false) rfl (hb hby d1_4) rfl (decide_eq_false fun q => (Fld.ne F_TRUE F_UNKNOWN (fun q => absurd (Value.int.inj q) (by decide))) (Value.ref.inj q)) (by decide) (by decide) hr) ?_
  refine Goes.step (T2 := T6) (g2 := (mkF m 14 #[rv c_TRUE] [(.ref c_TRUE)])) (fun _ hr => XS.aloadN X6.here hx rfl (hb hby d1_13) rfl rfl hr) ?_
  obtain ⟨T7, X7, e7, st7⟩ := getS2 X6 hx hZ hown (host := "") (Or.inl (tw hw 4 rfl)) Via.refl e6 S_FALSE (g := (mkF m 14 #[rv c_TRUE] [(.ref c_TRUE)])) rfl (hb hby d1_14)
  refine Goes.step (T2 := T7) (g2 := (mkF m 17 #[rv c_TRUE] [(.ref c_FALSE), (.ref c_TRUE)])) st7 ?_
  refine Goes.step (T2 := T7) (g2 := (mkF m 24 #[rv c_TRUE] [])) (fun _ hr => Jvm.RoadKit.acmp (g := (mkF m 17 #[rv c_TRUE] [(.ref c_FALSE), (.ref c_TRUE)])) X7 hx rfl rfl rfl (pc0 := 17) (pc' := 24) (same := false) rfl (hb hby d1_17) rfl (decide_eq_false fun q => (Fld.ne F_TRUE F_FALSE (fun q => absurd (Value.int.inj q) (by decide))) (Value.ref.inj q)) (by decide) (by decide) hr) ?_
  refine Goes.step (T2 := T7) (g2 := (mkF m 25 #[rv c_TRUE] [(.int (0 : Int32))])) (fun _ hr => XS.iconst X7.here hx rfl (hb hby d1_24) hr) ?_
  obtain ⟨_, _, ⟨T8, L8, k8, n8⟩, -, X8, ⟨Lc8, hQ8, l8, y8, z8⟩, st8⟩ := Jvm.LawKit.callS X7 hx (y := Y0) hown (mvT hZ (tw hw 18 rfl)) (mvT hZ (tw hw 1 rfl)) (mvT hZ (tw hw 2 rfl)) (mvT hZ (tw hw 3 rfl)) (by decide) (backOf (W := 0) (rm_of0 l Z a0 hw [] c_FALSE c_TRUE c_UNKNOWN h0 n0 Z0 G) hZ (tw hw 3 rfl) (tw hw 2 rfl) (by decide) (by decide)) (g := (mkF m 25 #[rv c_TRUE] [(.int (0 : Int32))])) rfl (by rw [hml]; rfl) (argsL := [(.int (0 : Int32))]) (rest := []) (lenOf pd_0 rfl) rfl (by show 2 * 0 + _ ≤ _; exact Nat.le_of_eq rfl) (hb hby d1_25) (fun _ _ => ⟨rfl, e7, (by decide : 0 + 0 ≤ _), (by decide : 0 + 0 ≤ _)⟩)
  dsimp only [Pt.U, Pt.locs, Pt.cells, Pt.slots] at X8 l8 y8 z8 st8 hQ8
  subst l8 y8 z8
  obtain ⟨rfl, N8q, e8⟩ := hQ8
  have N8 := Fr.app N0 N8q
  refine Goes.step (T2 := T8) (g2 := (mkF m 28 #[rv c_TRUE] [(.ref c_FALSE)])) st8 ?_
  exact Goes.ret (v := some (.ref c_FALSE)) X8 (by decide) (by decide) (fun h => by rw [Bd.returns] at h; cases h) ⟨rfl, N8, e8⟩ (fun fs hr => retOut X8 hx Bd.returns rfl (Or.inr (Or.inr (Or.inr (Or.inr ⟨rfl, rfl, rfl⟩)))) (hb hby d1_28) hr)
theorem pn_com_example_rights_over_time_rightsovertime_model_KnownOfPinLaw : plainName "com/example/rights_over_time/rightsovertime/model/KnownOfPinLaw" = true := by first | (simp [plainName, overriddenIn]; done) | decide +kernel
def Q_rm_law (Z : State) (c_FALSE : Addr) (c_TRUE : Addr) (c_UNKNOWN : Addr) (p1 : Int32) (h0 : Heap) (n0 : Nat) (v : Option Value) (h : Heap) (L : List Loc) : Prop := v = some (.int (1 : Int32)) ∧ Fr n0 L
set_option maxRecDepth 65536 in
set_option maxHeartbeats 40000000 in
theorem rm_law (l : Launch) (Z : State) (a0 : Array Value) (hw : ∀ d ∈ tables_1, d.before a0 Z = true) (ws : List Jvm.Cond) (c_FALSE : Addr) (c_TRUE : Addr) (c_UNKNOWN : Addr) (p1 : Int32) (h0 : Heap) (n0 : Nat) (Z0 : n0 ≤ h0.size) (G : Env0 Z h0 c_FALSE c_TRUE c_UNKNOWN) :
    MetFree l x (head1 (Jvm.Cond.code x code maxLocals ret :: ws) room_1) (fun a U => a = #[(.int p1)] ∧ Z.Warmed39 U.vm ∧ U.heap = h0) (fun _ _ _ _ _ => True) (fun _ U o U' => ∃ v L, o = .returned v ∧ Q_rm_law Z c_FALSE c_TRUE c_UNKNOWN p1 h0 n0 v U'.heap L ∧ FrameEnd U o U' L room_1.cells room_1.slots) := by
  refine MetFree.of_bodySF (plainFor_of_name pn_com_example_rights_over_time_rightsovertime_model_KnownOfPinLaw) hisR ?_
  intro p e s m args below meth c s₁ Bd hml0 hP hK
  obtain ⟨rfl, hZ, hh⟩ := hP
  have hx := Bd.exec
  have hby := Bd.bytes
  have hml : c.maxLocals = 9 := hml0
  have hown : s.vm.findClass "com/example/rights_over_time/rightsovertime/model/KnownOfPinLaw" = some m.cls := findClass_of_methodNamed Bd.named
  have hnm := (name_of_methodNamed Bd.named Bd.method).1
  have X0 : Stand p l e room_1 s m #[(.int p1)] below meth c s₁ [] 0 0 := Stand.of_body Bd
  have e0 : s₁.heap = h0 := by rw [← hh, Bd.state]; rfl
  have N0 := Fr.nil n0
  refine Goes.out (l := l) (c := c) (R := room_1) (Q := Q_rm_law Z c_FALSE c_TRUE c_UNKNOWN p1 h0 n0) Bd.notSynchronized ?_
  refine Goes.cast (g2 := mkF m 0 #[iv p1, .unset, .unset, .unset, .unset, .unset, .unset, .unset, .unset] []) (by first | (simp [entryFrame, mkF, argsToLocals, Value.category, maxLocals]; done) | rfl) ?_
  obtain ⟨S_FALSE, E_FALSE, F_FALSE, S_TRUE, E_TRUE, F_TRUE, S_UNKNOWN, E_UNKNOWN, F_UNKNOWN⟩ := id G
  refine Goes.step (T2 := s₁) (g2 := (mkF m 1 #[iv p1, .unset, .unset, .unset, .unset, .unset, .unset, .unset, .unset] [(.int p1)])) (fun _ hr => XS.iloadN X0.here hx rfl (hb hby at_0) rfl  hr) ?_
  refine Goes.step (T2 := s₁) (g2 := (mkF m 2 #[iv p1, .unset, .unset, .unset, .unset, .unset, .unset, .unset, .unset] [(.int (1 : Int32)), (.int p1)])) (fun _ hr => XS.iconst X0.here hx rfl (hb hby at_1) hr) ?_
  refine Goes.step (T2 := s₁) (g2 := (mkF m 3 #[iv p1, .unset, .unset, .unset, .unset, .unset, .unset, .unset, .unset] [(.int (p1 &&& (1 : Int32)))])) (fun _ hr => XS.iand X0.here hx rfl (hb hby at_2) rfl hr) ?_
  rcases own_mask1 p1 with hk | hk
  · rw [hk]
    refine Goes.step (T2 := s₁) (g2 := (mkF m 10 #[iv p1, .unset, .unset, .unset, .unset, .unset, .unset, .unset, .unset] [])) (fun _ hr => XS.ifYes X0.here hx rfl (pc0 := 3) (pc' := 10) rfl (hb hby at_3) rfl ((if0 _ _).trans (teq (by decide : (0 : Int32) = (0 : Int32))).1) (by decide) (by decide) hr) ?_
    refine Goes.step (T2 := s₁) (g2 := (mkF m 11 #[iv p1, .unset, .unset, .unset, .unset, .unset, .unset, .unset, .unset] [(.int (0 : Int32))])) (fun _ hr => XS.iconst X0.here hx rfl (hb hby at_10) hr) ?_
    refine Goes.step (T2 := s₁) (g2 := (mkF m 12 #[iv p1, iv 0, .unset, .unset, .unset, .unset, .unset, .unset, .unset] [])) (fun _ hr => XS.istoreN X0.here hx rfl (hb hby at_11) rfl (l' := #[iv p1, iv 0, .unset, .unset, .unset, .unset, .unset, .unset, .unset]) rfl hr) ?_
    refine Goes.step (T2 := s₁) (g2 := (mkF m 13 #[iv p1, iv 0, .unset, .unset, .unset, .unset, .unset, .unset, .unset] [(.int (0 : Int32))])) (fun _ hr => XS.iloadN X0.here hx rfl (hb hby at_12) rfl  hr) ?_
    obtain ⟨_, _, ⟨T9, L9, k9, n9⟩, -, X9, ⟨Lc9, hQ9, l9, y9, z9⟩, st9⟩ := Jvm.LawKit.callS X0 hx (y := Y0) hown (mvT hZ (tw hw 0 rfl)) (mvT hZ (tw hw 1 rfl)) (mvT hZ (tw hw 2 rfl)) (mvT hZ (tw hw 3 rfl)) (by decide) (backOf (W := 0) (rm_of0 l Z a0 hw [] c_FALSE c_TRUE c_UNKNOWN h0 n0 Z0 G) hZ (tw hw 3 rfl) (tw hw 2 rfl) (by decide) (by decide)) (g := (mkF m 13 #[iv p1, iv 0, .unset, .unset, .unset, .unset, .unset, .unset, .unset] [(.int (0 : Int32))])) rfl (by rw [hml]; rfl) (argsL := [(.int (0 : Int32))]) (rest := []) (lenOf pd_0 rfl) rfl (by show 2 * 0 + _ ≤ _; exact Nat.le_of_eq rfl) (hb hby at_13) (fun _ _ => ⟨rfl, e0, (by decide : 0 + 0 ≤ _), (by decide : 0 + 0 ≤ _)⟩)
    dsimp only [Pt.U, Pt.locs, Pt.cells, Pt.slots] at X9 l9 y9 z9 st9 hQ9
    subst l9 y9 z9
    obtain ⟨rfl, N9q, e9⟩ := hQ9
    have N9 := Fr.app N0 N9q
    refine Goes.step (T2 := T9) (g2 := (mkF m 16 #[iv p1, iv 0, .unset, .unset, .unset, .unset, .unset, .unset, .unset] [(.ref c_FALSE)])) st9 ?_
    refine Goes.step (T2 := T9) (g2 := (mkF m 17 #[iv p1, iv 0, rv c_FALSE, .unset, .unset, .unset, .unset, .unset, .unset] [])) (fun _ hr => XS.astoreN X9.here hx rfl (hb hby at_16) rfl rfl (l' := #[iv p1, iv 0, rv c_FALSE, .unset, .unset, .unset, .unset, .unset, .unset]) rfl hr) ?_
    refine Goes.step (T2 := T9) (g2 := (mkF m 18 #[iv p1, iv 0, rv c_FALSE, .unset, .unset, .unset, .unset, .unset, .unset] [(.int (0 : Int32))])) (fun _ hr => XS.iloadN X9.here hx rfl (hb hby at_17) rfl  hr) ?_
    refine Goes.step (T2 := T9) (g2 := (mkF m 21 #[iv p1, iv 0, rv c_FALSE, .unset, .unset, .unset, .unset, .unset, .unset] [])) (fun _ hr => XS.ifNo X9.here hx rfl (hb hby at_18) rfl ((if0 _ _).trans (teq (by decide : (0 : Int32) = (0 : Int32))).2) hr) ?_
    refine Goes.step (T2 := T9) (g2 := (mkF m 22 #[iv p1, iv 0, rv c_FALSE, .unset, .unset, .unset, .unset, .unset, .unset] [(.int (1 : Int32))])) (fun _ hr => XS.iconst X9.here hx rfl (hb hby at_21) hr) ?_
    refine Goes.step (T2 := T9) (g2 := (mkF m 26 #[iv p1, iv 0, rv c_FALSE, .unset, .unset, .unset, .unset, .unset, .unset] [(.int (1 : Int32))])) (fun _ hr => XS.goto X9.here hx rfl (pc0 := 22) (pc' := 26) rfl (hb hby at_22) (by decide) (by decide) hr) ?_
    obtain ⟨_, _, ⟨T10, L10, k10, n10⟩, -, X10, ⟨Lc10, hQ10, l10, y10, z10⟩, st10⟩ := Jvm.LawKit.callS X9 hx (y := Y0) hown (mvT hZ (tw hw 0 rfl)) (mvT hZ (tw hw 1 rfl)) (mvT hZ (tw hw 2 rfl)) (mvT hZ (tw hw 3 rfl)) (by decide) (backOf (W := 0) (rm_of1 l Z a0 hw [] c_FALSE c_TRUE c_UNKNOWN h0 n0 Z0 G) hZ (tw hw 3 rfl) (tw hw 2 rfl) (by decide) (by decide)) (g := (mkF m 26 #[iv p1, iv 0, rv c_FALSE, .unset, .unset, .unset, .unset, .unset, .unset] [(.int (1 : Int32))])) rfl (by rw [hml]; rfl) (argsL := [(.int (1 : Int32))]) (rest := []) (lenOf pd_0 rfl) rfl (by show 2 * 0 + _ ≤ _; exact Nat.le_of_eq rfl) (hb hby at_26) (fun _ _ => ⟨rfl, e9, (by decide : 0 + 0 ≤ _), (by decide : 0 + 0 ≤ _)⟩)
    dsimp only [Pt.U, Pt.locs, Pt.cells, Pt.slots] at X10 l10 y10 z10 st10 hQ10
    subst l10 y10 z10
    obtain ⟨rfl, N10q, e10⟩ := hQ10
    have N10 := Fr.app N9 N10q
    refine Goes.step (T2 := T10) (g2 := (mkF m 29 #[iv p1, iv 0, rv c_FALSE, .unset, .unset, .unset, .unset, .unset, .unset] [(.ref c_TRUE)])) st10 ?_
    refine Goes.step (T2 := T10) (g2 := (mkF m 30 #[iv p1, iv 0, rv c_FALSE, rv c_TRUE, .unset, .unset, .unset, .unset, .unset] [])) (fun _ hr => XS.astoreN X10.here hx rfl (hb hby at_29) rfl rfl (l' := #[iv p1, iv 0, rv c_FALSE, rv c_TRUE, .unset, .unset, .unset, .unset, .unset]) rfl hr) ?_
    refine Goes.step (T2 := T10) (g2 := (mkF m 31 #[iv p1, iv 0, rv c_FALSE, rv c_TRUE, .unset, .unset, .unset, .unset, .unset] [(.ref c_FALSE)])) (fun _ hr => XS.aloadN X10.here hx rfl (hb hby at_30) rfl rfl hr) ?_
    obtain ⟨T11, X11, e11, st11⟩ := getS2 X10 hx hZ hown (host := "") (Or.inl (tw hw 8 rfl)) Via.refl e10 S_UNKNOWN (g := (mkF m 31 #[iv p1, iv 0, rv c_FALSE, rv c_TRUE, .unset, .unset, .unset, .unset, .unset] [(.ref c_FALSE)])) rfl (hb hby at_31)
    refine Goes.step (T2 := T11) (g2 := (mkF m 34 #[iv p1, iv 0, rv c_FALSE, rv c_TRUE, .unset, .unset, .unset, .unset, .unset] [(.ref c_UNKNOWN), (.ref c_FALSE)])) st11 ?_
    refine Goes.step (T2 := T11) (g2 := (mkF m 37 #[iv p1, iv 0, rv c_FALSE, rv c_TRUE, .unset, .unset, .unset, .unset, .unset] [])) (fun _ hr => Jvm.RoadKit.acmp (g := (mkF m 34 #[iv p1, iv 0, rv c_FALSE, rv c_TRUE, .unset, .unset, .unset, .unset, .unset] [(.ref c_UNKNOWN), (.ref c_FALSE)])) X11 hx rfl rfl rfl (pc0 := 34) (pc' := 37) (same := false) rfl (hb hby at_34) rfl (decide_eq_false fun q => (Fld.ne F_FALSE F_UNKNOWN (fun q => absurd (Value.int.inj q) (by decide))) (Value.ref.inj q)) (by decide) (by decide) hr) ?_
    refine Goes.step (T2 := T11) (g2 := (mkF m 38 #[iv p1, iv 0, rv c_FALSE, rv c_TRUE, .unset, .unset, .unset, .unset, .unset] [(.ref c_TRUE)])) (fun _ hr => XS.aloadN X11.here hx rfl (hb hby at_37) rfl rfl hr) ?_
    obtain ⟨T12, X12, e12, st12⟩ := getS2 X11 hx hZ hown (host := "") (Or.inl (tw hw 8 rfl)) Via.refl e11 S_UNKNOWN (g := (mkF m 38 #[iv p1, iv 0, rv c_FALSE, rv c_TRUE, .unset, .unset, .unset, .unset, .unset] [(.ref c_TRUE)])) rfl (hb hby at_38)
    refine Goes.step (T2 := T12) (g2 := (mkF m 41 #[iv p1, iv 0, rv c_FALSE, rv c_TRUE, .unset, .unset, .unset, .unset, .unset] [(.ref c_UNKNOWN), (.ref c_TRUE)])) st12 ?_
    refine Goes.step (T2 := T12) (g2 := (mkF m 44 #[iv p1, iv 0, rv c_FALSE, rv c_TRUE, .unset, .unset, .unset, .unset, .unset] [])) (fun _ hr => Jvm.RoadKit.acmp (g := (mkF m 41 #[iv p1, iv 0, rv c_FALSE, rv c_TRUE, .unset, .unset, .unset, .unset, .unset] [(.ref c_UNKNOWN), (.ref c_TRUE)])) X12 hx rfl rfl rfl (pc0 := 41) (pc' := 44) (same := false) rfl (hb hby at_41) rfl (decide_eq_false fun q => (Fld.ne F_TRUE F_UNKNOWN (fun q => absurd (Value.int.inj q) (by decide))) (Value.ref.inj q)) (by decide) (by decide) hr) ?_
    refine Goes.step (T2 := T12) (g2 := (mkF m 45 #[iv p1, iv 0, rv c_FALSE, rv c_TRUE, .unset, .unset, .unset, .unset, .unset] [(.int (1 : Int32))])) (fun _ hr => XS.iconst X12.here hx rfl (hb hby at_44) hr) ?_
    refine Goes.step (T2 := T12) (g2 := (mkF m 49 #[iv p1, iv 0, rv c_FALSE, rv c_TRUE, .unset, .unset, .unset, .unset, .unset] [(.int (1 : Int32))])) (fun _ hr => XS.goto X12.here hx rfl (pc0 := 45) (pc' := 49) rfl (hb hby at_45) (by decide) (by decide) hr) ?_
    refine Goes.step (T2 := T12) (g2 := (mkF m 51 #[iv p1, iv 0, rv c_FALSE, rv c_TRUE, iv 1, .unset, .unset, .unset, .unset] [])) (fun _ hr => XS.istore X12.here hx rfl (hb hby at_49) rfl (l' := #[iv p1, iv 0, rv c_FALSE, rv c_TRUE, iv 1, .unset, .unset, .unset, .unset]) rfl hr) ?_
    refine Goes.step (T2 := T12) (g2 := (mkF m 52 #[iv p1, iv 0, rv c_FALSE, rv c_TRUE, iv 1, .unset, .unset, .unset, .unset] [(.ref c_FALSE)])) (fun _ hr => XS.aloadN X12.here hx rfl (hb hby at_51) rfl rfl hr) ?_
    obtain ⟨T13, X13, e13, st13⟩ := getS2 X12 hx hZ hown (host := "") (Or.inl (tw hw 10 rfl)) Via.refl e12 S_TRUE (g := (mkF m 52 #[iv p1, iv 0, rv c_FALSE, rv c_TRUE, iv 1, .unset, .unset, .unset, .unset] [(.ref c_FALSE)])) rfl (hb hby at_52)
    refine Goes.step (T2 := T13) (g2 := (mkF m 55 #[iv p1, iv 0, rv c_FALSE, rv c_TRUE, iv 1, .unset, .unset, .unset, .unset] [(.ref c_TRUE), (.ref c_FALSE)])) st13 ?_
    refine Goes.step (T2 := T13) (g2 := (mkF m 62 #[iv p1, iv 0, rv c_FALSE, rv c_TRUE, iv 1, .unset, .unset, .unset, .unset] [])) (fun _ hr => Jvm.RoadKit.acmp (g := (mkF m 55 #[iv p1, iv 0, rv c_FALSE, rv c_TRUE, iv 1, .unset, .unset, .unset, .unset] [(.ref c_TRUE), (.ref c_FALSE)])) X13 hx rfl rfl rfl (pc0 := 55) (pc' := 62) (same := false) rfl (hb hby at_55) rfl (decide_eq_false fun q => (Fld.ne F_FALSE F_TRUE (fun q => absurd (Value.int.inj q) (by decide))) (Value.ref.inj q)) (by decide) (by decide) hr) ?_
    refine Goes.step (T2 := T13) (g2 := (mkF m 63 #[iv p1, iv 0, rv c_FALSE, rv c_TRUE, iv 1, .unset, .unset, .unset, .unset] [(.int (0 : Int32))])) (fun _ hr => XS.iconst X13.here hx rfl (hb hby at_62) hr) ?_
    refine Goes.step (T2 := T13) (g2 := (mkF m 64 #[iv p1, iv 0, rv c_FALSE, rv c_TRUE, iv 1, .unset, .unset, .unset, .unset] [(.int (0 : Int32)), (.int (0 : Int32))])) (fun _ hr => XS.iloadN X13.here hx rfl (hb hby at_63) rfl  hr) ?_
    refine Goes.step (T2 := T13) (g2 := (mkF m 67 #[iv p1, iv 0, rv c_FALSE, rv c_TRUE, iv 1, .unset, .unset, .unset, .unset] [])) (fun _ hr => XS.icmpNo X13.here hx rfl (hb hby at_64) rfl (teq (by decide : (0 : Int32) = (0 : Int32))).2 hr) ?_
    refine Goes.step (T2 := T13) (g2 := (mkF m 68 #[iv p1, iv 0, rv c_FALSE, rv c_TRUE, iv 1, .unset, .unset, .unset, .unset] [(.int (1 : Int32))])) (fun _ hr => XS.iconst X13.here hx rfl (hb hby at_67) hr) ?_
    refine Goes.step (T2 := T13) (g2 := (mkF m 72 #[iv p1, iv 0, rv c_FALSE, rv c_TRUE, iv 1, .unset, .unset, .unset, .unset] [(.int (1 : Int32))])) (fun _ hr => XS.goto X13.here hx rfl (pc0 := 68) (pc' := 72) rfl (hb hby at_68) (by decide) (by decide) hr) ?_
    refine Goes.step (T2 := T13) (g2 := (mkF m 74 #[iv p1, iv 0, rv c_FALSE, rv c_TRUE, iv 1, iv 1, .unset, .unset, .unset] [])) (fun _ hr => XS.istore X13.here hx rfl (hb hby at_72) rfl (l' := #[iv p1, iv 0, rv c_FALSE, rv c_TRUE, iv 1, iv 1, .unset, .unset, .unset]) rfl hr) ?_
    refine Goes.step (T2 := T13) (g2 := (mkF m 75 #[iv p1, iv 0, rv c_FALSE, rv c_TRUE, iv 1, iv 1, .unset, .unset, .unset] [(.ref c_FALSE)])) (fun _ hr => XS.aloadN X13.here hx rfl (hb hby at_74) rfl rfl hr) ?_
    obtain ⟨T14, X14, e14, st14⟩ := getS2 X13 hx hZ hown (host := "") (Or.inl (tw hw 11 rfl)) Via.refl e13 S_FALSE (g := (mkF m 75 #[iv p1, iv 0, rv c_FALSE, rv c_TRUE, iv 1, iv 1, .unset, .unset, .unset] [(.ref c_FALSE)])) rfl (hb hby at_75)
    refine Goes.step (T2 := T14) (g2 := (mkF m 78 #[iv p1, iv 0, rv c_FALSE, rv c_TRUE, iv 1, iv 1, .unset, .unset, .unset] [(.ref c_FALSE), (.ref c_FALSE)])) st14 ?_
    refine Goes.step (T2 := T14) (g2 := (mkF m 81 #[iv p1, iv 0, rv c_FALSE, rv c_TRUE, iv 1, iv 1, .unset, .unset, .unset] [])) (fun _ hr => Jvm.RoadKit.acmp (g := (mkF m 78 #[iv p1, iv 0, rv c_FALSE, rv c_TRUE, iv 1, iv 1, .unset, .unset, .unset] [(.ref c_FALSE), (.ref c_FALSE)])) X14 hx rfl rfl rfl (pc0 := 78) (pc' := 81) (same := true) rfl (hb hby at_78) rfl (decide_eq_true rfl) (by decide) (by decide) hr) ?_
    refine Goes.step (T2 := T14) (g2 := (mkF m 82 #[iv p1, iv 0, rv c_FALSE, rv c_TRUE, iv 1, iv 1, .unset, .unset, .unset] [(.int (1 : Int32))])) (fun _ hr => XS.iconst X14.here hx rfl (hb hby at_81) hr) ?_
    refine Goes.step (T2 := T14) (g2 := (mkF m 86 #[iv p1, iv 0, rv c_FALSE, rv c_TRUE, iv 1, iv 1, .unset, .unset, .unset] [(.int (1 : Int32))])) (fun _ hr => XS.goto X14.here hx rfl (pc0 := 82) (pc' := 86) rfl (hb hby at_82) (by decide) (by decide) hr) ?_
    refine Goes.step (T2 := T14) (g2 := (mkF m 87 #[iv p1, iv 0, rv c_FALSE, rv c_TRUE, iv 1, iv 1, .unset, .unset, .unset] [(.int (0 : Int32)), (.int (1 : Int32))])) (fun _ hr => XS.iloadN X14.here hx rfl (hb hby at_86) rfl  hr) ?_
    refine Goes.step (T2 := T14) (g2 := (mkF m 90 #[iv p1, iv 0, rv c_FALSE, rv c_TRUE, iv 1, iv 1, .unset, .unset, .unset] [(.int (1 : Int32))])) (fun _ hr => XS.ifNo X14.here hx rfl (hb hby at_87) rfl ((if0 _ _).trans (teq (by decide : (0 : Int32) = (0 : Int32))).2) hr) ?_
    refine Goes.step (T2 := T14) (g2 := (mkF m 91 #[iv p1, iv 0, rv c_FALSE, rv c_TRUE, iv 1, iv 1, .unset, .unset, .unset] [(.int (1 : Int32)), (.int (1 : Int32))])) (fun _ hr => XS.iconst X14.here hx rfl (hb hby at_90) hr) ?_
    refine Goes.step (T2 := T14) (g2 := (mkF m 95 #[iv p1, iv 0, rv c_FALSE, rv c_TRUE, iv 1, iv 1, .unset, .unset, .unset] [(.int (1 : Int32)), (.int (1 : Int32))])) (fun _ hr => XS.goto X14.here hx rfl (pc0 := 91) (pc' := 95) rfl (hb hby at_91) (by decide) (by decide) hr) ?_
    refine Goes.step (T2 := T14) (g2 := (mkF m 98 #[iv p1, iv 0, rv c_FALSE, rv c_TRUE, iv 1, iv 1, .unset, .unset, .unset] [])) (fun _ hr => XS.icmpNo X14.here hx rfl (hb hby at_95) rfl (teq (by decide : (1 : Int32) = (1 : Int32))).2 hr) ?_
    refine Goes.step (T2 := T14) (g2 := (mkF m 99 #[iv p1, iv 0, rv c_FALSE, rv c_TRUE, iv 1, iv 1, .unset, .unset, .unset] [(.int (1 : Int32))])) (fun _ hr => XS.iconst X14.here hx rfl (hb hby at_98) hr) ?_
    refine Goes.step (T2 := T14) (g2 := (mkF m 103 #[iv p1, iv 0, rv c_FALSE, rv c_TRUE, iv 1, iv 1, .unset, .unset, .unset] [(.int (1 : Int32))])) (fun _ hr => XS.goto X14.here hx rfl (pc0 := 99) (pc' := 103) rfl (hb hby at_99) (by decide) (by decide) hr) ?_
    refine Goes.step (T2 := T14) (g2 := (mkF m 105 #[iv p1, iv 0, rv c_FALSE, rv c_TRUE, iv 1, iv 1, iv 1, .unset, .unset] [])) (fun _ hr => XS.istore X14.here hx rfl (hb hby at_103) rfl (l' := #[iv p1, iv 0, rv c_FALSE, rv c_TRUE, iv 1, iv 1, iv 1, .unset, .unset]) rfl hr) ?_
    refine Goes.step (T2 := T14) (g2 := (mkF m 106 #[iv p1, iv 0, rv c_FALSE, rv c_TRUE, iv 1, iv 1, iv 1, .unset, .unset] [(.ref c_FALSE)])) (fun _ hr => XS.aloadN X14.here hx rfl (hb hby at_105) rfl rfl hr) ?_
    refine Goes.step (T2 := T14) (g2 := (mkF m 107 #[iv p1, iv 0, rv c_FALSE, rv c_TRUE, iv 1, iv 1, iv 1, .unset, .unset] [(.ref c_TRUE), (.ref c_FALSE)])) (fun _ hr => XS.aloadN X14.here hx rfl (hb hby at_106) rfl rfl hr) ?_
    refine Goes.step (T2 := T14) (g2 := (mkF m 110 #[iv p1, iv 0, rv c_FALSE, rv c_TRUE, iv 1, iv 1, iv 1, .unset, .unset] [])) (fun _ hr => Jvm.RoadKit.acmp (g := (mkF m 107 #[iv p1, iv 0, rv c_FALSE, rv c_TRUE, iv 1, iv 1, iv 1, .unset, .unset] [(.ref c_TRUE), (.ref c_FALSE)])) X14 hx rfl rfl rfl (pc0 := 107) (pc' := 110) (same := false) rfl (hb hby at_107) rfl (decide_eq_false fun q => (Fld.ne F_FALSE F_TRUE (fun q => absurd (Value.int.inj q) (by decide))) (Value.ref.inj q)) (by decide) (by decide) hr) ?_
    refine Goes.step (T2 := T14) (g2 := (mkF m 111 #[iv p1, iv 0, rv c_FALSE, rv c_TRUE, iv 1, iv 1, iv 1, .unset, .unset] [(.int (1 : Int32))])) (fun _ hr => XS.iconst X14.here hx rfl (hb hby at_110) hr) ?_
    refine Goes.step (T2 := T14) (g2 := (mkF m 115 #[iv p1, iv 0, rv c_FALSE, rv c_TRUE, iv 1, iv 1, iv 1, .unset, .unset] [(.int (1 : Int32))])) (fun _ hr => XS.goto X14.here hx rfl (pc0 := 111) (pc' := 115) rfl (hb hby at_111) (by decide) (by decide) hr) ?_
    refine Goes.step (T2 := T14) (g2 := (mkF m 117 #[iv p1, iv 0, rv c_FALSE, rv c_TRUE, iv 1, iv 1, iv 1, iv 1, .unset] [])) (fun _ hr => XS.istore X14.here hx rfl (hb hby at_115) rfl (l' := #[iv p1, iv 0, rv c_FALSE, rv c_TRUE, iv 1, iv 1, iv 1, iv 1, .unset]) rfl hr) ?_
    refine Goes.step (T2 := T14) (g2 := (mkF m 118 #[iv p1, iv 0, rv c_FALSE, rv c_TRUE, iv 1, iv 1, iv 1, iv 1, .unset] [(.ref c_TRUE)])) (fun _ hr => XS.aloadN X14.here hx rfl (hb hby at_117) rfl rfl hr) ?_
    obtain ⟨cq15, kq15, q15a, q15b, q15c⟩ := isOf hZ e14 E_TRUE
    obtain ⟨_, _, ⟨T15, L15, k15, n15⟩, -, X15, ⟨Lc15, hQ15, l15, y15, z15⟩, st15⟩ := X14.virtualBack hx (y := Y1) (z := Y1) hown (mvT hZ (tw hw 12 rfl)) (mvT hZ (tw hw 13 rfl)) (notFace_of_selects (args := #[]) (mvT hZ (tw hw 15 rfl))) (mvT hZ (tw hw 15 rfl)) (mvT hZ (tw hw 14 rfl)) (by decide) (backOf (W := 0) (rm_negTRUE l Z a0 hw [] c_FALSE c_TRUE c_UNKNOWN h0 n0 Z0 G) hZ (tw hw 16 rfl) (tw hw 2 rfl) (by decide) (by decide)) q15a q15c (g := (mkF m 118 #[iv p1, iv 0, rv c_FALSE, rv c_TRUE, iv 1, iv 1, iv 1, iv 1, .unset] [(.ref c_TRUE)])) rfl (by rw [hml]; rfl) (Steps.refl _) (argsL := []) (rest := []) (lenOf pd_1 rfl) rfl (by show 2 * 0 + _ ≤ _; exact Nat.le_of_eq rfl) (hb hby at_118) (fun _ _ => ⟨rfl, e14, (by decide : 0 + 0 ≤ _), (by decide : 0 + 0 ≤ _)⟩)
    dsimp only [Pt.U, Pt.locs, Pt.cells, Pt.slots] at X15 l15 y15 z15 st15 hQ15
    subst l15 y15 z15
    obtain ⟨rfl, N15q, e15⟩ := hQ15
    have N15 := Fr.app N10 N15q
    refine Goes.step (T2 := T15) (g2 := (mkF m 121 #[iv p1, iv 0, rv c_FALSE, rv c_TRUE, iv 1, iv 1, iv 1, iv 1, .unset] [(.ref c_FALSE)])) (fun _ hr => st15.trans hr) ?_
    refine Goes.step (T2 := T15) (g2 := (mkF m 122 #[iv p1, iv 0, rv c_FALSE, rv c_TRUE, iv 1, iv 1, iv 1, iv 1, .unset] [(.ref c_FALSE), (.ref c_FALSE)])) (fun _ hr => XS.aloadN X15.here hx rfl (hb hby at_121) rfl rfl hr) ?_
    refine Goes.step (T2 := T15) (g2 := (mkF m 125 #[iv p1, iv 0, rv c_FALSE, rv c_TRUE, iv 1, iv 1, iv 1, iv 1, .unset] [])) (fun _ hr => Jvm.RoadKit.acmp (g := (mkF m 122 #[iv p1, iv 0, rv c_FALSE, rv c_TRUE, iv 1, iv 1, iv 1, iv 1, .unset] [(.ref c_FALSE), (.ref c_FALSE)])) X15 hx rfl rfl rfl (pc0 := 122) (pc' := 125) (same := true) rfl (hb hby at_122) rfl (decide_eq_true rfl) (by decide) (by decide) hr) ?_
    refine Goes.step (T2 := T15) (g2 := (mkF m 126 #[iv p1, iv 0, rv c_FALSE, rv c_TRUE, iv 1, iv 1, iv 1, iv 1, .unset] [(.int (1 : Int32))])) (fun _ hr => XS.iconst X15.here hx rfl (hb hby at_125) hr) ?_
    refine Goes.step (T2 := T15) (g2 := (mkF m 130 #[iv p1, iv 0, rv c_FALSE, rv c_TRUE, iv 1, iv 1, iv 1, iv 1, .unset] [(.int (1 : Int32))])) (fun _ hr => XS.goto X15.here hx rfl (pc0 := 126) (pc' := 130) rfl (hb hby at_126) (by decide) (by decide) hr) ?_
    refine Goes.step (T2 := T15) (g2 := (mkF m 132 #[iv p1, iv 0, rv c_FALSE, rv c_TRUE, iv 1, iv 1, iv 1, iv 1, iv 1] [])) (fun _ hr => XS.istore X15.here hx rfl (hb hby at_130) rfl (l' := #[iv p1, iv 0, rv c_FALSE, rv c_TRUE, iv 1, iv 1, iv 1, iv 1, iv 1]) rfl hr) ?_
    refine Goes.step (T2 := T15) (g2 := (mkF m 134 #[iv p1, iv 0, rv c_FALSE, rv c_TRUE, iv 1, iv 1, iv 1, iv 1, iv 1] [(.int (1 : Int32))])) (fun _ hr => XS.iload X15.here hx rfl (hb hby at_132) rfl  hr) ?_
    refine Goes.step (T2 := T15) (g2 := (mkF m 137 #[iv p1, iv 0, rv c_FALSE, rv c_TRUE, iv 1, iv 1, iv 1, iv 1, iv 1] [])) (fun _ hr => XS.ifNo X15.here hx rfl (hb hby at_134) rfl ((if0 _ _).trans (feq (by decide : ¬ ((1 : Int32) = (0 : Int32)))).1) hr) ?_
    refine Goes.step (T2 := T15) (g2 := (mkF m 139 #[iv p1, iv 0, rv c_FALSE, rv c_TRUE, iv 1, iv 1, iv 1, iv 1, iv 1] [(.int (1 : Int32))])) (fun _ hr => XS.iload X15.here hx rfl (hb hby at_137) rfl  hr) ?_
    refine Goes.step (T2 := T15) (g2 := (mkF m 142 #[iv p1, iv 0, rv c_FALSE, rv c_TRUE, iv 1, iv 1, iv 1, iv 1, iv 1] [])) (fun _ hr => XS.ifNo X15.here hx rfl (hb hby at_139) rfl ((if0 _ _).trans (feq (by decide : ¬ ((1 : Int32) = (0 : Int32)))).1) hr) ?_
    refine Goes.step (T2 := T15) (g2 := (mkF m 144 #[iv p1, iv 0, rv c_FALSE, rv c_TRUE, iv 1, iv 1, iv 1, iv 1, iv 1] [(.int (1 : Int32))])) (fun _ hr => XS.iload X15.here hx rfl (hb hby at_142) rfl  hr) ?_
    refine Goes.step (T2 := T15) (g2 := (mkF m 147 #[iv p1, iv 0, rv c_FALSE, rv c_TRUE, iv 1, iv 1, iv 1, iv 1, iv 1] [])) (fun _ hr => XS.ifNo X15.here hx rfl (hb hby at_144) rfl ((if0 _ _).trans (feq (by decide : ¬ ((1 : Int32) = (0 : Int32)))).1) hr) ?_
    refine Goes.step (T2 := T15) (g2 := (mkF m 149 #[iv p1, iv 0, rv c_FALSE, rv c_TRUE, iv 1, iv 1, iv 1, iv 1, iv 1] [(.int (1 : Int32))])) (fun _ hr => XS.iload X15.here hx rfl (hb hby at_147) rfl  hr) ?_
    refine Goes.step (T2 := T15) (g2 := (mkF m 152 #[iv p1, iv 0, rv c_FALSE, rv c_TRUE, iv 1, iv 1, iv 1, iv 1, iv 1] [])) (fun _ hr => XS.ifNo X15.here hx rfl (hb hby at_149) rfl ((if0 _ _).trans (feq (by decide : ¬ ((1 : Int32) = (0 : Int32)))).1) hr) ?_
    refine Goes.step (T2 := T15) (g2 := (mkF m 154 #[iv p1, iv 0, rv c_FALSE, rv c_TRUE, iv 1, iv 1, iv 1, iv 1, iv 1] [(.int (1 : Int32))])) (fun _ hr => XS.iload X15.here hx rfl (hb hby at_152) rfl  hr) ?_
    refine Goes.step (T2 := T15) (g2 := (mkF m 157 #[iv p1, iv 0, rv c_FALSE, rv c_TRUE, iv 1, iv 1, iv 1, iv 1, iv 1] [])) (fun _ hr => XS.ifNo X15.here hx rfl (hb hby at_154) rfl ((if0 _ _).trans (feq (by decide : ¬ ((1 : Int32) = (0 : Int32)))).1) hr) ?_
    refine Goes.step (T2 := T15) (g2 := (mkF m 158 #[iv p1, iv 0, rv c_FALSE, rv c_TRUE, iv 1, iv 1, iv 1, iv 1, iv 1] [(.int (1 : Int32))])) (fun _ hr => XS.iconst X15.here hx rfl (hb hby at_157) hr) ?_
    refine Goes.step (T2 := T15) (g2 := (mkF m 162 #[iv p1, iv 0, rv c_FALSE, rv c_TRUE, iv 1, iv 1, iv 1, iv 1, iv 1] [(.int (1 : Int32))])) (fun _ hr => XS.goto X15.here hx rfl (pc0 := 158) (pc' := 162) rfl (hb hby at_158) (by decide) (by decide) hr) ?_
    exact Goes.ret (v := some (.int (1 : Int32))) X15 (by decide) (by decide) (fun h => by rw [Bd.returns] at h; cases h) ⟨rfl, N15⟩ (fun fs hr => retN X15 hx (t := .boolean) Bd.returns (by simp) (hb hby at_162) hr)
  · rw [hk]
    refine Goes.step (T2 := s₁) (g2 := (mkF m 6 #[iv p1, .unset, .unset, .unset, .unset, .unset, .unset, .unset, .unset] [])) (fun _ hr => XS.ifNo X0.here hx rfl (hb hby at_3) rfl ((if0 _ _).trans (feq (by decide : ¬ ((1 : Int32) = (0 : Int32)))).1) hr) ?_
    refine Goes.step (T2 := s₁) (g2 := (mkF m 7 #[iv p1, .unset, .unset, .unset, .unset, .unset, .unset, .unset, .unset] [(.int (1 : Int32))])) (fun _ hr => XS.iconst X0.here hx rfl (hb hby at_6) hr) ?_
    refine Goes.step (T2 := s₁) (g2 := (mkF m 11 #[iv p1, .unset, .unset, .unset, .unset, .unset, .unset, .unset, .unset] [(.int (1 : Int32))])) (fun _ hr => XS.goto X0.here hx rfl (pc0 := 7) (pc' := 11) rfl (hb hby at_7) (by decide) (by decide) hr) ?_
    refine Goes.step (T2 := s₁) (g2 := (mkF m 12 #[iv p1, iv 1, .unset, .unset, .unset, .unset, .unset, .unset, .unset] [])) (fun _ hr => XS.istoreN X0.here hx rfl (hb hby at_11) rfl (l' := #[iv p1, iv 1, .unset, .unset, .unset, .unset, .unset, .unset, .unset]) rfl hr) ?_
    refine Goes.step (T2 := s₁) (g2 := (mkF m 13 #[iv p1, iv 1, .unset, .unset, .unset, .unset, .unset, .unset, .unset] [(.int (1 : Int32))])) (fun _ hr => XS.iloadN X0.here hx rfl (hb hby at_12) rfl  hr) ?_
    obtain ⟨_, _, ⟨T16, L16, k16, n16⟩, -, X16, ⟨Lc16, hQ16, l16, y16, z16⟩, st16⟩ := Jvm.LawKit.callS X0 hx (y := Y0) hown (mvT hZ (tw hw 0 rfl)) (mvT hZ (tw hw 1 rfl)) (mvT hZ (tw hw 2 rfl)) (mvT hZ (tw hw 3 rfl)) (by decide) (backOf (W := 0) (rm_of1 l Z a0 hw [] c_FALSE c_TRUE c_UNKNOWN h0 n0 Z0 G) hZ (tw hw 3 rfl) (tw hw 2 rfl) (by decide) (by decide)) (g := (mkF m 13 #[iv p1, iv 1, .unset, .unset, .unset, .unset, .unset, .unset, .unset] [(.int (1 : Int32))])) rfl (by rw [hml]; rfl) (argsL := [(.int (1 : Int32))]) (rest := []) (lenOf pd_0 rfl) rfl (by show 2 * 0 + _ ≤ _; exact Nat.le_of_eq rfl) (hb hby at_13) (fun _ _ => ⟨rfl, e0, (by decide : 0 + 0 ≤ _), (by decide : 0 + 0 ≤ _)⟩)
    dsimp only [Pt.U, Pt.locs, Pt.cells, Pt.slots] at X16 l16 y16 z16 st16 hQ16
    subst l16 y16 z16
    obtain ⟨rfl, N16q, e16⟩ := hQ16
    have N16 := Fr.app N0 N16q
    refine Goes.step (T2 := T16) (g2 := (mkF m 16 #[iv p1, iv 1, .unset, .unset, .unset, .unset, .unset, .unset, .unset] [(.ref c_TRUE)])) st16 ?_
    refine Goes.step (T2 := T16) (g2 := (mkF m 17 #[iv p1, iv 1, rv c_TRUE, .unset, .unset, .unset, .unset, .unset, .unset] [])) (fun _ hr => XS.astoreN X16.here hx rfl (hb hby at_16) rfl rfl (l' := #[iv p1, iv 1, rv c_TRUE, .unset, .unset, .unset, .unset, .unset, .unset]) rfl hr) ?_
    refine Goes.step (T2 := T16) (g2 := (mkF m 18 #[iv p1, iv 1, rv c_TRUE, .unset, .unset, .unset, .unset, .unset, .unset] [(.int (1 : Int32))])) (fun _ hr => XS.iloadN X16.here hx rfl (hb hby at_17) rfl  hr) ?_
    refine Goes.step (T2 := T16) (g2 := (mkF m 25 #[iv p1, iv 1, rv c_TRUE, .unset, .unset, .unset, .unset, .unset, .unset] [])) (fun _ hr => XS.ifYes X16.here hx rfl (pc0 := 18) (pc' := 25) rfl (hb hby at_18) rfl ((if0 _ _).trans (feq (by decide : ¬ ((1 : Int32) = (0 : Int32)))).2) (by decide) (by decide) hr) ?_
    refine Goes.step (T2 := T16) (g2 := (mkF m 26 #[iv p1, iv 1, rv c_TRUE, .unset, .unset, .unset, .unset, .unset, .unset] [(.int (0 : Int32))])) (fun _ hr => XS.iconst X16.here hx rfl (hb hby at_25) hr) ?_
    obtain ⟨_, _, ⟨T17, L17, k17, n17⟩, -, X17, ⟨Lc17, hQ17, l17, y17, z17⟩, st17⟩ := Jvm.LawKit.callS X16 hx (y := Y0) hown (mvT hZ (tw hw 0 rfl)) (mvT hZ (tw hw 1 rfl)) (mvT hZ (tw hw 2 rfl)) (mvT hZ (tw hw 3 rfl)) (by decide) (backOf (W := 0) (rm_of0 l Z a0 hw [] c_FALSE c_TRUE c_UNKNOWN h0 n0 Z0 G) hZ (tw hw 3 rfl) (tw hw 2 rfl) (by decide) (by decide)) (g := (mkF m 26 #[iv p1, iv 1, rv c_TRUE, .unset, .unset, .unset, .unset, .unset, .unset] [(.int (0 : Int32))])) rfl (by rw [hml]; rfl) (argsL := [(.int (0 : Int32))]) (rest := []) (lenOf pd_0 rfl) rfl (by show 2 * 0 + _ ≤ _; exact Nat.le_of_eq rfl) (hb hby at_26) (fun _ _ => ⟨rfl, e16, (by decide : 0 + 0 ≤ _), (by decide : 0 + 0 ≤ _)⟩)
    dsimp only [Pt.U, Pt.locs, Pt.cells, Pt.slots] at X17 l17 y17 z17 st17 hQ17
    subst l17 y17 z17
    obtain ⟨rfl, N17q, e17⟩ := hQ17
    have N17 := Fr.app N16 N17q
    refine Goes.step (T2 := T17) (g2 := (mkF m 29 #[iv p1, iv 1, rv c_TRUE, .unset, .unset, .unset, .unset, .unset, .unset] [(.ref c_FALSE)])) st17 ?_
    refine Goes.step (T2 := T17) (g2 := (mkF m 30 #[iv p1, iv 1, rv c_TRUE, rv c_FALSE, .unset, .unset, .unset, .unset, .unset] [])) (fun _ hr => XS.astoreN X17.here hx rfl (hb hby at_29) rfl rfl (l' := #[iv p1, iv 1, rv c_TRUE, rv c_FALSE, .unset, .unset, .unset, .unset, .unset]) rfl hr) ?_
    refine Goes.step (T2 := T17) (g2 := (mkF m 31 #[iv p1, iv 1, rv c_TRUE, rv c_FALSE, .unset, .unset, .unset, .unset, .unset] [(.ref c_TRUE)])) (fun _ hr => XS.aloadN X17.here hx rfl (hb hby at_30) rfl rfl hr) ?_
    obtain ⟨T18, X18, e18, st18⟩ := getS2 X17 hx hZ hown (host := "") (Or.inl (tw hw 8 rfl)) Via.refl e17 S_UNKNOWN (g := (mkF m 31 #[iv p1, iv 1, rv c_TRUE, rv c_FALSE, .unset, .unset, .unset, .unset, .unset] [(.ref c_TRUE)])) rfl (hb hby at_31)
    refine Goes.step (T2 := T18) (g2 := (mkF m 34 #[iv p1, iv 1, rv c_TRUE, rv c_FALSE, .unset, .unset, .unset, .unset, .unset] [(.ref c_UNKNOWN), (.ref c_TRUE)])) st18 ?_
    refine Goes.step (T2 := T18) (g2 := (mkF m 37 #[iv p1, iv 1, rv c_TRUE, rv c_FALSE, .unset, .unset, .unset, .unset, .unset] [])) (fun _ hr => Jvm.RoadKit.acmp (g := (mkF m 34 #[iv p1, iv 1, rv c_TRUE, rv c_FALSE, .unset, .unset, .unset, .unset, .unset] [(.ref c_UNKNOWN), (.ref c_TRUE)])) X18 hx rfl rfl rfl (pc0 := 34) (pc' := 37) (same := false) rfl (hb hby at_34) rfl (decide_eq_false fun q => (Fld.ne F_TRUE F_UNKNOWN (fun q => absurd (Value.int.inj q) (by decide))) (Value.ref.inj q)) (by decide) (by decide) hr) ?_
    refine Goes.step (T2 := T18) (g2 := (mkF m 38 #[iv p1, iv 1, rv c_TRUE, rv c_FALSE, .unset, .unset, .unset, .unset, .unset] [(.ref c_FALSE)])) (fun _ hr => XS.aloadN X18.here hx rfl (hb hby at_37) rfl rfl hr) ?_
    obtain ⟨T19, X19, e19, st19⟩ := getS2 X18 hx hZ hown (host := "") (Or.inl (tw hw 8 rfl)) Via.refl e18 S_UNKNOWN (g := (mkF m 38 #[iv p1, iv 1, rv c_TRUE, rv c_FALSE, .unset, .unset, .unset, .unset, .unset] [(.ref c_FALSE)])) rfl (hb hby at_38)
    refine Goes.step (T2 := T19) (g2 := (mkF m 41 #[iv p1, iv 1, rv c_TRUE, rv c_FALSE, .unset, .unset, .unset, .unset, .unset] [(.ref c_UNKNOWN), (.ref c_FALSE)])) st19 ?_
    refine Goes.step (T2 := T19) (g2 := (mkF m 44 #[iv p1, iv 1, rv c_TRUE, rv c_FALSE, .unset, .unset, .unset, .unset, .unset] [])) (fun _ hr => Jvm.RoadKit.acmp (g := (mkF m 41 #[iv p1, iv 1, rv c_TRUE, rv c_FALSE, .unset, .unset, .unset, .unset, .unset] [(.ref c_UNKNOWN), (.ref c_FALSE)])) X19 hx rfl rfl rfl (pc0 := 41) (pc' := 44) (same := false) rfl (hb hby at_41) rfl (decide_eq_false fun q => (Fld.ne F_FALSE F_UNKNOWN (fun q => absurd (Value.int.inj q) (by decide))) (Value.ref.inj q)) (by decide) (by decide) hr) ?_
    refine Goes.step (T2 := T19) (g2 := (mkF m 45 #[iv p1, iv 1, rv c_TRUE, rv c_FALSE, .unset, .unset, .unset, .unset, .unset] [(.int (1 : Int32))])) (fun _ hr => XS.iconst X19.here hx rfl (hb hby at_44) hr) ?_
    refine Goes.step (T2 := T19) (g2 := (mkF m 49 #[iv p1, iv 1, rv c_TRUE, rv c_FALSE, .unset, .unset, .unset, .unset, .unset] [(.int (1 : Int32))])) (fun _ hr => XS.goto X19.here hx rfl (pc0 := 45) (pc' := 49) rfl (hb hby at_45) (by decide) (by decide) hr) ?_
    refine Goes.step (T2 := T19) (g2 := (mkF m 51 #[iv p1, iv 1, rv c_TRUE, rv c_FALSE, iv 1, .unset, .unset, .unset, .unset] [])) (fun _ hr => XS.istore X19.here hx rfl (hb hby at_49) rfl (l' := #[iv p1, iv 1, rv c_TRUE, rv c_FALSE, iv 1, .unset, .unset, .unset, .unset]) rfl hr) ?_
    refine Goes.step (T2 := T19) (g2 := (mkF m 52 #[iv p1, iv 1, rv c_TRUE, rv c_FALSE, iv 1, .unset, .unset, .unset, .unset] [(.ref c_TRUE)])) (fun _ hr => XS.aloadN X19.here hx rfl (hb hby at_51) rfl rfl hr) ?_
    obtain ⟨T20, X20, e20, st20⟩ := getS2 X19 hx hZ hown (host := "") (Or.inl (tw hw 10 rfl)) Via.refl e19 S_TRUE (g := (mkF m 52 #[iv p1, iv 1, rv c_TRUE, rv c_FALSE, iv 1, .unset, .unset, .unset, .unset] [(.ref c_TRUE)])) rfl (hb hby at_52)
    refine Goes.step (T2 := T20) (g2 := (mkF m 55 #[iv p1, iv 1, rv c_TRUE, rv c_FALSE, iv 1, .unset, .unset, .unset, .unset] [(.ref c_TRUE), (.ref c_TRUE)])) st20 ?_
    refine Goes.step (T2 := T20) (g2 := (mkF m 58 #[iv p1, iv 1, rv c_TRUE, rv c_FALSE, iv 1, .unset, .unset, .unset, .unset] [])) (fun _ hr => Jvm.RoadKit.acmp (g := (mkF m 55 #[iv p1, iv 1, rv c_TRUE, rv c_FALSE, iv 1, .unset, .unset, .unset, .unset] [(.ref c_TRUE), (.ref c_TRUE)])) X20 hx rfl rfl rfl (pc0 := 55) (pc' := 58) (same := true) rfl (hb hby at_55) rfl (decide_eq_true rfl) (by decide) (by decide) hr) ?_
    refine Goes.step (T2 := T20) (g2 := (mkF m 59 #[iv p1, iv 1, rv c_TRUE, rv c_FALSE, iv 1, .unset, .unset, .unset, .unset] [(.int (1 : Int32))])) (fun _ hr => XS.iconst X20.here hx rfl (hb hby at_58) hr) ?_
    refine Goes.step (T2 := T20) (g2 := (mkF m 63 #[iv p1, iv 1, rv c_TRUE, rv c_FALSE, iv 1, .unset, .unset, .unset, .unset] [(.int (1 : Int32))])) (fun _ hr => XS.goto X20.here hx rfl (pc0 := 59) (pc' := 63) rfl (hb hby at_59) (by decide) (by decide) hr) ?_
    refine Goes.step (T2 := T20) (g2 := (mkF m 64 #[iv p1, iv 1, rv c_TRUE, rv c_FALSE, iv 1, .unset, .unset, .unset, .unset] [(.int (1 : Int32)), (.int (1 : Int32))])) (fun _ hr => XS.iloadN X20.here hx rfl (hb hby at_63) rfl  hr) ?_
    refine Goes.step (T2 := T20) (g2 := (mkF m 67 #[iv p1, iv 1, rv c_TRUE, rv c_FALSE, iv 1, .unset, .unset, .unset, .unset] [])) (fun _ hr => XS.icmpNo X20.here hx rfl (hb hby at_64) rfl (teq (by decide : (1 : Int32) = (1 : Int32))).2 hr) ?_
    refine Goes.step (T2 := T20) (g2 := (mkF m 68 #[iv p1, iv 1, rv c_TRUE, rv c_FALSE, iv 1, .unset, .unset, .unset, .unset] [(.int (1 : Int32))])) (fun _ hr => XS.iconst X20.here hx rfl (hb hby at_67) hr) ?_
    refine Goes.step (T2 := T20) (g2 := (mkF m 72 #[iv p1, iv 1, rv c_TRUE, rv c_FALSE, iv 1, .unset, .unset, .unset, .unset] [(.int (1 : Int32))])) (fun _ hr => XS.goto X20.here hx rfl (pc0 := 68) (pc' := 72) rfl (hb hby at_68) (by decide) (by decide) hr) ?_
    refine Goes.step (T2 := T20) (g2 := (mkF m 74 #[iv p1, iv 1, rv c_TRUE, rv c_FALSE, iv 1, iv 1, .unset, .unset, .unset] [])) (fun _ hr => XS.istore X20.here hx rfl (hb hby at_72) rfl (l' := #[iv p1, iv 1, rv c_TRUE, rv c_FALSE, iv 1, iv 1, .unset, .unset, .unset]) rfl hr) ?_
    refine Goes.step (T2 := T20) (g2 := (mkF m 75 #[iv p1, iv 1, rv c_TRUE, rv c_FALSE, iv 1, iv 1, .unset, .unset, .unset] [(.ref c_TRUE)])) (fun _ hr => XS.aloadN X20.here hx rfl (hb hby at_74) rfl rfl hr) ?_
    obtain ⟨T21, X21, e21, st21⟩ := getS2 X20 hx hZ hown (host := "") (Or.inl (tw hw 11 rfl)) Via.refl e20 S_FALSE (g := (mkF m 75 #[iv p1, iv 1, rv c_TRUE, rv c_FALSE, iv 1, iv 1, .unset, .unset, .unset] [(.ref c_TRUE)])) rfl (hb hby at_75)
    refine Goes.step (T2 := T21) (g2 := (mkF m 78 #[iv p1, iv 1, rv c_TRUE, rv c_FALSE, iv 1, iv 1, .unset, .unset, .unset] [(.ref c_FALSE), (.ref c_TRUE)])) st21 ?_
    refine Goes.step (T2 := T21) (g2 := (mkF m 85 #[iv p1, iv 1, rv c_TRUE, rv c_FALSE, iv 1, iv 1, .unset, .unset, .unset] [])) (fun _ hr => Jvm.RoadKit.acmp (g := (mkF m 78 #[iv p1, iv 1, rv c_TRUE, rv c_FALSE, iv 1, iv 1, .unset, .unset, .unset] [(.ref c_FALSE), (.ref c_TRUE)])) X21 hx rfl rfl rfl (pc0 := 78) (pc' := 85) (same := false) rfl (hb hby at_78) rfl (decide_eq_false fun q => (Fld.ne F_TRUE F_FALSE (fun q => absurd (Value.int.inj q) (by decide))) (Value.ref.inj q)) (by decide) (by decide) hr) ?_
    refine Goes.step (T2 := T21) (g2 := (mkF m 86 #[iv p1, iv 1, rv c_TRUE, rv c_FALSE, iv 1, iv 1, .unset, .unset, .unset] [(.int (0 : Int32))])) (fun _ hr => XS.iconst X21.here hx rfl (hb hby at_85) hr) ?_
    refine Goes.step (T2 := T21) (g2 := (mkF m 87 #[iv p1, iv 1, rv c_TRUE, rv c_FALSE, iv 1, iv 1, .unset, .unset, .unset] [(.int (1 : Int32)), (.int (0 : Int32))])) (fun _ hr => XS.iloadN X21.here hx rfl (hb hby at_86) rfl  hr) ?_
    refine Goes.step (T2 := T21) (g2 := (mkF m 94 #[iv p1, iv 1, rv c_TRUE, rv c_FALSE, iv 1, iv 1, .unset, .unset, .unset] [(.int (0 : Int32))])) (fun _ hr => XS.ifYes X21.here hx rfl (pc0 := 87) (pc' := 94) rfl (hb hby at_87) rfl ((if0 _ _).trans (feq (by decide : ¬ ((1 : Int32) = (0 : Int32)))).2) (by decide) (by decide) hr) ?_
    refine Goes.step (T2 := T21) (g2 := (mkF m 95 #[iv p1, iv 1, rv c_TRUE, rv c_FALSE, iv 1, iv 1, .unset, .unset, .unset] [(.int (0 : Int32)), (.int (0 : Int32))])) (fun _ hr => XS.iconst X21.here hx rfl (hb hby at_94) hr) ?_
    refine Goes.step (T2 := T21) (g2 := (mkF m 98 #[iv p1, iv 1, rv c_TRUE, rv c_FALSE, iv 1, iv 1, .unset, .unset, .unset] [])) (fun _ hr => XS.icmpNo X21.here hx rfl (hb hby at_95) rfl (teq (by decide : (0 : Int32) = (0 : Int32))).2 hr) ?_
    refine Goes.step (T2 := T21) (g2 := (mkF m 99 #[iv p1, iv 1, rv c_TRUE, rv c_FALSE, iv 1, iv 1, .unset, .unset, .unset] [(.int (1 : Int32))])) (fun _ hr => XS.iconst X21.here hx rfl (hb hby at_98) hr) ?_
    refine Goes.step (T2 := T21) (g2 := (mkF m 103 #[iv p1, iv 1, rv c_TRUE, rv c_FALSE, iv 1, iv 1, .unset, .unset, .unset] [(.int (1 : Int32))])) (fun _ hr => XS.goto X21.here hx rfl (pc0 := 99) (pc' := 103) rfl (hb hby at_99) (by decide) (by decide) hr) ?_
    refine Goes.step (T2 := T21) (g2 := (mkF m 105 #[iv p1, iv 1, rv c_TRUE, rv c_FALSE, iv 1, iv 1, iv 1, .unset, .unset] [])) (fun _ hr => XS.istore X21.here hx rfl (hb hby at_103) rfl (l' := #[iv p1, iv 1, rv c_TRUE, rv c_FALSE, iv 1, iv 1, iv 1, .unset, .unset]) rfl hr) ?_
    refine Goes.step (T2 := T21) (g2 := (mkF m 106 #[iv p1, iv 1, rv c_TRUE, rv c_FALSE, iv 1, iv 1, iv 1, .unset, .unset] [(.ref c_TRUE)])) (fun _ hr => XS.aloadN X21.here hx rfl (hb hby at_105) rfl rfl hr) ?_
    refine Goes.step (T2 := T21) (g2 := (mkF m 107 #[iv p1, iv 1, rv c_TRUE, rv c_FALSE, iv 1, iv 1, iv 1, .unset, .unset] [(.ref c_FALSE), (.ref c_TRUE)])) (fun _ hr => XS.aloadN X21.here hx rfl (hb hby at_106) rfl rfl hr) ?_
    refine Goes.step (T2 := T21) (g2 := (mkF m 110 #[iv p1, iv 1, rv c_TRUE, rv c_FALSE, iv 1, iv 1, iv 1, .unset, .unset] [])) (fun _ hr => Jvm.RoadKit.acmp (g := (mkF m 107 #[iv p1, iv 1, rv c_TRUE, rv c_FALSE, iv 1, iv 1, iv 1, .unset, .unset] [(.ref c_FALSE), (.ref c_TRUE)])) X21 hx rfl rfl rfl (pc0 := 107) (pc' := 110) (same := false) rfl (hb hby at_107) rfl (decide_eq_false fun q => (Fld.ne F_TRUE F_FALSE (fun q => absurd (Value.int.inj q) (by decide))) (Value.ref.inj q)) (by decide) (by decide) hr) ?_
    refine Goes.step (T2 := T21) (g2 := (mkF m 111 #[iv p1, iv 1, rv c_TRUE, rv c_FALSE, iv 1, iv 1, iv 1, .unset, .unset] [(.int (1 : Int32))])) (fun _ hr => XS.iconst X21.here hx rfl (hb hby at_110) hr) ?_
    refine Goes.step (T2 := T21) (g2 := (mkF m 115 #[iv p1, iv 1, rv c_TRUE, rv c_FALSE, iv 1, iv 1, iv 1, .unset, .unset] [(.int (1 : Int32))])) (fun _ hr => XS.goto X21.here hx rfl (pc0 := 111) (pc' := 115) rfl (hb hby at_111) (by decide) (by decide) hr) ?_
    refine Goes.step (T2 := T21) (g2 := (mkF m 117 #[iv p1, iv 1, rv c_TRUE, rv c_FALSE, iv 1, iv 1, iv 1, iv 1, .unset] [])) (fun _ hr => XS.istore X21.here hx rfl (hb hby at_115) rfl (l' := #[iv p1, iv 1, rv c_TRUE, rv c_FALSE, iv 1, iv 1, iv 1, iv 1, .unset]) rfl hr) ?_
    refine Goes.step (T2 := T21) (g2 := (mkF m 118 #[iv p1, iv 1, rv c_TRUE, rv c_FALSE, iv 1, iv 1, iv 1, iv 1, .unset] [(.ref c_FALSE)])) (fun _ hr => XS.aloadN X21.here hx rfl (hb hby at_117) rfl rfl hr) ?_
    obtain ⟨cq22, kq22, q22a, q22b, q22c⟩ := isOf hZ e21 E_FALSE
    obtain ⟨_, _, ⟨T22, L22, k22, n22⟩, -, X22, ⟨Lc22, hQ22, l22, y22, z22⟩, st22⟩ := X21.virtualBack hx (y := Y1) (z := Y1) hown (mvT hZ (tw hw 12 rfl)) (mvT hZ (tw hw 13 rfl)) (notFace_of_selects (args := #[]) (mvT hZ (tw hw 15 rfl))) (mvT hZ (tw hw 15 rfl)) (mvT hZ (tw hw 14 rfl)) (by decide) (backOf (W := 0) (rm_negFALSE l Z a0 hw [] c_FALSE c_TRUE c_UNKNOWN h0 n0 Z0 G) hZ (tw hw 16 rfl) (tw hw 2 rfl) (by decide) (by decide)) q22a q22c (g := (mkF m 118 #[iv p1, iv 1, rv c_TRUE, rv c_FALSE, iv 1, iv 1, iv 1, iv 1, .unset] [(.ref c_FALSE)])) rfl (by rw [hml]; rfl) (Steps.refl _) (argsL := []) (rest := []) (lenOf pd_1 rfl) rfl (by show 2 * 0 + _ ≤ _; exact Nat.le_of_eq rfl) (hb hby at_118) (fun _ _ => ⟨rfl, e21, (by decide : 0 + 0 ≤ _), (by decide : 0 + 0 ≤ _)⟩)
    dsimp only [Pt.U, Pt.locs, Pt.cells, Pt.slots] at X22 l22 y22 z22 st22 hQ22
    subst l22 y22 z22
    obtain ⟨rfl, N22q, e22⟩ := hQ22
    have N22 := Fr.app N17 N22q
    refine Goes.step (T2 := T22) (g2 := (mkF m 121 #[iv p1, iv 1, rv c_TRUE, rv c_FALSE, iv 1, iv 1, iv 1, iv 1, .unset] [(.ref c_TRUE)])) (fun _ hr => st22.trans hr) ?_
    refine Goes.step (T2 := T22) (g2 := (mkF m 122 #[iv p1, iv 1, rv c_TRUE, rv c_FALSE, iv 1, iv 1, iv 1, iv 1, .unset] [(.ref c_TRUE), (.ref c_TRUE)])) (fun _ hr => XS.aloadN X22.here hx rfl (hb hby at_121) rfl rfl hr) ?_
    refine Goes.step (T2 := T22) (g2 := (mkF m 125 #[iv p1, iv 1, rv c_TRUE, rv c_FALSE, iv 1, iv 1, iv 1, iv 1, .unset] [])) (fun _ hr => Jvm.RoadKit.acmp (g := (mkF m 122 #[iv p1, iv 1, rv c_TRUE, rv c_FALSE, iv 1, iv 1, iv 1, iv 1, .unset] [(.ref c_TRUE), (.ref c_TRUE)])) X22 hx rfl rfl rfl (pc0 := 122) (pc' := 125) (same := true) rfl (hb hby at_122) rfl (decide_eq_true rfl) (by decide) (by decide) hr) ?_
    refine Goes.step (T2 := T22) (g2 := (mkF m 126 #[iv p1, iv 1, rv c_TRUE, rv c_FALSE, iv 1, iv 1, iv 1, iv 1, .unset] [(.int (1 : Int32))])) (fun _ hr => XS.iconst X22.here hx rfl (hb hby at_125) hr) ?_
    refine Goes.step (T2 := T22) (g2 := (mkF m 130 #[iv p1, iv 1, rv c_TRUE, rv c_FALSE, iv 1, iv 1, iv 1, iv 1, .unset] [(.int (1 : Int32))])) (fun _ hr => XS.goto X22.here hx rfl (pc0 := 126) (pc' := 130) rfl (hb hby at_126) (by decide) (by decide) hr) ?_
    refine Goes.step (T2 := T22) (g2 := (mkF m 132 #[iv p1, iv 1, rv c_TRUE, rv c_FALSE, iv 1, iv 1, iv 1, iv 1, iv 1] [])) (fun _ hr => XS.istore X22.here hx rfl (hb hby at_130) rfl (l' := #[iv p1, iv 1, rv c_TRUE, rv c_FALSE, iv 1, iv 1, iv 1, iv 1, iv 1]) rfl hr) ?_
    refine Goes.step (T2 := T22) (g2 := (mkF m 134 #[iv p1, iv 1, rv c_TRUE, rv c_FALSE, iv 1, iv 1, iv 1, iv 1, iv 1] [(.int (1 : Int32))])) (fun _ hr => XS.iload X22.here hx rfl (hb hby at_132) rfl  hr) ?_
    refine Goes.step (T2 := T22) (g2 := (mkF m 137 #[iv p1, iv 1, rv c_TRUE, rv c_FALSE, iv 1, iv 1, iv 1, iv 1, iv 1] [])) (fun _ hr => XS.ifNo X22.here hx rfl (hb hby at_134) rfl ((if0 _ _).trans (feq (by decide : ¬ ((1 : Int32) = (0 : Int32)))).1) hr) ?_
    refine Goes.step (T2 := T22) (g2 := (mkF m 139 #[iv p1, iv 1, rv c_TRUE, rv c_FALSE, iv 1, iv 1, iv 1, iv 1, iv 1] [(.int (1 : Int32))])) (fun _ hr => XS.iload X22.here hx rfl (hb hby at_137) rfl  hr) ?_
    refine Goes.step (T2 := T22) (g2 := (mkF m 142 #[iv p1, iv 1, rv c_TRUE, rv c_FALSE, iv 1, iv 1, iv 1, iv 1, iv 1] [])) (fun _ hr => XS.ifNo X22.here hx rfl (hb hby at_139) rfl ((if0 _ _).trans (feq (by decide : ¬ ((1 : Int32) = (0 : Int32)))).1) hr) ?_
    refine Goes.step (T2 := T22) (g2 := (mkF m 144 #[iv p1, iv 1, rv c_TRUE, rv c_FALSE, iv 1, iv 1, iv 1, iv 1, iv 1] [(.int (1 : Int32))])) (fun _ hr => XS.iload X22.here hx rfl (hb hby at_142) rfl  hr) ?_
    refine Goes.step (T2 := T22) (g2 := (mkF m 147 #[iv p1, iv 1, rv c_TRUE, rv c_FALSE, iv 1, iv 1, iv 1, iv 1, iv 1] [])) (fun _ hr => XS.ifNo X22.here hx rfl (hb hby at_144) rfl ((if0 _ _).trans (feq (by decide : ¬ ((1 : Int32) = (0 : Int32)))).1) hr) ?_
    refine Goes.step (T2 := T22) (g2 := (mkF m 149 #[iv p1, iv 1, rv c_TRUE, rv c_FALSE, iv 1, iv 1, iv 1, iv 1, iv 1] [(.int (1 : Int32))])) (fun _ hr => XS.iload X22.here hx rfl (hb hby at_147) rfl  hr) ?_
    refine Goes.step (T2 := T22) (g2 := (mkF m 152 #[iv p1, iv 1, rv c_TRUE, rv c_FALSE, iv 1, iv 1, iv 1, iv 1, iv 1] [])) (fun _ hr => XS.ifNo X22.here hx rfl (hb hby at_149) rfl ((if0 _ _).trans (feq (by decide : ¬ ((1 : Int32) = (0 : Int32)))).1) hr) ?_
    refine Goes.step (T2 := T22) (g2 := (mkF m 154 #[iv p1, iv 1, rv c_TRUE, rv c_FALSE, iv 1, iv 1, iv 1, iv 1, iv 1] [(.int (1 : Int32))])) (fun _ hr => XS.iload X22.here hx rfl (hb hby at_152) rfl  hr) ?_
    refine Goes.step (T2 := T22) (g2 := (mkF m 157 #[iv p1, iv 1, rv c_TRUE, rv c_FALSE, iv 1, iv 1, iv 1, iv 1, iv 1] [])) (fun _ hr => XS.ifNo X22.here hx rfl (hb hby at_154) rfl ((if0 _ _).trans (feq (by decide : ¬ ((1 : Int32) = (0 : Int32)))).1) hr) ?_
    refine Goes.step (T2 := T22) (g2 := (mkF m 158 #[iv p1, iv 1, rv c_TRUE, rv c_FALSE, iv 1, iv 1, iv 1, iv 1, iv 1] [(.int (1 : Int32))])) (fun _ hr => XS.iconst X22.here hx rfl (hb hby at_157) hr) ?_
    refine Goes.step (T2 := T22) (g2 := (mkF m 162 #[iv p1, iv 1, rv c_TRUE, rv c_FALSE, iv 1, iv 1, iv 1, iv 1, iv 1] [(.int (1 : Int32))])) (fun _ hr => XS.goto X22.here hx rfl (pc0 := 158) (pc' := 162) rfl (hb hby at_158) (by decide) (by decide) hr) ?_
    exact Goes.ret (v := some (.int (1 : Int32))) X22 (by decide) (by decide) (fun h => by rw [Bd.returns] at h; cases h) ⟨rfl, N22⟩ (fun fs hr => retN X22 hx (t := .boolean) Bd.returns (by simp) (hb hby at_162) hr)
set_option maxRecDepth 65536 in
set_option maxHeartbeats 40000000 in
theorem comes_1 {Post : Tables → Env → Array Value → State → Outcome → State → Prop} (hpost : ∀ tb e args s v u, (limb_1_1.after args s (.returned v) u = true ∧ limb_1_2.after args s (.returned v) u = true ∧ True) → FrameEnd s (.returned v) u (Jvm.fieldLocs frame_1_writes args s ++ Jvm.arrayLocs frame_1_arrays args s ++ Jvm.staticLocs frame_1_statics s) 0 0 → Post tb e args s (.returned v) u) :
    ArmFor flags0 classFile x code maxLocals ret World_1 tables_1 room_1 Calls_1 rest_1 Pre_1 Post := by
  intro l hfl _ _ p e ha hc hk s m args below hf hA hF happ hP
  obtain ⟨hcalls, hrest, hpre⟩ := hP
  obtain ⟨-, -, -, hnamed, -, -, -, hat⟩ := (Spec.applies_iff hf).mp happ
  obtain ⟨hg, hn⟩ := and_e (Cond.before_iff.mp (show (Jvm.Cond.and given_1 narrow_1).before args s = true from hpre))
  obtain ⟨g1, g2⟩ := and_e hg
  obtain ⟨w0, rfl⟩ : ∃ w0 : Value, args = #[w0] := by
    have hs : args.size = 1 := by simpa [Cond.value, given_1] using g1
    obtain ⟨L⟩ := args
    match L, hs with
    | [w0], _ => exact ⟨w0, rfl⟩
  have hw := fun d (hd : d ∈ tables_1) => atoms_spec (ws := Jvm.Cond.code x code maxLocals ret :: tables_1) hat d (List.mem_cons_of_mem _ hd)
  have hfit : Fit s := fun {y c} hc i hi => by
    obtain ⟨ha, rfl⟩ := Array.getElem?_eq_some_iff.mp hc
    have q := List.all_eq_true.mp ((Array.all_eq_true_iff_forall_mem.mp hF) _ (Array.getElem_mem ha)) i (List.mem_range.mpr hi)
    simpa [Array.getElem?_eq_getElem hi] using q
  obtain ⟨i0, ei0⟩ := is_v g2
  obtain rfl : w0 = (.int i0) := Option.some.inj ei0
  obtain ⟨g3, g4⟩ := and_e hn
  obtain ⟨g5, g6⟩ := and_e g4
  obtain ⟨g7, g8⟩ := and_e g6
  obtain ⟨g9, g10⟩ := and_e g8
  obtain ⟨g11, g12⟩ := and_e g10
  obtain ⟨c_FALSE, ev_FALSE⟩ := exa_v g3
  have S_FALSE := Sta.start ev_FALSE (Or.inr ⟨(tw hw 2 rfl), (tw hw 5 rfl)⟩)
  have E_FALSE := Exa.start ev_FALSE g3
  obtain ⟨c_TRUE, ev_TRUE⟩ := exa_v g5
  have S_TRUE := Sta.start ev_TRUE (Or.inr ⟨(tw hw 2 rfl), (tw hw 7 rfl)⟩)
  have E_TRUE := Exa.start ev_TRUE g5
  obtain ⟨c_UNKNOWN, ev_UNKNOWN⟩ := exa_v g7
  have S_UNKNOWN := Sta.start ev_UNKNOWN (Or.inr ⟨(tw hw 2 rfl), (tw hw 9 rfl)⟩)
  have E_UNKNOWN := Exa.start ev_UNKNOWN g7
  have F_FALSE := own_ord ev_FALSE g9
  have F_UNKNOWN := own_ord ev_UNKNOWN g11
  have F_TRUE := own_ord ev_TRUE g12
  have G : Env0 s s.heap c_FALSE c_TRUE c_UNKNOWN := ⟨S_FALSE, E_FALSE, F_FALSE, S_TRUE, E_TRUE, F_TRUE, S_UNKNOWN, E_UNKNOWN, F_UNKNOWN⟩
  obtain ⟨n, o, h1, h2, h3, _, L, rfl, ⟨rfl, N⟩, hq⟩ := rm_law l s _ hw tables_1 c_FALSE c_TRUE c_UNKNOWN i0 s.heap s.heap.size (Nat.le_refl _) G p e ha hc hk s m _ below hf ((Spec.applies_iff_loose hf).mp happ).1 ⟨rfl, State.Warmed39.refl s, rfl⟩ trivial
  refine ⟨n, _, h1, h2, h3, hpost _ _ _ _ _ _ ⟨Cond.after_iff.mpr rfl, Cond.after_iff.mpr (eq_i res_at (Term.int_eval (1)) rfl), trivial⟩ ⟨hq.1, hq.2.1, (hq.2.2.sift fun y hy => Or.inr (N y hy)).mono (by decide) (by decide)⟩⟩
theorem main_1_1 : Claimed_1_1 := comes_1 fun _ _ _ _ _ _ h hF => ⟨h.1, hF⟩
theorem main_1_2 : Claimed_1_2 := comes_1 fun _ _ _ _ _ _ h hF => ⟨h.2.1, hF⟩
end Jvm.Pilot.@@N@@
namespace Jvm.Pilot.@@N@@
open Jvm Jvm.ClassFile Sem Op Lib Jvm.Free Jvm.Stand Jvm.Pilot.@@N@@.Jvm.D
/-! MADE BY PROGRAM (witnessworld.py) out of the Statement's table words and the real class files: 10 classes; the members and pool entries that the words name. The judged class is class 1, her method 1. -/
namespace start1
open Jvm.ClassFile
def u (s : String) : CpInfo := .utf8 (stringToUtf16 s)
/-- a pool by its gaps: so many unusable entries, then the entry; so many at the end -/
def gap : Nat → List CpInfo → List CpInfo
  | 0, r => r
  | n + 1, r => .unusable :: gap n r
def poolList (es : List (Nat × CpInfo)) (last : Nat) : List CpInfo := es.foldr (fun e r => gap e.1 (e.2 :: r)) (gap last [])
def pool (es : List (Nat × CpInfo)) (last : Nat) : Array CpInfo := ⟨poolList es last⟩
def fileOf (pool : Array CpInfo) (this : Nat) (attrs : Array Attribute := #[]) (ms : Array MethodInfo := #[]) (fl : Nat := 33) (sup : Nat := 0) (ifs : Array Nat := #[]) (fds : Array FieldInfo := #[]) : ClassFile where
  minorVersion := 0
  majorVersion := 65
  constantPool := pool
  accessFlags := fl
  thisClass := this
  superClass := sup
  interfaces := ifs
  fields := fds
  methods := ms
  attributes := attrs
def plain (name : String) (sup : Option ClassId) : Class where
  name := name
  kind := .ordinary
  loader := none
  accessFlags := 33
  super := sup
  interfaces := #[]
  cf := none
  fields := #[]
  methods := #[]
  instanceTypes := #[]
  staticTypes := #[]
  resolved := #[]
  callSites := []
  init := .initialized
  statics := none
  mirror := none

def pool0 : Array CpInfo := pool [(5, u "<init>"), (0, u "()V"), (1, .class_ 10), (1, u "java/lang/Object")] 113

def k0m0 : Method := { name := "<init>", desc := "()V", sig := { parameters := [], returnType := none }, accessFlags := 1, code := none }
/-- java/lang/Object -/
def k0 : Class := { plain "java/lang/Object" none with
  accessFlags := 33
  interfaces := #[]
  cf := some (fileOf pool0 8 #[] #[{ accessFlags := 1, nameIndex := 5, descriptorIndex := 6, attributes := #[] }] 33 0 #[] #[])
  fields := #[]
  methods := #[k0m0]
  instanceTypes := #[]
  staticTypes := #[]
  resolved := Array.replicate 124 none
  statics := none }

def pool1 : Array CpInfo := pool [(2, .class_ 4), (1, u "java/lang/Object"), (0, u "<init>"), (0, u "()V"), (0, .methodref 8 9), (0, .class_ 10), (0, .nameAndType 11 12), (0, u "com/example/rights_over_time/rightsovertime/model/Formula$Known"), (0, u "of"), (0, u "(Z)Lcom/example/rights_over_time/rightsovertime/model/Formula$Known;"), (0, .fieldref 8 14), (0, .nameAndType 15 16), (0, u "UNKNOWN"), (0, u "Lcom/example/rights_over_time/rightsovertime/model/Formula$Known;"), (0, .fieldref 8 18), (0, .nameAndType 19 16), (0, u "TRUE"), (0, .fieldref 8 21), (0, .nameAndType 22 16), (0, u "FALSE"), (0, .methodref 8 24), (0, .nameAndType 25 26), (0, u "negated"), (0, u "()Lcom/example/rights_over_time/rightsovertime/model/Formula$Known;"), (0, .class_ 28), (0, u "com/example/rights_over_time/rightsovertime/model/KnownOfPinLaw"), (2, u "law"), (0, u "(I)Z")] 7

def k1m0 : Method := { name := "<init>", desc := "()V", sig := { parameters := [], returnType := none }, accessFlags := 2, code := none }
def k1c1 : Code := { maxStack := 2, maxLocals := 9, code := code, exceptionTable := #[], attributes := #[] }
def k1m1 : Method := { name := "law", desc := "(I)Z", sig := { parameters := [.int], returnType := some .boolean }, accessFlags := 9, code := some k1c1 }
/-- com/example/rights_over_time/rightsovertime/model/KnownOfPinLaw -/
def k1 : Class := { plain "com/example/rights_over_time/rightsovertime/model/KnownOfPinLaw" (some 0) with
  accessFlags := 49
  interfaces := #[]
  cf := some (fileOf pool1 27 #[] #[{ accessFlags := 2, nameIndex := 5, descriptorIndex := 6, attributes := #[] }, { accessFlags := 9, nameIndex := 31, descriptorIndex := 32, attributes := #[] }] 49 2 #[] #[])
  fields := #[]
  methods := #[k1m0, k1m1]
  instanceTypes := #[]
  staticTypes := #[]
  resolved := Array.replicate 40 none
  statics := none }

def pool2 : Array CpInfo := pool [(1, .class_ 2), (0, u "java/lang/constant/Constable"), (0, .class_ 4), (0, u "java/lang/Object")] 6

/-- java/lang/constant/Constable -/
def k2 : Class := { plain "java/lang/constant/Constable" (some 0) with
  accessFlags := 1537
  interfaces := #[]
  cf := some (fileOf pool2 1 #[] #[] 1537 3 #[] #[])
  fields := #[]
  methods := #[]
  instanceTypes := #[]
  staticTypes := #[]
  resolved := Array.replicate 11 none
  statics := none }

def pool3 : Array CpInfo := pool [(1, .class_ 2), (0, u "java/lang/Comparable"), (0, .class_ 4), (0, u "java/lang/Object")] 7

/-- java/lang/Comparable -/
def k3 : Class := { plain "java/lang/Comparable" (some 0) with
  accessFlags := 1537
  interfaces := #[]
  cf := some (fileOf pool3 1 #[] #[] 1537 3 #[] #[])
  fields := #[]
  methods := #[]
  instanceTypes := #[]
  staticTypes := #[]
  resolved := Array.replicate 12 none
  statics := none }

def pool4 : Array CpInfo := pool [(1, .class_ 2), (0, u "java/io/Serializable"), (0, .class_ 4), (0, u "java/lang/Object")] 2

/-- java/io/Serializable -/
def k4 : Class := { plain "java/io/Serializable" (some 0) with
  accessFlags := 1537
  interfaces := #[]
  cf := some (fileOf pool4 1 #[] #[] 1537 3 #[] #[])
  fields := #[]
  methods := #[]
  instanceTypes := #[]
  staticTypes := #[]
  resolved := Array.replicate 7 none
  statics := none }

def pool5 : Array CpInfo := pool [(2, .class_ 4), (1, u "java/lang/Enum"), (0, u "name"), (0, u "Ljava/lang/String;"), (2, u "ordinal"), (0, u "I"), (1, .class_ 14), (1, u "java/lang/Object"), (4, u "hash"), (86, .class_ 108), (1, u "java/lang/Enum$EnumDesc"), (2, .class_ 112), (0, u "java/lang/constant/Constable"), (0, .class_ 114), (0, u "java/lang/Comparable"), (0, .class_ 116), (0, u "java/io/Serializable")] 87

/-- java/lang/Enum -/
def k5 : Class := { plain "java/lang/Enum" (some 0) with
  accessFlags := 1057
  interfaces := #[2, 3, 4]
  cf := some (fileOf pool5 2 #[.nestMembers #[106]] #[] 1057 12 #[111, 113, 115] #[{ accessFlags := 18, nameIndex := 5, descriptorIndex := 6, attributes := #[] }, { accessFlags := 18, nameIndex := 9, descriptorIndex := 10, attributes := #[] }, { accessFlags := 2, nameIndex := 19, descriptorIndex := 10, attributes := #[] }])
  fields := #[{ name := "name", type := (.object "java/lang/String"), accessFlags := 18, slot := 0, constantValue := 0 }, { name := "ordinal", type := .int, accessFlags := 18, slot := 1, constantValue := 0 }, { name := "hash", type := .int, accessFlags := 2, slot := 2, constantValue := 0 }]
  methods := #[]
  instanceTypes := #[(.object "java/lang/String"), .int, .int]
  staticTypes := #[]
  resolved := Array.replicate 204 none
  statics := none }

def pool6 : Array CpInfo := pool [(1, .class_ 2), (0, u "com/example/rights_over_time/rightsovertime/model/Formula$Known"), (0, .fieldref 1 4), (0, .nameAndType 5 6), (0, u "FALSE"), (0, u "Lcom/example/rights_over_time/rightsovertime/model/Formula$Known;"), (0, .fieldref 1 8), (0, .nameAndType 9 6), (0, u "TRUE"), (0, .fieldref 1 11), (0, .nameAndType 12 6), (0, u "UNKNOWN"), (2, u "$VALUES"), (0, u "[Lcom/example/rights_over_time/rightsovertime/model/Formula$Known;"), (6, .class_ 25), (1, u "java/lang/Enum"), (6, .methodref 1 33), (0, .nameAndType 34 35), (0, u "of"), (0, u "(Z)Lcom/example/rights_over_time/rightsovertime/model/Formula$Known;"), (15, .class_ 52), (0, u "com/example/rights_over_time/rightsovertime/model/Formula"), (6, u "negated"), (0, u "()Lcom/example/rights_over_time/rightsovertime/model/Formula$Known;")] 28

def k6c0 : Code := { maxStack := 1, maxLocals := 1, code := prog_126_method_4_code, exceptionTable := #[], attributes := #[] }
def k6m0 : Method := { name := "of", desc := "(Z)Lcom/example/rights_over_time/rightsovertime/model/Formula$Known;", sig := { parameters := [.boolean], returnType := some (.object "com/example/rights_over_time/rightsovertime/model/Formula$Known") }, accessFlags := 8, code := some k6c0 }
def k6c1 : Code := { maxStack := 2, maxLocals := 1, code := prog_126_method_5_code, exceptionTable := #[], attributes := #[] }
def k6m1 : Method := { name := "negated", desc := "()Lcom/example/rights_over_time/rightsovertime/model/Formula$Known;", sig := { parameters := [], returnType := some (.object "com/example/rights_over_time/rightsovertime/model/Formula$Known") }, accessFlags := 0, code := some k6c1 }
/-- com/example/rights_over_time/rightsovertime/model/Formula$Known -/
def k6 : Class := { plain "com/example/rights_over_time/rightsovertime/model/Formula$Known" (some 5) with
  accessFlags := 16433
  interfaces := #[]
  cf := some (fileOf pool6 1 #[.nestHost 51] #[{ accessFlags := 8, nameIndex := 34, descriptorIndex := 35, attributes := #[] }, { accessFlags := 0, nameIndex := 59, descriptorIndex := 60, attributes := #[] }] 16433 23 #[] #[{ accessFlags := 16409, nameIndex := 5, descriptorIndex := 6, attributes := #[] }, { accessFlags := 16409, nameIndex := 9, descriptorIndex := 6, attributes := #[] }, { accessFlags := 16409, nameIndex := 12, descriptorIndex := 6, attributes := #[] }, { accessFlags := 4122, nameIndex := 15, descriptorIndex := 16, attributes := #[] }])
  fields := #[{ name := "FALSE", type := (.object "com/example/rights_over_time/rightsovertime/model/Formula$Known"), accessFlags := 16409, slot := 0, constantValue := 0 }, { name := "TRUE", type := (.object "com/example/rights_over_time/rightsovertime/model/Formula$Known"), accessFlags := 16409, slot := 1, constantValue := 0 }, { name := "UNKNOWN", type := (.object "com/example/rights_over_time/rightsovertime/model/Formula$Known"), accessFlags := 16409, slot := 2, constantValue := 0 }, { name := "$VALUES", type := (.array (.object "com/example/rights_over_time/rightsovertime/model/Formula$Known")), accessFlags := 4122, slot := 3, constantValue := 0 }]
  methods := #[k6m0, k6m1]
  instanceTypes := #[(.object "java/lang/String"), .int, .int]
  staticTypes := #[(.object "com/example/rights_over_time/rightsovertime/model/Formula$Known"), (.object "com/example/rights_over_time/rightsovertime/model/Formula$Known"), (.object "com/example/rights_over_time/rightsovertime/model/Formula$Known"), (.array (.object "com/example/rights_over_time/rightsovertime/model/Formula$Known"))]
  resolved := Array.replicate 89 none
  statics := some 0 }

def pool7 : Array CpInfo := pool [(1, u "java/lang/Cloneable"), (0, .class_ 1), (0, u "java/lang/Object"), (0, .class_ 3)] 3

/-- java/lang/Cloneable -/
def k7 : Class := { plain "java/lang/Cloneable" (some 0) with
  accessFlags := 1537
  interfaces := #[]
  cf := some (fileOf pool7 2 #[] #[] 1537 4 #[] #[])
  fields := #[]
  methods := #[]
  instanceTypes := #[]
  staticTypes := #[]
  resolved := Array.replicate 8 none
  statics := none }

/-- the primitive byte -/
def k8 : Class := { plain "byte" none with kind := .primitive 'B', accessFlags := 0x411 }
/-- [B -/
def k9 : Class := { plain "[B" (some 0) with kind := .array 8 .byte, interfaces := #[7, 4], accessFlags := 1041 }

def heap : Heap := #[{ cls := 6, slots := #[.ref 1, .ref 2, .ref 3, .null], vm := .statics 6 },
  { cls := 6, slots := #[.null, .int 0, .int 0], vm := .none },
  { cls := 6, slots := #[.null, .int 1, .int 0], vm := .none },
  { cls := 6, slots := #[.null, .int 2, .int 0], vm := .none }]
def classes : Array Class := #[k0, k1, k2, k3, k4, k5, k6, k7, k8, k9]
def interned : List (Array UInt16 × Addr) := []
def slotsUsed : Nat := 13
def theMethod : MethodId := ⟨1, 1⟩
def args0 : Array Value := #[.int 5]
def aboutOver (below : List Frame) : State where
  vm := { classes := classes, interned := interned.toArray }
  heap := heap
  slotsUsed := slotsUsed
  threads := #[{ frames := .invoking theMethod args0 :: below }]
def below0 : List Frame := [.native { method := ⟨0, 0⟩, args := #[] }]
def about1 : State := aboutOver below0
def p0 : Program := .bare "" "" ""
def e0 : Env := launch0.env 0 0 0
theorem w_frames : about1.frames = Frame.invoking theMethod args0 :: below0 := rfl
set_option maxRecDepth 65536 in
theorem w_args : argsFit about1.vm theMethod args0 = true := by decide +kernel
set_option maxRecDepth 65536 in
theorem w_heap : heapFits about1 = true := by decide +kernel
set_option maxRecDepth 65536 in
theorem w_runnable : about1.curStatus? = some .runnable := by decide +kernel
set_option maxRecDepth 65536 in
theorem w_alone : about1.alone = true := by decide +kernel
set_option maxRecDepth 65536 in
theorem w_named : about1.methodNamed? x = some theMethod := by decide +kernel
set_option maxRecDepth 65536 in
theorem w_hears : about1.hears theMethod below0 = true := by decide +kernel
set_option maxRecDepth 65536 in
theorem w_ripe : about1.ripe theMethod args0 below0 = true := by decide +kernel
theorem w_running : about1.status = .running := rfl
set_option maxRecDepth 65536 in
theorem w_room : about1.hasRoom e0.platform room_1 = true :=
  launch0.hasRoom_least _ room_1 (by decide +kernel) (by decide +kernel) (by decide +kernel) (by decide +kernel) (by decide +kernel) (by decide +kernel)
theorem allAtoms_all (ts : List Jvm.Cond) (a : Array Jvm.Value) (st : Jvm.State) : (allAtoms ts).before a st = ts.all (fun c => c.before a st) := by
  induction ts with
  | nil => rfl
  | cons c t ih =>
    show (Jvm.Cond.and c (allAtoms t)).before a st = _
    rw [Jvm.Cond.before_and, ih, List.all_cons]
def words1 : List Jvm.Cond := Jvm.Cond.code x code maxLocals ret :: tables_1
/-- a 'code' word, met by the world's own term for the bytes: nothing is compared byte by byte -/
theorem code_word {y : MethodName} {bytes : ByteArray} {mx : Nat} {rt : Option FieldType} {a : Array Value} {s : State} {m : MethodId} {meth : Method} {c : Code} (h1 : s.methodNamed? y = some m) (h2 : s.vm.method? m = some meth) (h3 : meth.code = some c) (h4 : c.code = bytes)
    (h5 : (c.maxLocals == mx && c.exceptionTable.isEmpty && decide (c.maxStack ≤ mostOperands) && decide (meth.sig.returnType = rt) && !meth.locks && decide (parseMethodDescriptor y.desc = some meth.sig)) = true) : (Jvm.Cond.code y bytes mx rt).before a s = true := by
  simp only [Bool.and_eq_true, beq_iff_eq, Bool.not_eq_true', decide_eq_true_eq] at h5
  obtain ⟨⟨⟨⟨⟨g1, g2⟩, g3⟩, g4⟩, g5⟩, g6⟩ := h5
  simp [Cond.before, Cond.holds, Cond.value, h1, h2, h3, h4, g1, g2, g3, g4, g5, g6]
def isCode : Jvm.Cond → Bool
  | .code _ _ _ _ => true
  | _ => false
theorem all_split {L : List Jvm.Cond} {P : Jvm.Cond → Bool} (h1 : L.all (fun c => isCode c || P c) = true) (h2 : ∀ c ∈ L.filter isCode, P c = true) : L.all P = true := by
  refine List.all_eq_true.mpr fun c hc => ?_
  have h := List.all_eq_true.mp h1 c hc
  rcases Bool.eq_false_or_eq_true (isCode c) with hi | hi
  · exact h2 c (List.mem_filter.mpr ⟨hc, hi⟩)
  · simpa [hi] using h
set_option maxRecDepth 65536 in
theorem w_c0 : (Jvm.Cond.code x code maxLocals ret).before args0 about1 = true := code_word (m := ⟨1, 1⟩) (meth := k1m1) (c := k1c1) (by decide +kernel) rfl rfl rfl (by decide +kernel)
set_option maxRecDepth 65536 in
theorem w_c1 : (Jvm.Cond.code ({ cls := "com/example/rights_over_time/rightsovertime/model/Formula$Known", name := "of", desc := "(Z)Lcom/example/rights_over_time/rightsovertime/model/Formula$Known;" } : Jvm.MethodName) prog_126_method_4_code (1 : Nat) (Option.some (Jvm.ClassFile.FieldType.object "com/example/rights_over_time/rightsovertime/model/Formula$Known"))).before args0 about1 = true := code_word (m := ⟨6, 0⟩) (meth := k6m0) (c := k6c0) (by decide +kernel) rfl rfl rfl (by decide +kernel)
set_option maxRecDepth 65536 in
theorem w_c2 : (Jvm.Cond.code ({ cls := "com/example/rights_over_time/rightsovertime/model/Formula$Known", name := "negated", desc := "()Lcom/example/rights_over_time/rightsovertime/model/Formula$Known;" } : Jvm.MethodName) prog_126_method_5_code (1 : Nat) (Option.some (Jvm.ClassFile.FieldType.object "com/example/rights_over_time/rightsovertime/model/Formula$Known"))).before args0 about1 = true := code_word (m := ⟨6, 1⟩) (meth := k6m1) (c := k6c1) (by decide +kernel) rfl rfl rfl (by decide +kernel)
def codes1 : List Jvm.Cond := [Jvm.Cond.code x code maxLocals ret, Jvm.Cond.code ({ cls := "com/example/rights_over_time/rightsovertime/model/Formula$Known", name := "of", desc := "(Z)Lcom/example/rights_over_time/rightsovertime/model/Formula$Known;" } : Jvm.MethodName) prog_126_method_4_code (1 : Nat) (Option.some (Jvm.ClassFile.FieldType.object "com/example/rights_over_time/rightsovertime/model/Formula$Known")), Jvm.Cond.code ({ cls := "com/example/rights_over_time/rightsovertime/model/Formula$Known", name := "negated", desc := "()Lcom/example/rights_over_time/rightsovertime/model/Formula$Known;" } : Jvm.MethodName) prog_126_method_5_code (1 : Nat) (Option.some (Jvm.ClassFile.FieldType.object "com/example/rights_over_time/rightsovertime/model/Formula$Known"))]
set_option maxRecDepth 65536 in
theorem codes_eq : words1.filter isCode = codes1 := rfl
theorem w_codes : ∀ c ∈ words1.filter isCode, c.before args0 about1 = true := by
  rw [codes_eq]
  intro c hc
  simp only [codes1, List.mem_cons, List.not_mem_nil, or_false] at hc
  rcases hc with rfl | rfl | rfl
  · exact w_c0
  · exact w_c1
  · exact w_c2
set_option maxRecDepth 65536 in
theorem w_t1 : words1.all (fun c => isCode c || c.before args0 about1) = true := by decide +kernel
theorem w_tables : (allAtoms (Jvm.Cond.code x code maxLocals ret :: tables_1)).before args0 about1 = true := by
  rw [allAtoms_all]
  show words1.all (fun c => c.before args0 about1) = true
  refine all_split ?_ w_codes
  rw [w_t1]
set_option maxRecDepth 65536 in
theorem w_case : (Jvm.Cond.and given_1 narrow_1).before args0 about1 = true := by decide +kernel
theorem w_applies : (headSpec (Jvm.Cond.code x code maxLocals ret :: tables_1) room_1).applies x e0.platform about1 = true :=
  (Spec.applies_iff w_frames).mpr ⟨w_running, w_runnable, w_alone, w_named, w_hears, w_ripe, w_room, w_tables⟩
theorem atStart : AtStart classFile x code maxLocals ret World_1 tables_1 room_1 Calls_1 rest_1 Pre_1 launch0 p0 e0 about1 theMethod args0 below0 :=
  ⟨lists_1, trivial, launch0.admits_env _ _ _, launch0.least_env, fairChoices_fair.cas, fairChoices_fair.clock, w_frames, w_args, w_heap, w_applies, trivial, trivial, w_case⟩
end start1
theorem witness_1 : WitnessClaimed_1 := ⟨start1.p0, start1.e0, start1.about1, start1.theMethod, start1.args0, start1.below0, start1.atStart⟩
end Jvm.Pilot.@@N@@
