import JvmDerived
import JvmDerived.Pilot.@@N@@Statement
import JvmDerived.Pilot.@@N@@Code
set_option linter.unusedVariables false
set_option linter.unusedSimpArgs false
@@BLOCK:NumsL.lean.txt@@
namespace Jvm.Pilot.@@N@@
open Jvm Jvm.ClassFile Sem Op Lib Jvm.Free Jvm.Stand Jvm.LawKit Jvm.RoadKit Bundle Jvm.Pilot.@@N@@.Jvm.D
/-- from the state T with the frame g on top the method comes to its end, and Q holds there -/
def Goes (p : Program) (l : Launch) (e : Env) (R : Room) (s : State) (m : MethodId) (args : Array Value) (below : List Frame) (meth : Method) (c : Code) (Q : Option Value → Heap → List Loc → Prop) (T : State) (g : JFrame) : Prop :=
  ∃ (T' : State) (v : Option Value) (L : List Loc) (k n : Nat), Stand p l e R s m args below meth c T' L k n ∧ k ≤ R.cells ∧ n ≤ R.slots ∧ (meth.sig.returnType = none → v = none) ∧ Q v T'.heap L ∧
    ∀ fs, (∀ (f : JFrame) (acts : List Action), f.method = m → f.locked = none → f.entered = [] → (doReturn e (T'.setTop f) acts v).1 = T'.setFrames fs) → Steps p.tables e below (T.setTop g) (T'.setFrames fs)
section OwnGoes
variable {p : Program} {l : Launch} {e : Env} {R : Room} {s : State} {m : MethodId} {args : Array Value} {below : List Frame} {meth : Method} {c : Code} {Q : Option Value → Heap → List Loc → Prop} {T T2 : State} {g g2 : JFrame} {L : List Loc} {k n : Nat}
theorem Goes.step (st : ∀ target, Steps p.tables e below (T2.setTop g2) target → Steps p.tables e below (T.setTop g) target) (F : Goes p l e R s m args below meth c Q T2 g2) : Goes p l e R s m args below meth c Q T g := by
  obtain ⟨T', v, L, k, n, X, hk, hn, hv, hq, hs⟩ := F
  exact ⟨T', v, L, k, n, X, hk, hn, hv, hq, fun fs h => st _ (hs fs h)⟩
theorem Goes.cast (q : g = g2) (F : Goes p l e R s m args below meth c Q T g2) : Goes p l e R s m args below meth c Q T g := q ▸ F
theorem Goes.out {maxL : Nat} {s₁ : State} (hl : meth.locks = false) (F : Goes p l e R s m args below meth c Q s₁ (entryFrame m args maxL)) :
    ∃ s₂ o, Steps p.tables e below (s₁.setTop (entryFrame m args maxL)) s₂ ∧ s₂.status = .running ∧ Ended s₂ below o ∧ ∃ v L, o = .returned v ∧ Q v s₂.heap L ∧ FrameEnd s o s₂ L R.cells R.slots := by
  obtain ⟨T', v, L, k, n, X, hk, hn, hv, hq, hs⟩ := F
  obtain ⟨fs, hr, hrun, hended, hW, hsame⟩ := X.leave (v := v) hv hl
  exact ⟨_, _, hs fs hr, hrun, hended, v, L, rfl, hq, ⟨_, rfl⟩, hW, hsame.mono hk hn⟩
theorem Goes.ret {v : Option Value} (X : Stand p l e R s m args below meth c T L k n) (hk : k ≤ R.cells) (hn : n ≤ R.slots) (hv : meth.sig.returnType = none → v = none) (hq : Q v T.heap L)
    (hs : ∀ fs, (∀ (f : JFrame) (acts : List Action), f.method = m → f.locked = none → f.entered = [] → (doReturn e (T.setTop f) acts v).1 = T.setFrames fs) → Steps p.tables e below (T.setTop g) (T.setFrames fs)) : Goes p l e R s m args below meth c Q T g :=
  ⟨T, v, L, k, n, X, hk, hn, hv, hq, hs⟩
/-- the same where String constants may have been interned on the road -/
def GoesW (p : Program) (l : Launch) (e : Env) (R : Room) (s : State) (m : MethodId) (args : Array Value) (below : List Frame) (meth : Method) (c : Code) (Q : Option Value → Heap → List Loc → Prop) (T : State) (g : JFrame) : Prop :=
  ∃ (T' : State) (v : Option Value) (L : List Loc) (k n : Nat) (vm : Vm) (j : Nat), Stand p l e R (s.setVm vm) m args below meth c T' L k n ∧ s.Since vm j ∧ j ≤ T'.heap.size ∧ k ≤ R.cells ∧ n ≤ R.slots ∧ (meth.sig.returnType = none → v = none) ∧ Q v T'.heap L ∧
    ∀ fs, (∀ (f : JFrame) (acts : List Action), f.method = m → f.locked = none → f.entered = [] → (doReturn e (T'.setTop f) acts v).1 = T'.setFrames fs) → Steps p.tables e below (T.setTop g) (T'.setFrames fs)
theorem GoesW.step (st : ∀ target, Steps p.tables e below (T2.setTop g2) target → Steps p.tables e below (T.setTop g) target) (F : GoesW p l e R s m args below meth c Q T2 g2) : GoesW p l e R s m args below meth c Q T g := by
  obtain ⟨T', v, L, k, n, vm, j, X, hS, hj, hk, hn, hv, hq, hs⟩ := F
  exact ⟨T', v, L, k, n, vm, j, X, hS, hj, hk, hn, hv, hq, fun fs h => st _ (hs fs h)⟩
theorem GoesW.cast (q : g = g2) (F : GoesW p l e R s m args below meth c Q T g2) : GoesW p l e R s m args below meth c Q T g := q ▸ F
theorem GoesW.out {maxL : Nat} {s₁ : State} (hl : meth.locks = false) (F : GoesW p l e R s m args below meth c Q s₁ (entryFrame m args maxL)) :
    ∃ s₂ o, Steps p.tables e below (s₁.setTop (entryFrame m args maxL)) s₂ ∧ s₂.status = .running ∧ Ended s₂ below o ∧ ∃ v L, o = .returned v ∧ Q v s₂.heap L ∧ ReturnedEndW s o s₂ L R.cells R.slots := by
  obtain ⟨T', v, L, k, n, vm, j, X, hS, hj, hk, hn, hv, hq, hs⟩ := F
  obtain ⟨fs, hr, hrun, hended, h1, h2, h3, hsame⟩ := X.leaveW (v := v) hS hj hv hl
  exact ⟨_, _, hs fs hr, hrun, hended, v, L, rfl, hq, h1, h2, h3, hsame.mono hk hn⟩
theorem GoesW.ret {v : Option Value} {vm : Vm} {j : Nat} (X : Stand p l e R (s.setVm vm) m args below meth c T L k n) (hS : s.Since vm j) (hj : j ≤ T.heap.size) (hk : k ≤ R.cells) (hn : n ≤ R.slots) (hv : meth.sig.returnType = none → v = none) (hq : Q v T.heap L)
    (hs : ∀ fs, (∀ (f : JFrame) (acts : List Action), f.method = m → f.locked = none → f.entered = [] → (doReturn e (T.setTop f) acts v).1 = T.setFrames fs) → Steps p.tables e below (T.setTop g) (T.setFrames fs)) : GoesW p l e R s m args below meth c Q T g :=
  ⟨T, v, L, k, n, vm, j, X, hS, hj, hk, hn, hv, hq, hs⟩
theorem tw {a0 : Array Value} {Z : State} (hw : ∀ d ∈ tables_1, d.before a0 Z = true) (i : Nat) {d : Jvm.Cond} (h : tables_1[i]? = some d) : d.before a0 Z = true := hw d (List.mem_of_getElem? h)
theorem own_at {T : State} {h : Heap} {a : Addr} {c : Cell} (e : T.heap = h) (q : h[a]? = some c) : T.heap[a]? = some c := by rw [e]; exact q
theorem cmpL_self (x : Int64) : Jvm.Free.XT.cmpL x x = (0 : Int32) := by simp [Jvm.Free.XT.cmpL, Int64.lt_iff_toInt_lt]
theorem own_mvMN {Z s : State} {a0 args : Array Value} {own host : String} {index : Nat} {y : MethodName} (hZ : Z.Warmed39 s.vm) (w : (Jvm.Cond.methodLinkNest own index y host).before a0 Z = true) : (Jvm.Cond.methodLinkNest own index y host).before args s = true := (Cond.methodLinkNest_wide hZ w :)
end OwnGoes
theorem pd_0 : parseMethodDescriptor "(Z)Lcom/example/libreconf/libreconf/pattern/Verdict;" = some ⟨[.boolean], some (.object "com/example/libreconf/libreconf/pattern/Verdict")⟩ := by decide +kernel
theorem pd_1 : parseMethodDescriptor "()Z" = some ⟨[], some .boolean⟩ := by decide +kernel
abbrev Y0 : MethodName := (⟨"com/example/libreconf/libreconf/pattern/Verdict", "of", "(Z)Lcom/example/libreconf/libreconf/pattern/Verdict;"⟩ : MethodName)
abbrev Y1 : MethodName := (⟨"com/example/libreconf/libreconf/pattern/Verdict", "isFinal", "()Z"⟩ : MethodName)
theorem own_mask1 (x : Int32) : (x &&& (1 : Int32)) = (0 : Int32) ∨ (x &&& (1 : Int32)) = (1 : Int32) := by
  have e1 : (x &&& 1).toInt = x.toInt % 2 ^ 1 := Jvm.Kit.i32_mask x 1 (k := 1) (by decide) (by decide)
  have e3 : (x &&& 1).toInt = 0 ∨ (x &&& 1).toInt = 1 := by omega
  simp only [← Int32.toInt_inj]
  rcases e3 with h | h <;> rw [h] <;> decide
theorem own_mask3 (x : Int32) : (x &&& (3 : Int32)) = (0 : Int32) ∨ (x &&& (3 : Int32)) = (1 : Int32) ∨ (x &&& (3 : Int32)) = (2 : Int32) ∨ (x &&& (3 : Int32)) = (3 : Int32) := by
  have e1 : (x &&& 3).toInt = x.toInt % 2 ^ 2 := Jvm.Kit.i32_mask x 3 (k := 2) (by decide) (by decide)
  have e3 : (x &&& 3).toInt = 0 ∨ (x &&& 3).toInt = 1 ∨ (x &&& 3).toInt = 2 ∨ (x &&& 3).toInt = 3 := by omega
  simp only [← Int32.toInt_inj]
  rcases e3 with h | h | h | h <;> rw [h] <;> decide
def Env0 (Z : State) (h : Heap) (c_FALSE c_POTENTIALLY_FALSE c_POTENTIALLY_TRUE c_TRUE : Addr) : Prop :=
  Sta Z h "com/example/libreconf/libreconf/pattern/Verdict" "FALSE" "Lcom/example/libreconf/libreconf/pattern/Verdict;" (.ref c_FALSE) ∧ Exa Z h c_FALSE "com/example/libreconf/libreconf/pattern/Verdict" ∧ Fld Z h c_FALSE "java/lang/Enum" "ordinal" "I" (.int (0 : Int32)) ∧
  Sta Z h "com/example/libreconf/libreconf/pattern/Verdict" "POTENTIALLY_FALSE" "Lcom/example/libreconf/libreconf/pattern/Verdict;" (.ref c_POTENTIALLY_FALSE) ∧ Exa Z h c_POTENTIALLY_FALSE "com/example/libreconf/libreconf/pattern/Verdict" ∧ Fld Z h c_POTENTIALLY_FALSE "java/lang/Enum" "ordinal" "I" (.int (1 : Int32)) ∧
  Sta Z h "com/example/libreconf/libreconf/pattern/Verdict" "POTENTIALLY_TRUE" "Lcom/example/libreconf/libreconf/pattern/Verdict;" (.ref c_POTENTIALLY_TRUE) ∧ Exa Z h c_POTENTIALLY_TRUE "com/example/libreconf/libreconf/pattern/Verdict" ∧ Fld Z h c_POTENTIALLY_TRUE "java/lang/Enum" "ordinal" "I" (.int (2 : Int32)) ∧
  Sta Z h "com/example/libreconf/libreconf/pattern/Verdict" "TRUE" "Lcom/example/libreconf/libreconf/pattern/Verdict;" (.ref c_TRUE) ∧ Exa Z h c_TRUE "com/example/libreconf/libreconf/pattern/Verdict" ∧ Fld Z h c_TRUE "java/lang/Enum" "ordinal" "I" (.int (3 : Int32))
theorem own_ord {s : State} {args : Array Value} {t : Term} {C n d : String} {k : Int32} {a : Addr} (ev : t.eval args s none [] s = some (.ref a)) (h : (Jvm.Cond.eq (.field t C n d) (.int k)).value args s none s [] = some true) : Fld s s.heap a C n d (.int k) := by
  obtain ⟨x', y', e1, e2, k1, k2⟩ := cmp_v (Or.inl h)
  have e3 : y' = .int k := (Option.some.inj ((Term.int_eval k).symm.trans e2)).symm
  subst e3
  obtain ⟨z, rfl⟩ := k2
  have e4 : z = k := by
    simp only [Cond.value, e1, e2] at h
    simpa using h
  subst e4
  rw [fld_at ev] at e1
  exact Fld.start e1
theorem d0_0 : decode prog_117_method_4_code 0 = .ok (.iload_n 0, 1) := by decide +kernel
theorem d0_1 : decode prog_117_method_4_code 1 = .ok (.ifCond .eq 9, 3) := by decide +kernel
theorem d0_10 : decode prog_117_method_4_code 10 = .ok (.getstatic 3, 3) := by decide +kernel
theorem d0_13 : decode prog_117_method_4_code 13 = .ok (.areturn, 1) := by decide +kernel
theorem pn_com_example_libreconf_libreconf_pattern_Verdict : plainName "com/example/libreconf/libreconf/pattern/Verdict" = true := by first | (simp [plainName, overriddenIn]; done) | decide +kernel
def Q_rm_of0 (Z : State) (c_FALSE : Addr) (c_POTENTIALLY_FALSE : Addr) (c_POTENTIALLY_TRUE : Addr) (c_TRUE : Addr) (h0 : Heap) (n0 : Nat) (v : Option Value) (h : Heap) (L : List Loc) : Prop := v = some (.ref c_FALSE) ∧ Fr n0 L ∧ h = h0
set_option maxRecDepth 65536 in
set_option maxHeartbeats 40000000 in
theorem rm_of0 (l : Launch) (Z : State) (a0 : Array Value) (hw : ∀ d ∈ tables_1, d.before a0 Z = true) (ws : List Jvm.Cond) (c_FALSE : Addr) (c_POTENTIALLY_FALSE : Addr) (c_POTENTIALLY_TRUE : Addr) (c_TRUE : Addr) (h0 : Heap) (n0 : Nat) (Z0 : n0 ≤ h0.size) (G : Env0 Z h0 c_FALSE c_POTENTIALLY_FALSE c_POTENTIALLY_TRUE c_TRUE) :
    MetFree l Y0 (head1 (Jvm.Cond.code Y0 prog_117_method_4_code 1 (some (.object "com/example/libreconf/libreconf/pattern/Verdict")) :: ws) ({ frames := 0, cells := 0, slots := 0, locals := 0 } : Room)) (fun a U => a = #[(.int (0 : Int32))] ∧ Z.Warmed39 U.vm ∧ U.heap = h0) (fun _ _ _ _ _ => True) (fun _ U o U' => ∃ v L, o = .returned v ∧ Q_rm_of0 Z c_FALSE c_POTENTIALLY_FALSE c_POTENTIALLY_TRUE c_TRUE h0 n0 v U'.heap L ∧ FrameEnd U o U' L ({ frames := 0, cells := 0, slots := 0, locals := 0 } : Room).cells ({ frames := 0, cells := 0, slots := 0, locals := 0 } : Room).slots) := by
  refine MetFree.of_bodySF (plainFor_of_name pn_com_example_libreconf_libreconf_pattern_Verdict) hisR ?_
  intro p e s m args below meth c s₁ Bd hml0 hP hK
  obtain ⟨rfl, hZ, hh⟩ := hP
  have hx := Bd.exec
  have hby := Bd.bytes
  have hml : c.maxLocals = 1 := hml0
  have hown : s.vm.findClass "com/example/libreconf/libreconf/pattern/Verdict" = some m.cls := findClass_of_methodNamed Bd.named
  have hnm := (name_of_methodNamed Bd.named Bd.method).1
  have X0 : Stand p l e ({ frames := 0, cells := 0, slots := 0, locals := 0 } : Room) s m #[(.int (0 : Int32))] below meth c s₁ [] 0 0 := Stand.of_body Bd
  have e0 : s₁.heap = h0 := by rw [← hh, Bd.state]; rfl
  have N0 := Fr.nil n0
  refine Goes.out (l := l) (c := c) (R := ({ frames := 0, cells := 0, slots := 0, locals := 0 } : Room)) (Q := Q_rm_of0 Z c_FALSE c_POTENTIALLY_FALSE c_POTENTIALLY_TRUE c_TRUE h0 n0) Bd.notSynchronized ?_
  refine Goes.cast (g2 := mkF m 0 #[iv 0] []) (by first | (simp [entryFrame, mkF, argsToLocals, Value.category]; done) | rfl) ?_
  obtain ⟨S_FALSE, E_FALSE, F_FALSE, S_POTENTIALLY_FALSE, E_POTENTIALLY_FALSE, F_POTENTIALLY_FALSE, S_POTENTIALLY_TRUE, E_POTENTIALLY_TRUE, F_POTENTIALLY_TRUE, S_TRUE, E_TRUE, F_TRUE⟩ := id G
  refine Goes.step (T2 := s₁) (g2 := (mkF m 1 #[iv 0] [(.int (0 : Int32))])) (fun _ hr => XS.iloadN X0.here hx rfl (hb hby d0_0) rfl  hr) ?_
  refine Goes.step (T2 := s₁) (g2 := (mkF m 10 #[iv 0] [])) (fun _ hr => XS.ifYes X0.here hx rfl (pc0 := 1) (pc' := 10) rfl (hb hby d0_1) rfl ((if0 _ _).trans (teq (by decide : (0 : Int32) = (0 : Int32))).1) (by decide) (by decide) hr) ?_
  obtain ⟨T1, X1, e1, st1⟩ := getS2 X0 hx hZ hown (host := "") (Or.inl (tw hw 13 rfl)) Via.refl e0 S_FALSE (g := (mkF m 10 #[iv 0] [])) rfl (hb hby d0_10)
  refine Goes.step (T2 := T1) (g2 := (mkF m 13 #[iv 0] [(.ref c_FALSE)])) st1 ?_
  exact Goes.ret (v := some (.ref c_FALSE)) X1 (by decide) (by decide) (fun h => by rw [Bd.returns] at h; cases h) ⟨rfl, N0, e1⟩ (fun fs hr => retOut X1 hx Bd.returns rfl (Or.inr (Or.inr (Or.inr (Or.inr ⟨rfl, rfl, rfl⟩)))) (hb hby d0_13) hr)
theorem d0_4 : decode prog_117_method_4_code 4 = .ok (.getstatic 13, 3) := by decide +kernel
theorem d0_7 : decode prog_117_method_4_code 7 = .ok (.goto 6, 3) := by decide +kernel
def Q_rm_of1 (Z : State) (c_FALSE : Addr) (c_POTENTIALLY_FALSE : Addr) (c_POTENTIALLY_TRUE : Addr) (c_TRUE : Addr) (h0 : Heap) (n0 : Nat) (v : Option Value) (h : Heap) (L : List Loc) : Prop := v = some (.ref c_TRUE) ∧ Fr n0 L ∧ h = h0
set_option maxRecDepth 65536 in
set_option maxHeartbeats 40000000 in
theorem rm_of1 (l : Launch) (Z : State) (a0 : Array Value) (hw : ∀ d ∈ tables_1, d.before a0 Z = true) (ws : List Jvm.Cond) (c_FALSE : Addr) (c_POTENTIALLY_FALSE : Addr) (c_POTENTIALLY_TRUE : Addr) (c_TRUE : Addr) (h0 : Heap) (n0 : Nat) (Z0 : n0 ≤ h0.size) (G : Env0 Z h0 c_FALSE c_POTENTIALLY_FALSE c_POTENTIALLY_TRUE c_TRUE) :
    MetFree l Y0 (head1 (Jvm.Cond.code Y0 prog_117_method_4_code 1 (some (.object "com/example/libreconf/libreconf/pattern/Verdict")) :: ws) ({ frames := 0, cells := 0, slots := 0, locals := 0 } : Room)) (fun a U => a = #[(.int (1 : Int32))] ∧ Z.Warmed39 U.vm ∧ U.heap = h0) (fun _ _ _ _ _ => True) (fun _ U o U' => ∃ v L, o = .returned v ∧ Q_rm_of1 Z c_FALSE c_POTENTIALLY_FALSE c_POTENTIALLY_TRUE c_TRUE h0 n0 v U'.heap L ∧ FrameEnd U o U' L ({ frames := 0, cells := 0, slots := 0, locals := 0 } : Room).cells ({ frames := 0, cells := 0, slots := 0, locals := 0 } : Room).slots) := by
  refine MetFree.of_bodySF (plainFor_of_name pn_com_example_libreconf_libreconf_pattern_Verdict) hisR ?_
  intro p e s m args below meth c s₁ Bd hml0 hP hK
  obtain ⟨rfl, hZ, hh⟩ := hP
  have hx := Bd.exec
  have hby := Bd.bytes
  have hml : c.maxLocals = 1 := hml0
  have hown : s.vm.findClass "com/example/libreconf/libreconf/pattern/Verdict" = some m.cls := findClass_of_methodNamed Bd.named
  have hnm := (name_of_methodNamed Bd.named Bd.method).1
  have X0 : Stand p l e ({ frames := 0, cells := 0, slots := 0, locals := 0 } : Room) s m #[(.int (1 : Int32))] below meth c s₁ [] 0 0 := Stand.of_body Bd
  have e0 : s₁.heap = h0 := by rw [← hh, Bd.state]; rfl
  have N0 := Fr.nil n0
  refine Goes.out (l := l) (c := c) (R := ({ frames := 0, cells := 0, slots := 0, locals := 0 } : Room)) (Q := Q_rm_of1 Z c_FALSE c_POTENTIALLY_FALSE c_POTENTIALLY_TRUE c_TRUE h0 n0) Bd.notSynchronized ?_
  refine Goes.cast (g2 := mkF m 0 #[iv 1] []) (by first | (simp [entryFrame, mkF, argsToLocals, Value.category]; done) | rfl) ?_
  obtain ⟨S_FALSE, E_FALSE, F_FALSE, S_POTENTIALLY_FALSE, E_POTENTIALLY_FALSE, F_POTENTIALLY_FALSE, S_POTENTIALLY_TRUE, E_POTENTIALLY_TRUE, F_POTENTIALLY_TRUE, S_TRUE, E_TRUE, F_TRUE⟩ := id G
  refine Goes.step (T2 := s₁) (g2 := (mkF m 1 #[iv 1] [(.int (1 : Int32))])) (fun _ hr => XS.iloadN X0.here hx rfl (hb hby d0_0) rfl  hr) ?_
  refine Goes.step (T2 := s₁) (g2 := (mkF m 4 #[iv 1] [])) (fun _ hr => XS.ifNo X0.here hx rfl (hb hby d0_1) rfl ((if0 _ _).trans (feq (by decide : ¬ ((1 : Int32) = (0 : Int32)))).1) hr) ?_
  obtain ⟨T2, X2, e2, st2⟩ := getS2 X0 hx hZ hown (host := "") (Or.inl (tw hw 6 rfl)) Via.refl e0 S_TRUE (g := (mkF m 4 #[iv 1] [])) rfl (hb hby d0_4)
  refine Goes.step (T2 := T2) (g2 := (mkF m 7 #[iv 1] [(.ref c_TRUE)])) st2 ?_
  refine Goes.step (T2 := T2) (g2 := (mkF m 13 #[iv 1] [(.ref c_TRUE)])) (fun _ hr => XS.goto X2.here hx rfl (pc0 := 7) (pc' := 13) rfl (hb hby d0_7) (by decide) (by decide) hr) ?_
  exact Goes.ret (v := some (.ref c_TRUE)) X2 (by decide) (by decide) (fun h => by rw [Bd.returns] at h; cases h) ⟨rfl, N0, e2⟩ (fun fs hr => retOut X2 hx Bd.returns rfl (Or.inr (Or.inr (Or.inr (Or.inr ⟨rfl, rfl, rfl⟩)))) (hb hby d0_13) hr)
theorem d1_0 : decode prog_117_method_5_code 0 = .ok (.aload_n 0, 1) := by decide +kernel
theorem d1_1 : decode prog_117_method_5_code 1 = .ok (.getstatic 13, 3) := by decide +kernel
theorem d1_4 : decode prog_117_method_5_code 4 = .ok (.if_acmp .eq 10, 3) := by decide +kernel
theorem d1_7 : decode prog_117_method_5_code 7 = .ok (.aload_n 0, 1) := by decide +kernel
theorem d1_8 : decode prog_117_method_5_code 8 = .ok (.getstatic 3, 3) := by decide +kernel
theorem d1_11 : decode prog_117_method_5_code 11 = .ok (.if_acmp .ne 7, 3) := by decide +kernel
theorem d1_14 : decode prog_117_method_5_code 14 = .ok (.iconst 1, 1) := by decide +kernel
theorem d1_15 : decode prog_117_method_5_code 15 = .ok (.goto 4, 3) := by decide +kernel
theorem d1_19 : decode prog_117_method_5_code 19 = .ok (.ireturn, 1) := by decide +kernel
def Q_rm_finFALSE (Z : State) (c_FALSE : Addr) (c_POTENTIALLY_FALSE : Addr) (c_POTENTIALLY_TRUE : Addr) (c_TRUE : Addr) (h0 : Heap) (n0 : Nat) (v : Option Value) (h : Heap) (L : List Loc) : Prop := v = some (.int (1 : Int32)) ∧ Fr n0 L ∧ h = h0
set_option maxRecDepth 65536 in
set_option maxHeartbeats 40000000 in
theorem rm_finFALSE (l : Launch) (Z : State) (a0 : Array Value) (hw : ∀ d ∈ tables_1, d.before a0 Z = true) (ws : List Jvm.Cond) (c_FALSE : Addr) (c_POTENTIALLY_FALSE : Addr) (c_POTENTIALLY_TRUE : Addr) (c_TRUE : Addr) (h0 : Heap) (n0 : Nat) (Z0 : n0 ≤ h0.size) (G : Env0 Z h0 c_FALSE c_POTENTIALLY_FALSE c_POTENTIALLY_TRUE c_TRUE) :
    MetFree l Y1 (head1 (Jvm.Cond.code Y1 prog_117_method_5_code 1 (some .boolean) :: ws) ({ frames := 0, cells := 0, slots := 0, locals := 0 } : Room)) (fun a U => a = #[(.ref c_FALSE)] ∧ Z.Warmed39 U.vm ∧ U.heap = h0) (fun _ _ _ _ _ => True) (fun _ U o U' => ∃ v L, o = .returned v ∧ Q_rm_finFALSE Z c_FALSE c_POTENTIALLY_FALSE c_POTENTIALLY_TRUE c_TRUE h0 n0 v U'.heap L ∧ FrameEnd U o U' L ({ frames := 0, cells := 0, slots := 0, locals := 0 } : Room).cells ({ frames := 0, cells := 0, slots := 0, locals := 0 } : Room).slots) := by
  refine MetFree.of_bodySF (plainFor_of_name pn_com_example_libreconf_libreconf_pattern_Verdict) hisR ?_
  intro p e s m args below meth c s₁ Bd hml0 hP hK
  obtain ⟨rfl, hZ, hh⟩ := hP
  have hx := Bd.exec
  have hby := Bd.bytes
  have hml : c.maxLocals = 1 := hml0
  have hown : s.vm.findClass "com/example/libreconf/libreconf/pattern/Verdict" = some m.cls := findClass_of_methodNamed Bd.named
  have hnm := (name_of_methodNamed Bd.named Bd.method).1
  have X0 : Stand p l e ({ frames := 0, cells := 0, slots := 0, locals := 0 } : Room) s m #[(.ref c_FALSE)] below meth c s₁ [] 0 0 := Stand.of_body Bd
  have e0 : s₁.heap = h0 := by rw [← hh, Bd.state]; rfl
  have N0 := Fr.nil n0
  refine Goes.out (l := l) (c := c) (R := ({ frames := 0, cells := 0, slots := 0, locals := 0 } : Room)) (Q := Q_rm_finFALSE Z c_FALSE c_POTENTIALLY_FALSE c_POTENTIALLY_TRUE c_TRUE h0 n0) Bd.notSynchronized ?_
  refine Goes.cast (g2 := mkF m 0 #[rv c_FALSE] []) (by first | (simp [entryFrame, mkF, argsToLocals, Value.category]; done) | rfl) ?_
  obtain ⟨S_FALSE, E_FALSE, F_FALSE, S_POTENTIALLY_FALSE, E_POTENTIALLY_FALSE, F_POTENTIALLY_FALSE, S_POTENTIALLY_TRUE, E_POTENTIALLY_TRUE, F_POTENTIALLY_TRUE, S_TRUE, E_TRUE, F_TRUE⟩ := id G
  refine Goes.step (T2 := s₁) (g2 := (mkF m 1 #[rv c_FALSE] [(.ref c_FALSE)])) (fun _ hr => XS.aloadN X0.here hx rfl (hb hby d1_0) rfl rfl hr) ?_
  obtain ⟨T3, X3, e3, st3⟩ := getS2 X0 hx hZ hown (host := "") (Or.inl (tw hw 6 rfl)) Via.refl e0 S_TRUE (g := (mkF m 1 #[rv c_FALSE] [(.ref c_FALSE)])) rfl (hb hby d1_1)
  refine Goes.step (T2 := T3) (g2 := (mkF m 4 #[rv c_FALSE] [(.ref c_TRUE), (.ref c_FALSE)])) st3 ?_
  refine Goes.step (T2 := T3) (g2 := (mkF m 7 #[rv c_FALSE] [])) (fun _ hr => Jvm.RoadKit.acmp (g := (mkF m 4 #[rv c_FALSE] [(.ref c_TRUE), (.ref c_FALSE)])) X3 hx rfl rfl rfl (pc0 := 4) (pc' := 7) (same := false) rfl (hb hby d1_4) rfl (decide_eq_false fun q => (Fld.ne F_FALSE F_TRUE (fun q => absurd (Value.int.inj q) (by decide))) (Value.ref.inj q)) (by decide) (by decide) hr) ?_
  refine Goes.step (T2 := T3) (g2 := (mkF m 8 #[rv c_FALSE] [(.ref c_FALSE)])) (fun _ hr => XS.aloadN X3.here hx rfl (hb hby d1_7) rfl rfl hr) ?_
  obtain ⟨T4, X4, e4, st4⟩ := getS2 X3 hx hZ hown (host := "") (Or.inl (tw hw 13 rfl)) Via.refl e3 S_FALSE (g := (mkF m 8 #[rv c_FALSE] [(.ref c_FALSE)])) rfl (hb hby d1_8)
  refine Goes.step (T2 := T4) (g2 := (mkF m 11 #[rv c_FALSE] [(.ref c_FALSE), (.ref c_FALSE)])) st4 ?_
  refine Goes.step (T2 := T4) (g2 := (mkF m 14 #[rv c_FALSE] [])) (fun _ hr => Jvm.RoadKit.acmp (g := (mkF m 11 #[rv c_FALSE] [(.ref c_FALSE), (.ref c_FALSE)])) X4 hx rfl rfl rfl (pc0 := 11) (pc' := 14) (same := true) rfl (hb hby d1_11) rfl (decide_eq_true rfl) (by decide) (by decide) hr) ?_
  refine Goes.step (T2 := T4) (g2 := (mkF m 15 #[rv c_FALSE] [(.int (1 : Int32))])) (fun _ hr => XS.iconst X4.here hx rfl (hb hby d1_14) hr) ?_
  refine Goes.step (T2 := T4) (g2 := (mkF m 19 #[rv c_FALSE] [(.int (1 : Int32))])) (fun _ hr => XS.goto X4.here hx rfl (pc0 := 15) (pc' := 19) rfl (hb hby d1_15) (by decide) (by decide) hr) ?_
  exact Goes.ret (v := some (.int (1 : Int32))) X4 (by decide) (by decide) (fun h => by rw [Bd.returns] at h; cases h) ⟨rfl, N0, e4⟩ (fun fs hr => retN X4 hx (t := .boolean) Bd.returns (by simp) (hb hby d1_19) hr)
theorem d1_18 : decode prog_117_method_5_code 18 = .ok (.iconst 0, 1) := by decide +kernel
def Q_rm_finPOTENTIALLY_FALSE (Z : State) (c_FALSE : Addr) (c_POTENTIALLY_FALSE : Addr) (c_POTENTIALLY_TRUE : Addr) (c_TRUE : Addr) (h0 : Heap) (n0 : Nat) (v : Option Value) (h : Heap) (L : List Loc) : Prop := v = some (.int (0 : Int32)) ∧ Fr n0 L ∧ h = h0
set_option maxRecDepth 65536 in
set_option maxHeartbeats 40000000 in
theorem rm_finPOTENTIALLY_FALSE (l : Launch) (Z : State) (a0 : Array Value) (hw : ∀ d ∈ tables_1, d.before a0 Z = true) (ws : List Jvm.Cond) (c_FALSE : Addr) (c_POTENTIALLY_FALSE : Addr) (c_POTENTIALLY_TRUE : Addr) (c_TRUE : Addr) (h0 : Heap) (n0 : Nat) (Z0 : n0 ≤ h0.size) (G : Env0 Z h0 c_FALSE c_POTENTIALLY_FALSE c_POTENTIALLY_TRUE c_TRUE) :
    MetFree l Y1 (head1 (Jvm.Cond.code Y1 prog_117_method_5_code 1 (some .boolean) :: ws) ({ frames := 0, cells := 0, slots := 0, locals := 0 } : Room)) (fun a U => a = #[(.ref c_POTENTIALLY_FALSE)] ∧ Z.Warmed39 U.vm ∧ U.heap = h0) (fun _ _ _ _ _ => True) (fun _ U o U' => ∃ v L, o = .returned v ∧ Q_rm_finPOTENTIALLY_FALSE Z c_FALSE c_POTENTIALLY_FALSE c_POTENTIALLY_TRUE c_TRUE h0 n0 v U'.heap L ∧ FrameEnd U o U' L ({ frames := 0, cells := 0, slots := 0, locals := 0 } : Room).cells ({ frames := 0, cells := 0, slots := 0, locals := 0 } : Room).slots) := by
  refine MetFree.of_bodySF (plainFor_of_name pn_com_example_libreconf_libreconf_pattern_Verdict) hisR ?_
  intro p e s m args below meth c s₁ Bd hml0 hP hK
  obtain ⟨rfl, hZ, hh⟩ := hP
  have hx := Bd.exec
  have hby := Bd.bytes
  have hml : c.maxLocals = 1 := hml0
  have hown : s.vm.findClass "com/example/libreconf/libreconf/pattern/Verdict" = some m.cls := findClass_of_methodNamed Bd.named
  have hnm := (name_of_methodNamed Bd.named Bd.method).1
  have X0 : Stand p l e ({ frames := 0, cells := 0, slots := 0, locals := 0 } : Room) s m #[(.ref c_POTENTIALLY_FALSE)] below meth c s₁ [] 0 0 := Stand.of_body Bd
  have e0 : s₁.heap = h0 := by rw [← hh, Bd.state]; rfl
  have N0 := Fr.nil n0
  refine Goes.out (l := l) (c := c) (R := ({ frames := 0, cells := 0, slots := 0, locals := 0 } : Room)) (Q := Q_rm_finPOTENTIALLY_FALSE Z c_FALSE c_POTENTIALLY_FALSE c_POTENTIALLY_TRUE c_TRUE h0 n0) Bd.notSynchronized ?_
  refine Goes.cast (g2 := mkF m 0 #[rv c_POTENTIALLY_FALSE] []) (by first | (simp [entryFrame, mkF, argsToLocals, Value.category]; done) | rfl) ?_
  obtain ⟨S_FALSE, E_FALSE, F_FALSE, S_POTENTIALLY_FALSE, E_POTENTIALLY_FALSE, F_POTENTIALLY_FALSE, S_POTENTIALLY_TRUE, E_POTENTIALLY_TRUE, F_POTENTIALLY_TRUE, S_TRUE, E_TRUE, F_TRUE⟩ := id G
  refine Goes.step (T2 := s₁) (g2 := (mkF m 1 #[rv c_POTENTIALLY_FALSE] [(.ref c_POTENTIALLY_FALSE)])) (fun _ hr => XS.aloadN X0.here hx rfl (hb hby d1_0) rfl rfl hr) ?_
  obtain ⟨T5, X5, e5, st5⟩ := getS2 X0 hx hZ hown (host := "") (Or.inl (tw hw 6 rfl)) Via.refl e0 S_TRUE (g := (mkF m 1 #[rv c_POTENTIALLY_FALSE] [(.ref c_POTENTIALLY_FALSE)])) rfl (hb hby d1_1)
  refine Goes.step (T2 := T5) (g2 := (mkF m 4 #[rv c_POTENTIALLY_FALSE] [(.ref c_TRUE), (.ref c_POTENTIALLY_FALSE)])) st5 ?_
  refine Goes.step (T2 := T5) (g2 := (mkF m 7 #[rv c_POTENTIALLY_FALSE] [])) (fun _ hr => Jvm.RoadKit.acmp (g := (mkF m 4 #[rv c_POTENTIALLY_FALSE] [(.ref c_TRUE), (.ref c_POTENTIALLY_FALSE)])) X5 hx rfl rfl rfl (pc0 := 4) (pc' := 7) (same := false) rfl (hb hby d1_4) rfl (decide_eq_false fun q => (Fld.ne F_POTENTIALLY_FALSE F_TRUE (fun q => absurd (Value.int.inj q) (by decide))) (Value.ref.inj q)) (by decide) (by decide) hr) ?_
  refine Goes.step (T2 := T5) (g2 := (mkF m 8 #[rv c_POTENTIALLY_FALSE] [(.ref c_POTENTIALLY_FALSE)])) (fun _ hr => XS.aloadN X5.here hx rfl (hb hby d1_7) rfl rfl hr) ?_
  obtain ⟨T6, X6, e6, st6⟩ := getS2 X5 hx hZ hown (host := "") (Or.inl (tw hw 13 rfl)) Via.refl e5 S_FALSE (g := (mkF m 8 #[rv c_POTENTIALLY_FALSE] [(.ref c_POTENTIALLY_FALSE)])) rfl (hb hby d1_8)
  refine Goes.step (T2 := T6) (g2 := (mkF m 11 #[rv c_POTENTIALLY_FALSE] [(.ref c_FALSE), (.ref c_POTENTIALLY_FALSE)])) st6 ?_
  refine Goes.step (T2 := T6) (g2 := (mkF m 18 #[rv c_POTENTIALLY_FALSE] [])) (fun _ hr => Jvm.RoadKit.acmp (g := (mkF m 11 #[rv c_POTENTIALLY_FALSE] [(.ref c_FALSE), (.ref c_POTENTIALLY_FALSE)])) X6 hx rfl rfl rfl (pc0 := 11) (pc' := 18) (same := false) rfl (hb hby d1_11) rfl (decide_eq_false fun q => (Fld.ne F_POTENTIALLY_FALSE F_FALSE (fun q => absurd (Value.int.inj q) (by decide))) (Value.ref.inj q)) (by decide) (by decide) hr) ?_
  refine Goes.step (T2 := T6) (g2 := (mkF m 19 #[rv c_POTENTIALLY_FALSE] [(.int (0 : Int32))])) (fun _ hr => XS.iconst X6.here hx rfl (hb hby d1_18) hr) ?_
  exact Goes.ret (v := some (.int (0 : Int32))) X6 (by decide) (by decide) (fun h => by rw [Bd.returns] at h; cases h) ⟨rfl, N0, e6⟩ (fun fs hr => retN X6 hx (t := .boolean) Bd.returns (by simp) (hb hby d1_19) hr)
def Q_rm_finPOTENTIALLY_TRUE (Z : State) (c_FALSE : Addr) (c_POTENTIALLY_FALSE : Addr) (c_POTENTIALLY_TRUE : Addr) (c_TRUE : Addr) (h0 : Heap) (n0 : Nat) (v : Option Value) (h : Heap) (L : List Loc) : Prop := v = some (.int (0 : Int32)) ∧ Fr n0 L ∧ h = h0
set_option maxRecDepth 65536 in
set_option maxHeartbeats 40000000 in
theorem rm_finPOTENTIALLY_TRUE (l : Launch) (Z : State) (a0 : Array Value) (hw : ∀ d ∈ tables_1, d.before a0 Z = true) (ws : List Jvm.Cond) (c_FALSE : Addr) (c_POTENTIALLY_FALSE : Addr) (c_POTENTIALLY_TRUE : Addr) (c_TRUE : Addr) (h0 : Heap) (n0 : Nat) (Z0 : n0 ≤ h0.size) (G : Env0 Z h0 c_FALSE c_POTENTIALLY_FALSE c_POTENTIALLY_TRUE c_TRUE) :
    MetFree l Y1 (head1 (Jvm.Cond.code Y1 prog_117_method_5_code 1 (some .boolean) :: ws) ({ frames := 0, cells := 0, slots := 0, locals := 0 } : Room)) (fun a U => a = #[(.ref c_POTENTIALLY_TRUE)] ∧ Z.Warmed39 U.vm ∧ U.heap = h0) (fun _ _ _ _ _ => True) (fun _ U o U' => ∃ v L, o = .returned v ∧ Q_rm_finPOTENTIALLY_TRUE Z c_FALSE c_POTENTIALLY_FALSE c_POTENTIALLY_TRUE c_TRUE h0 n0 v U'.heap L ∧ FrameEnd U o U' L ({ frames := 0, cells := 0, slots := 0, locals := 0 } : Room).cells ({ frames := 0, cells := 0, slots := 0, locals := 0 } : Room).slots) := by
  refine MetFree.of_bodySF (plainFor_of_name pn_com_example_libreconf_libreconf_pattern_Verdict) hisR ?_
  intro p e s m args below meth c s₁ Bd hml0 hP hK
  obtain ⟨rfl, hZ, hh⟩ := hP
  have hx := Bd.exec
  have hby := Bd.bytes
  have hml : c.maxLocals = 1 := hml0
  have hown : s.vm.findClass "com/example/libreconf/libreconf/pattern/Verdict" = some m.cls := findClass_of_methodNamed Bd.named
  have hnm := (name_of_methodNamed Bd.named Bd.method).1
  have X0 : Stand p l e ({ frames := 0, cells := 0, slots := 0, locals := 0 } : Room) s m #[(.ref c_POTENTIALLY_TRUE)] below meth c s₁ [] 0 0 := Stand.of_body Bd
  have e0 : s₁.heap = h0 := by rw [← hh, Bd.state]; rfl
  have N0 := Fr.nil n0
  refine Goes.out (l := l) (c := c) (R := ({ frames := 0, cells := 0, slots := 0, locals := 0 } : Room)) (Q := Q_rm_finPOTENTIALLY_TRUE Z c_FALSE c_POTENTIALLY_FALSE c_POTENTIALLY_TRUE c_TRUE h0 n0) Bd.notSynchronized ?_
  refine Goes.cast (g2 := mkF m 0 #[rv c_POTENTIALLY_TRUE] []) (by first | (simp [entryFrame, mkF, argsToLocals, Value.category]; done) | rfl) ?_
  obtain ⟨S_FALSE, E_FALSE, F_FALSE, S_POTENTIALLY_FALSE, E_POTENTIALLY_FALSE, F_POTENTIALLY_FALSE, S_POTENTIALLY_TRUE, E_POTENTIALLY_TRUE, F_POTENTIALLY_TRUE, S_TRUE, E_TRUE, F_TRUE⟩ := id G
  refine Goes.step (T2 := s₁) (g2 := (mkF m 1 #[rv c_POTENTIALLY_TRUE] [(.ref c_POTENTIALLY_TRUE)])) (fun _ hr => XS.aloadN X0.here hx rfl (hb hby d1_0) rfl rfl hr) ?_
  obtain ⟨T7, X7, e7, st7⟩ := getS2 X0 hx hZ hown (host := "") (Or.inl (tw hw 6 rfl)) Via.refl e0 S_TRUE (g := (mkF m 1 #[rv c_POTENTIALLY_TRUE] [(.ref c_POTENTIALLY_TRUE)])) rfl (hb hby d1_1)
  refine Goes.step (T2 := T7) (g2 := (mkF m 4 #[rv c_POTENTIALLY_TRUE] [(.ref c_TRUE), (.ref c_POTENTIALLY_TRUE)])) st7 ?_
  refine Goes.step (T2 := T7) (g2 := (mkF m 7 #[rv c_POTENTIALLY_TRUE] [])) (fun _ hr => Jvm.RoadKit.acmp (g := (mkF m 4 #[rv c_POTENTIALLY_TRUE] [(.ref c_TRUE), (.ref c_POTENTIALLY_TRUE)])) X7 hx rfl rfl rfl (pc0 := 4) (pc' := 7) (same := false) rfl (hb hby d1_4) rfl (decide_eq_false fun q => (Fld.ne F_POTENTIALLY_TRUE F_TRUE (fun q => absurd (Value.int.inj q) (by decide))) (Value.ref.inj q)) (by decide) (by decide) hr) ?_
  refine Goes.step (T2 := T7) (g2 := (mkF m 8 #[rv c_POTENTIALLY_TRUE] [(.ref c_POTENTIALLY_TRUE)])) (fun _ hr => XS.aloadN X7.here hx rfl (hb hby d1_7) rfl rfl hr) ?_
  obtain ⟨T8, X8, e8, st8⟩ := getS2 X7 hx hZ hown (host := "") (Or.inl (tw hw 13 rfl)) Via.refl e7 S_FALSE (g := (mkF m 8 #[rv c_POTENTIALLY_TRUE] [(.ref c_POTENTIALLY_TRUE)])) rfl (hb hby d1_8)
  refine Goes.step (T2 := T8) (g2 := (mkF m 11 #[rv c_POTENTIALLY_TRUE] [(.ref c_FALSE), (.ref c_POTENTIALLY_TRUE)])) st8 ?_
  refine Goes.step (T2 := T8) (g2 := (mkF m 18 #[rv c_POTENTIALLY_TRUE] [])) (fun _ hr => Jvm.RoadKit.acmp (g := (mkF m 11 #[rv c_POTENTIALLY_TRUE] [(.ref c_FALSE), (.ref c_POTENTIALLY_TRUE)])) X8 hx rfl rfl rfl (pc0 := 11) (pc' := 18) (same := false) rfl (hb hby d1_11) rfl (decide_eq_false fun q => (Fld.ne F_POTENTIALLY_TRUE F_FALSE (fun q => absurd (Value.int.inj q) (by decide))) (Value.ref.inj q)) (by decide) (by decide) hr) ?_
  refine Goes.step (T2 := T8) (g2 := (mkF m 19 #[rv c_POTENTIALLY_TRUE] [(.int (0 : Int32))])) (fun _ hr => XS.iconst X8.here hx rfl (hb hby d1_18) hr) ?_
  exact Goes.ret (v := some (.int (0 : Int32))) X8 (by decide) (by decide) (fun h => by rw [Bd.returns] at h; cases h) ⟨rfl, N0, e8⟩ (fun fs hr => retN X8 hx (t := .boolean) Bd.returns (by simp) (hb hby d1_19) hr)
def Q_rm_finTRUE (Z : State) (c_FALSE : Addr) (c_POTENTIALLY_FALSE : Addr) (c_POTENTIALLY_TRUE : Addr) (c_TRUE : Addr) (h0 : Heap) (n0 : Nat) (v : Option Value) (h : Heap) (L : List Loc) : Prop := v = some (.int (1 : Int32)) ∧ Fr n0 L ∧ h = h0
set_option maxRecDepth 65536 in
set_option maxHeartbeats 40000000 in
theorem rm_finTRUE (l : Launch) (Z : State) (a0 : Array Value) (hw : ∀ d ∈ tables_1, d.before a0 Z = true) (ws : List Jvm.Cond) (c_FALSE : Addr) (c_POTENTIALLY_FALSE : Addr) (c_POTENTIALLY_TRUE : Addr) (c_TRUE : Addr) (h0 : Heap) (n0 : Nat) (Z0 : n0 ≤ h0.size) (G : Env0 Z h0 c_FALSE c_POTENTIALLY_FALSE c_POTENTIALLY_TRUE c_TRUE) :
    MetFree l Y1 (head1 (Jvm.Cond.code Y1 prog_117_method_5_code 1 (some .boolean) :: ws) ({ frames := 0, cells := 0, slots := 0, locals := 0 } : Room)) (fun a U => a = #[(.ref c_TRUE)] ∧ Z.Warmed39 U.vm ∧ U.heap = h0) (fun _ _ _ _ _ => True) (fun _ U o U' => ∃ v L, o = .returned v ∧ Q_rm_finTRUE Z c_FALSE c_POTENTIALLY_FALSE c_POTENTIALLY_TRUE c_TRUE h0 n0 v U'.heap L ∧ FrameEnd U o U' L ({ frames := 0, cells := 0, slots := 0, locals := 0 } : Room).cells ({ frames := 0, cells := 0, slots := 0, locals := 0 } : Room).slots) := by
  refine MetFree.of_bodySF (plainFor_of_name pn_com_example_libreconf_libreconf_pattern_Verdict) hisR ?_
  intro p e s m args below meth c s₁ Bd hml0 hP hK
  obtain ⟨rfl, hZ, hh⟩ := hP
  have hx := Bd.exec
  have hby := Bd.bytes
  have hml : c.maxLocals = 1 := hml0
  have hown : s.vm.findClass "com/example/libreconf/libreconf/pattern/Verdict" = some m.cls := findClass_of_methodNamed Bd.named
  have hnm := (name_of_methodNamed Bd.named Bd.method).1
  have X0 : Stand p l e ({ frames := 0, cells := 0, slots := 0, locals := 0 } : Room) s m #[(.ref c_TRUE)] below meth c s₁ [] 0 0 := Stand.of_body Bd
  have e0 : s₁.heap = h0 := by rw [← hh, Bd.state]; rfl
  have N0 := Fr.nil n0
  refine Goes.out (l := l) (c := c) (R := ({ frames := 0, cells := 0, slots := 0, locals := 0 } : Room)) (Q := Q_rm_finTRUE Z c_FALSE c_POTENTIALLY_FALSE c_POTENTIALLY_TRUE c_TRUE h0 n0) Bd.notSynchronized ?_
  refine Goes.cast (g2 := mkF m 0 #[rv c_TRUE] []) (by first | (simp [entryFrame, mkF, argsToLocals, Value.category]; done) | rfl) ?_
  obtain ⟨S_FALSE, E_FALSE, F_FALSE, S_POTENTIALLY_FALSE, E_POTENTIALLY_FALSE, F_POTENTIALLY_FALSE, S_POTENTIALLY_TRUE, E_POTENTIALLY_TRUE, F_POTENTIALLY_TRUE, S_TRUE, E_TRUE, F_TRUE⟩ := id G
  refine Goes.step (T2 := s₁) (g2 := (mkF m 1 #[rv c_TRUE] [(.ref c_TRUE)])) (fun _ hr => XS.aloadN X0.here hx rfl (hb hby d1_0) rfl rfl hr) ?_
  obtain ⟨T9, X9, e9, st9⟩ := getS2 X0 hx hZ hown (host := "") (Or.inl (tw hw 6 rfl)) Via.refl e0 S_TRUE (g := (mkF m 1 #[rv c_TRUE] [(.ref c_TRUE)])) rfl (hb hby d1_1)
  refine Goes.step (T2 := T9) (g2 := (mkF m 4 #[rv c_TRUE] [(.ref c_TRUE), (.ref c_TRUE)])) st9 ?_
  refine Goes.step (T2 := T9) (g2 := (mkF m 14 #[rv c_TRUE] [])) (fun _ hr => Jvm.RoadKit.acmp (g := (mkF m 4 #[rv c_TRUE] [(.ref c_TRUE), (.ref c_TRUE)])) X9 hx rfl rfl rfl (pc0 := 4) (pc' := 14) (same := true) rfl (hb hby d1_4) rfl (decide_eq_true rfl) (by decide) (by decide) hr) ?_
  refine Goes.step (T2 := T9) (g2 := (mkF m 15 #[rv c_TRUE] [(.int (1 : Int32))])) (fun _ hr => XS.iconst X9.here hx rfl (hb hby d1_14) hr) ?_
  refine Goes.step (T2 := T9) (g2 := (mkF m 19 #[rv c_TRUE] [(.int (1 : Int32))])) (fun _ hr => XS.goto X9.here hx rfl (pc0 := 15) (pc' := 19) rfl (hb hby d1_15) (by decide) (by decide) hr) ?_
  exact Goes.ret (v := some (.int (1 : Int32))) X9 (by decide) (by decide) (fun h => by rw [Bd.returns] at h; cases h) ⟨rfl, N0, e9⟩ (fun fs hr => retN X9 hx (t := .boolean) Bd.returns (by simp) (hb hby d1_19) hr)
theorem pn_com_example_libreconf_libreconf_pattern_VerdictIsFinalPinLaw : plainName "com/example/libreconf/libreconf/pattern/VerdictIsFinalPinLaw" = true := by first | (simp [plainName, overriddenIn]; done) | decide +kernel
def Q_rm_law (Z : State) (c_FALSE : Addr) (c_POTENTIALLY_FALSE : Addr) (c_POTENTIALLY_TRUE : Addr) (c_TRUE : Addr) (p1 : Int32) (p2 : Int32) (h0 : Heap) (n0 : Nat) (v : Option Value) (h : Heap) (L : List Loc) : Prop := v = some (.int (1 : Int32)) ∧ Fr n0 L
set_option maxRecDepth 65536 in
set_option maxHeartbeats 40000000 in
theorem rm_law (l : Launch) (Z : State) (a0 : Array Value) (hw : ∀ d ∈ tables_1, d.before a0 Z = true) (ws : List Jvm.Cond) (c_FALSE : Addr) (c_POTENTIALLY_FALSE : Addr) (c_POTENTIALLY_TRUE : Addr) (c_TRUE : Addr) (p1 : Int32) (p2 : Int32) (h0 : Heap) (n0 : Nat) (Z0 : n0 ≤ h0.size) (G : Env0 Z h0 c_FALSE c_POTENTIALLY_FALSE c_POTENTIALLY_TRUE c_TRUE) :
    MetFree l x (head1 (Jvm.Cond.code x code maxLocals ret :: ws) room_1) (fun a U => a = #[(.int p1), (.int p2)] ∧ Z.Warmed39 U.vm ∧ U.heap = h0) (fun _ _ _ _ _ => True) (fun _ U o U' => ∃ v L, o = .returned v ∧ Q_rm_law Z c_FALSE c_POTENTIALLY_FALSE c_POTENTIALLY_TRUE c_TRUE p1 p2 h0 n0 v U'.heap L ∧ FrameEnd U o U' L room_1.cells room_1.slots) := by
  refine MetFree.of_bodySF (plainFor_of_name pn_com_example_libreconf_libreconf_pattern_VerdictIsFinalPinLaw) hisR ?_
  intro p e s m args below meth c s₁ Bd hml0 hP hK
  obtain ⟨rfl, hZ, hh⟩ := hP
  have hx := Bd.exec
  have hby := Bd.bytes
  have hml : c.maxLocals = 6 := hml0
  have hown : s.vm.findClass "com/example/libreconf/libreconf/pattern/VerdictIsFinalPinLaw" = some m.cls := findClass_of_methodNamed Bd.named
  have hnm := (name_of_methodNamed Bd.named Bd.method).1
  have X0 : Stand p l e room_1 s m #[(.int p1), (.int p2)] below meth c s₁ [] 0 0 := Stand.of_body Bd
  have e0 : s₁.heap = h0 := by rw [← hh, Bd.state]; rfl
  have N0 := Fr.nil n0
  refine Goes.out (l := l) (c := c) (R := room_1) (Q := Q_rm_law Z c_FALSE c_POTENTIALLY_FALSE c_POTENTIALLY_TRUE c_TRUE p1 p2 h0 n0) Bd.notSynchronized ?_
  refine Goes.cast (g2 := mkF m 0 #[iv p1, iv p2, .unset, .unset, .unset, .unset] []) (by first | (simp [entryFrame, mkF, argsToLocals, Value.category, maxLocals]; done) | rfl) ?_
  obtain ⟨S_FALSE, E_FALSE, F_FALSE, S_POTENTIALLY_FALSE, E_POTENTIALLY_FALSE, F_POTENTIALLY_FALSE, S_POTENTIALLY_TRUE, E_POTENTIALLY_TRUE, F_POTENTIALLY_TRUE, S_TRUE, E_TRUE, F_TRUE⟩ := id G
  refine Goes.step (T2 := s₁) (g2 := (mkF m 1 #[iv p1, iv p2, .unset, .unset, .unset, .unset] [(.int p1)])) (fun _ hr => XS.iloadN X0.here hx rfl (hb hby at_0) rfl  hr) ?_
  refine Goes.step (T2 := s₁) (g2 := (mkF m 2 #[iv p1, iv p2, .unset, .unset, .unset, .unset] [(.int (3 : Int32)), (.int p1)])) (fun _ hr => XS.iconst X0.here hx rfl (hb hby at_1) hr) ?_
  refine Goes.step (T2 := s₁) (g2 := (mkF m 3 #[iv p1, iv p2, .unset, .unset, .unset, .unset] [(.int (p1 &&& (3 : Int32)))])) (fun _ hr => XS.iand X0.here hx rfl (hb hby at_2) rfl hr) ?_
  rcases own_mask3 p1 with hk | hk | hk | hk
  · rw [hk]
    refine Goes.step (T2 := s₁) (g2 := (mkF m 4 #[iv p1, iv p2, iv 0, .unset, .unset, .unset] [])) (fun _ hr => XS.istoreN X0.here hx rfl (hb hby at_3) rfl (l' := #[iv p1, iv p2, iv 0, .unset, .unset, .unset]) rfl hr) ?_
    refine Goes.step (T2 := s₁) (g2 := (mkF m 5 #[iv p1, iv p2, iv 0, .unset, .unset, .unset] [(.int (0 : Int32))])) (fun _ hr => XS.iloadN X0.here hx rfl (hb hby at_4) rfl  hr) ?_
    refine Goes.step (T2 := s₁) (g2 := (mkF m 8 #[iv p1, iv p2, iv 0, .unset, .unset, .unset] [])) (fun _ hr => XS.ifNo X0.here hx rfl (hb hby at_5) rfl ((if0 _ _).trans (teq (by decide : (0 : Int32) = (0 : Int32))).2) hr) ?_
    obtain ⟨T10, X10, e10, st10⟩ := getS2 X0 hx hZ hown (host := "") (Or.inl (tw hw 0 rfl)) Via.refl e0 S_FALSE (g := (mkF m 8 #[iv p1, iv p2, iv 0, .unset, .unset, .unset] [])) rfl (hb hby at_8)
    refine Goes.step (T2 := T10) (g2 := (mkF m 11 #[iv p1, iv p2, iv 0, .unset, .unset, .unset] [(.ref c_FALSE)])) st10 ?_
    refine Goes.step (T2 := T10) (g2 := (mkF m 12 #[iv p1, iv p2, iv 0, rv c_FALSE, .unset, .unset] [])) (fun _ hr => XS.astoreN X10.here hx rfl (hb hby at_11) rfl rfl (l' := #[iv p1, iv p2, iv 0, rv c_FALSE, .unset, .unset]) rfl hr) ?_
    refine Goes.step (T2 := T10) (g2 := (mkF m 43 #[iv p1, iv p2, iv 0, rv c_FALSE, .unset, .unset] [])) (fun _ hr => XS.goto X10.here hx rfl (pc0 := 12) (pc' := 43) rfl (hb hby at_12) (by decide) (by decide) hr) ?_
    refine Goes.step (T2 := T10) (g2 := (mkF m 44 #[iv p1, iv p2, iv 0, rv c_FALSE, .unset, .unset] [(.int (0 : Int32))])) (fun _ hr => XS.iloadN X10.here hx rfl (hb hby at_43) rfl  hr) ?_
    refine Goes.step (T2 := T10) (g2 := (mkF m 52 #[iv p1, iv p2, iv 0, rv c_FALSE, .unset, .unset] [])) (fun _ hr => XS.ifYes X10.here hx rfl (pc0 := 44) (pc' := 52) rfl (hb hby at_44) rfl ((if0 _ _).trans (teq (by decide : (0 : Int32) = (0 : Int32))).1) (by decide) (by decide) hr) ?_
    refine Goes.step (T2 := T10) (g2 := (mkF m 53 #[iv p1, iv p2, iv 0, rv c_FALSE, .unset, .unset] [(.int (1 : Int32))])) (fun _ hr => XS.iconst X10.here hx rfl (hb hby at_52) hr) ?_
    refine Goes.step (T2 := T10) (g2 := (mkF m 57 #[iv p1, iv p2, iv 0, rv c_FALSE, .unset, .unset] [(.int (1 : Int32))])) (fun _ hr => XS.goto X10.here hx rfl (pc0 := 53) (pc' := 57) rfl (hb hby at_53) (by decide) (by decide) hr) ?_
    refine Goes.step (T2 := T10) (g2 := (mkF m 59 #[iv p1, iv p2, iv 0, rv c_FALSE, iv 1, .unset] [])) (fun _ hr => XS.istore X10.here hx rfl (hb hby at_57) rfl (l' := #[iv p1, iv p2, iv 0, rv c_FALSE, iv 1, .unset]) rfl hr) ?_
    refine Goes.step (T2 := T10) (g2 := (mkF m 60 #[iv p1, iv p2, iv 0, rv c_FALSE, iv 1, .unset] [(.int p2)])) (fun _ hr => XS.iloadN X10.here hx rfl (hb hby at_59) rfl  hr) ?_
    refine Goes.step (T2 := T10) (g2 := (mkF m 61 #[iv p1, iv p2, iv 0, rv c_FALSE, iv 1, .unset] [(.int (1 : Int32)), (.int p2)])) (fun _ hr => XS.iconst X10.here hx rfl (hb hby at_60) hr) ?_
    refine Goes.step (T2 := T10) (g2 := (mkF m 62 #[iv p1, iv p2, iv 0, rv c_FALSE, iv 1, .unset] [(.int (p2 &&& (1 : Int32)))])) (fun _ hr => XS.iand X10.here hx rfl (hb hby at_61) rfl hr) ?_
    rcases own_mask1 p2 with hk | hk
    · rw [hk]
      refine Goes.step (T2 := T10) (g2 := (mkF m 69 #[iv p1, iv p2, iv 0, rv c_FALSE, iv 1, .unset] [])) (fun _ hr => XS.ifYes X10.here hx rfl (pc0 := 62) (pc' := 69) rfl (hb hby at_62) rfl ((if0 _ _).trans (teq (by decide : (0 : Int32) = (0 : Int32))).1) (by decide) (by decide) hr) ?_
      refine Goes.step (T2 := T10) (g2 := (mkF m 70 #[iv p1, iv p2, iv 0, rv c_FALSE, iv 1, .unset] [(.int (0 : Int32))])) (fun _ hr => XS.iconst X10.here hx rfl (hb hby at_69) hr) ?_
      obtain ⟨_, _, ⟨T11, L11, k11, n11⟩, -, X11, ⟨Lc11, hQ11, l11, y11, z11⟩, st11⟩ := Jvm.LawKit.callS X10 hx (y := Y0) hown (mvT hZ (tw hw 3 rfl)) (mvT hZ (tw hw 4 rfl)) (mvT hZ (tw hw 1 rfl)) (mvT hZ (tw hw 5 rfl)) (by decide) (backOf (W := 0) (rm_of0 l Z a0 hw [] c_FALSE c_POTENTIALLY_FALSE c_POTENTIALLY_TRUE c_TRUE h0 n0 Z0 G) hZ (tw hw 5 rfl) (tw hw 1 rfl) (by decide) (by decide)) (g := (mkF m 70 #[iv p1, iv p2, iv 0, rv c_FALSE, iv 1, .unset] [(.int (0 : Int32))])) rfl (by rw [hml]; rfl) (argsL := [(.int (0 : Int32))]) (rest := []) (lenOf pd_0 rfl) rfl (by show 2 * 0 + _ ≤ _; exact Nat.le_of_eq rfl) (hb hby at_70) (fun _ _ => ⟨rfl, e10, (by decide : 0 + 0 ≤ _), (by decide : 0 + 0 ≤ _)⟩)
      dsimp only [Pt.U, Pt.locs, Pt.cells, Pt.slots] at X11 l11 y11 z11 st11 hQ11
      subst l11 y11 z11
      obtain ⟨rfl, N11q, e11⟩ := hQ11
      have N11 := Fr.app N0 N11q
      refine Goes.step (T2 := T11) (g2 := (mkF m 73 #[iv p1, iv p2, iv 0, rv c_FALSE, iv 1, .unset] [(.ref c_FALSE)])) st11 ?_
      obtain ⟨cq12, kq12, q12a, q12b, q12c⟩ := isOf hZ e11 E_FALSE
      obtain ⟨_, _, ⟨T12, L12, k12, n12⟩, -, X12, ⟨Lc12, hQ12, l12, y12, z12⟩, st12⟩ := X11.virtualBack hx (y := Y1) (z := Y1) hown (mvT hZ (tw hw 8 rfl)) (mvT hZ (tw hw 9 rfl)) (notFace_of_selects (args := #[]) (mvT hZ (tw hw 11 rfl))) (mvT hZ (tw hw 11 rfl)) (mvT hZ (tw hw 10 rfl)) (by decide) (backOf (W := 0) (rm_finFALSE l Z a0 hw [] c_FALSE c_POTENTIALLY_FALSE c_POTENTIALLY_TRUE c_TRUE h0 n0 Z0 G) hZ (tw hw 12 rfl) (tw hw 1 rfl) (by decide) (by decide)) q12a q12c (g := (mkF m 73 #[iv p1, iv p2, iv 0, rv c_FALSE, iv 1, .unset] [(.ref c_FALSE)])) rfl (by rw [hml]; rfl) (Steps.refl _) (argsL := []) (rest := []) (lenOf pd_1 rfl) rfl (by show 2 * 0 + _ ≤ _; exact Nat.le_of_eq rfl) (hb hby at_73) (fun _ _ => ⟨rfl, e11, (by decide : 0 + 0 ≤ _), (by decide : 0 + 0 ≤ _)⟩)
      dsimp only [Pt.U, Pt.locs, Pt.cells, Pt.slots] at X12 l12 y12 z12 st12 hQ12
      subst l12 y12 z12
      obtain ⟨rfl, N12q, e12⟩ := hQ12
      have N12 := Fr.app N11 N12q
      refine Goes.step (T2 := T12) (g2 := (mkF m 76 #[iv p1, iv p2, iv 0, rv c_FALSE, iv 1, .unset] [(.int (1 : Int32))])) (fun _ hr => st12.trans hr) ?_
      refine Goes.step (T2 := T12) (g2 := (mkF m 78 #[iv p1, iv p2, iv 0, rv c_FALSE, iv 1, iv 1] [])) (fun _ hr => XS.istore X12.here hx rfl (hb hby at_76) rfl (l' := #[iv p1, iv p2, iv 0, rv c_FALSE, iv 1, iv 1]) rfl hr) ?_
      refine Goes.step (T2 := T12) (g2 := (mkF m 79 #[iv p1, iv p2, iv 0, rv c_FALSE, iv 1, iv 1] [(.ref c_FALSE)])) (fun _ hr => XS.aloadN X12.here hx rfl (hb hby at_78) rfl rfl hr) ?_
      obtain ⟨cq13, kq13, q13a, q13b, q13c⟩ := isOf hZ e12 E_FALSE
      obtain ⟨_, _, ⟨T13, L13, k13, n13⟩, -, X13, ⟨Lc13, hQ13, l13, y13, z13⟩, st13⟩ := X12.virtualBack hx (y := Y1) (z := Y1) hown (mvT hZ (tw hw 8 rfl)) (mvT hZ (tw hw 9 rfl)) (notFace_of_selects (args := #[]) (mvT hZ (tw hw 11 rfl))) (mvT hZ (tw hw 11 rfl)) (mvT hZ (tw hw 10 rfl)) (by decide) (backOf (W := 0) (rm_finFALSE l Z a0 hw [] c_FALSE c_POTENTIALLY_FALSE c_POTENTIALLY_TRUE c_TRUE h0 n0 Z0 G) hZ (tw hw 12 rfl) (tw hw 1 rfl) (by decide) (by decide)) q13a q13c (g := (mkF m 79 #[iv p1, iv p2, iv 0, rv c_FALSE, iv 1, iv 1] [(.ref c_FALSE)])) rfl (by rw [hml]; rfl) (Steps.refl _) (argsL := []) (rest := []) (lenOf pd_1 rfl) rfl (by show 2 * 0 + _ ≤ _; exact Nat.le_of_eq rfl) (hb hby at_79) (fun _ _ => ⟨rfl, e12, (by decide : 0 + 0 ≤ _), (by decide : 0 + 0 ≤ _)⟩)
      dsimp only [Pt.U, Pt.locs, Pt.cells, Pt.slots] at X13 l13 y13 z13 st13 hQ13
      subst l13 y13 z13
      obtain ⟨rfl, N13q, e13⟩ := hQ13
      have N13 := Fr.app N12 N13q
      refine Goes.step (T2 := T13) (g2 := (mkF m 82 #[iv p1, iv p2, iv 0, rv c_FALSE, iv 1, iv 1] [(.int (1 : Int32))])) (fun _ hr => st13.trans hr) ?_
      refine Goes.step (T2 := T13) (g2 := (mkF m 84 #[iv p1, iv p2, iv 0, rv c_FALSE, iv 1, iv 1] [(.int (1 : Int32)), (.int (1 : Int32))])) (fun _ hr => XS.iload X13.here hx rfl (hb hby at_82) rfl  hr) ?_
      refine Goes.step (T2 := T13) (g2 := (mkF m 87 #[iv p1, iv p2, iv 0, rv c_FALSE, iv 1, iv 1] [])) (fun _ hr => XS.icmpNo X13.here hx rfl (hb hby at_84) rfl (teq (by decide : (1 : Int32) = (1 : Int32))).2 hr) ?_
      refine Goes.step (T2 := T13) (g2 := (mkF m 89 #[iv p1, iv p2, iv 0, rv c_FALSE, iv 1, iv 1] [(.int (1 : Int32))])) (fun _ hr => XS.iload X13.here hx rfl (hb hby at_87) rfl  hr) ?_
      refine Goes.step (T2 := T13) (g2 := (mkF m 92 #[iv p1, iv p2, iv 0, rv c_FALSE, iv 1, iv 1] [])) (fun _ hr => XS.ifNo X13.here hx rfl (hb hby at_89) rfl ((if0 _ _).trans (feq (by decide : ¬ ((1 : Int32) = (0 : Int32)))).1) hr) ?_
      refine Goes.step (T2 := T13) (g2 := (mkF m 93 #[iv p1, iv p2, iv 0, rv c_FALSE, iv 1, iv 1] [(.int (1 : Int32))])) (fun _ hr => XS.iconst X13.here hx rfl (hb hby at_92) hr) ?_
      refine Goes.step (T2 := T13) (g2 := (mkF m 97 #[iv p1, iv p2, iv 0, rv c_FALSE, iv 1, iv 1] [(.int (1 : Int32))])) (fun _ hr => XS.goto X13.here hx rfl (pc0 := 93) (pc' := 97) rfl (hb hby at_93) (by decide) (by decide) hr) ?_
      exact Goes.ret (v := some (.int (1 : Int32))) X13 (by decide) (by decide) (fun h => by rw [Bd.returns] at h; cases h) ⟨rfl, N13⟩ (fun fs hr => retN X13 hx (t := .boolean) Bd.returns (by simp) (hb hby at_97) hr)
    · rw [hk]
      refine Goes.step (T2 := T10) (g2 := (mkF m 65 #[iv p1, iv p2, iv 0, rv c_FALSE, iv 1, .unset] [])) (fun _ hr => XS.ifNo X10.here hx rfl (hb hby at_62) rfl ((if0 _ _).trans (feq (by decide : ¬ ((1 : Int32) = (0 : Int32)))).1) hr) ?_
      refine Goes.step (T2 := T10) (g2 := (mkF m 66 #[iv p1, iv p2, iv 0, rv c_FALSE, iv 1, .unset] [(.int (1 : Int32))])) (fun _ hr => XS.iconst X10.here hx rfl (hb hby at_65) hr) ?_
      refine Goes.step (T2 := T10) (g2 := (mkF m 70 #[iv p1, iv p2, iv 0, rv c_FALSE, iv 1, .unset] [(.int (1 : Int32))])) (fun _ hr => XS.goto X10.here hx rfl (pc0 := 66) (pc' := 70) rfl (hb hby at_66) (by decide) (by decide) hr) ?_
      obtain ⟨_, _, ⟨T14, L14, k14, n14⟩, -, X14, ⟨Lc14, hQ14, l14, y14, z14⟩, st14⟩ := Jvm.LawKit.callS X10 hx (y := Y0) hown (mvT hZ (tw hw 3 rfl)) (mvT hZ (tw hw 4 rfl)) (mvT hZ (tw hw 1 rfl)) (mvT hZ (tw hw 5 rfl)) (by decide) (backOf (W := 0) (rm_of1 l Z a0 hw [] c_FALSE c_POTENTIALLY_FALSE c_POTENTIALLY_TRUE c_TRUE h0 n0 Z0 G) hZ (tw hw 5 rfl) (tw hw 1 rfl) (by decide) (by decide)) (g := (mkF m 70 #[iv p1, iv p2, iv 0, rv c_FALSE, iv 1, .unset] [(.int (1 : Int32))])) rfl (by rw [hml]; rfl) (argsL := [(.int (1 : Int32))]) (rest := []) (lenOf pd_0 rfl) rfl (by show 2 * 0 + _ ≤ _; exact Nat.le_of_eq rfl) (hb hby at_70) (fun _ _ => ⟨rfl, e10, (by decide : 0 + 0 ≤ _), (by decide : 0 + 0 ≤ _)⟩)
      dsimp only [Pt.U, Pt.locs, Pt.cells, Pt.slots] at X14 l14 y14 z14 st14 hQ14
      subst l14 y14 z14
      obtain ⟨rfl, N14q, e14⟩ := hQ14
      have N14 := Fr.app N0 N14q
      refine Goes.step (T2 := T14) (g2 := (mkF m 73 #[iv p1, iv p2, iv 0, rv c_FALSE, iv 1, .unset] [(.ref c_TRUE)])) st14 ?_
      obtain ⟨cq15, kq15, q15a, q15b, q15c⟩ := isOf hZ e14 E_TRUE
      obtain ⟨_, _, ⟨T15, L15, k15, n15⟩, -, X15, ⟨Lc15, hQ15, l15, y15, z15⟩, st15⟩ := X14.virtualBack hx (y := Y1) (z := Y1) hown (mvT hZ (tw hw 8 rfl)) (mvT hZ (tw hw 9 rfl)) (notFace_of_selects (args := #[]) (mvT hZ (tw hw 11 rfl))) (mvT hZ (tw hw 11 rfl)) (mvT hZ (tw hw 10 rfl)) (by decide) (backOf (W := 0) (rm_finTRUE l Z a0 hw [] c_FALSE c_POTENTIALLY_FALSE c_POTENTIALLY_TRUE c_TRUE h0 n0 Z0 G) hZ (tw hw 12 rfl) (tw hw 1 rfl) (by decide) (by decide)) q15a q15c (g := (mkF m 73 #[iv p1, iv p2, iv 0, rv c_FALSE, iv 1, .unset] [(.ref c_TRUE)])) rfl (by rw [hml]; rfl) (Steps.refl _) (argsL := []) (rest := []) (lenOf pd_1 rfl) rfl (by show 2 * 0 + _ ≤ _; exact Nat.le_of_eq rfl) (hb hby at_73) (fun _ _ => ⟨rfl, e14, (by decide : 0 + 0 ≤ _), (by decide : 0 + 0 ≤ _)⟩)
      dsimp only [Pt.U, Pt.locs, Pt.cells, Pt.slots] at X15 l15 y15 z15 st15 hQ15
      subst l15 y15 z15
      obtain ⟨rfl, N15q, e15⟩ := hQ15
      have N15 := Fr.app N14 N15q
      refine Goes.step (T2 := T15) (g2 := (mkF m 76 #[iv p1, iv p2, iv 0, rv c_FALSE, iv 1, .unset] [(.int (1 : Int32))])) (fun _ hr => st15.trans hr) ?_
      refine Goes.step (T2 := T15) (g2 := (mkF m 78 #[iv p1, iv p2, iv 0, rv c_FALSE, iv 1, iv 1] [])) (fun _ hr => XS.istore X15.here hx rfl (hb hby at_76) rfl (l' := #[iv p1, iv p2, iv 0, rv c_FALSE, iv 1, iv 1]) rfl hr) ?_
      refine Goes.step (T2 := T15) (g2 := (mkF m 79 #[iv p1, iv p2, iv 0, rv c_FALSE, iv 1, iv 1] [(.ref c_FALSE)])) (fun _ hr => XS.aloadN X15.here hx rfl (hb hby at_78) rfl rfl hr) ?_
      obtain ⟨cq16, kq16, q16a, q16b, q16c⟩ := isOf hZ e15 E_FALSE
      obtain ⟨_, _, ⟨T16, L16, k16, n16⟩, -, X16, ⟨Lc16, hQ16, l16, y16, z16⟩, st16⟩ := X15.virtualBack hx (y := Y1) (z := Y1) hown (mvT hZ (tw hw 8 rfl)) (mvT hZ (tw hw 9 rfl)) (notFace_of_selects (args := #[]) (mvT hZ (tw hw 11 rfl))) (mvT hZ (tw hw 11 rfl)) (mvT hZ (tw hw 10 rfl)) (by decide) (backOf (W := 0) (rm_finFALSE l Z a0 hw [] c_FALSE c_POTENTIALLY_FALSE c_POTENTIALLY_TRUE c_TRUE h0 n0 Z0 G) hZ (tw hw 12 rfl) (tw hw 1 rfl) (by decide) (by decide)) q16a q16c (g := (mkF m 79 #[iv p1, iv p2, iv 0, rv c_FALSE, iv 1, iv 1] [(.ref c_FALSE)])) rfl (by rw [hml]; rfl) (Steps.refl _) (argsL := []) (rest := []) (lenOf pd_1 rfl) rfl (by show 2 * 0 + _ ≤ _; exact Nat.le_of_eq rfl) (hb hby at_79) (fun _ _ => ⟨rfl, e15, (by decide : 0 + 0 ≤ _), (by decide : 0 + 0 ≤ _)⟩)
      dsimp only [Pt.U, Pt.locs, Pt.cells, Pt.slots] at X16 l16 y16 z16 st16 hQ16
      subst l16 y16 z16
      obtain ⟨rfl, N16q, e16⟩ := hQ16
      have N16 := Fr.app N15 N16q
      refine Goes.step (T2 := T16) (g2 := (mkF m 82 #[iv p1, iv p2, iv 0, rv c_FALSE, iv 1, iv 1] [(.int (1 : Int32))])) (fun _ hr => st16.trans hr) ?_
      refine Goes.step (T2 := T16) (g2 := (mkF m 84 #[iv p1, iv p2, iv 0, rv c_FALSE, iv 1, iv 1] [(.int (1 : Int32)), (.int (1 : Int32))])) (fun _ hr => XS.iload X16.here hx rfl (hb hby at_82) rfl  hr) ?_
      refine Goes.step (T2 := T16) (g2 := (mkF m 87 #[iv p1, iv p2, iv 0, rv c_FALSE, iv 1, iv 1] [])) (fun _ hr => XS.icmpNo X16.here hx rfl (hb hby at_84) rfl (teq (by decide : (1 : Int32) = (1 : Int32))).2 hr) ?_
      refine Goes.step (T2 := T16) (g2 := (mkF m 89 #[iv p1, iv p2, iv 0, rv c_FALSE, iv 1, iv 1] [(.int (1 : Int32))])) (fun _ hr => XS.iload X16.here hx rfl (hb hby at_87) rfl  hr) ?_
      refine Goes.step (T2 := T16) (g2 := (mkF m 92 #[iv p1, iv p2, iv 0, rv c_FALSE, iv 1, iv 1] [])) (fun _ hr => XS.ifNo X16.here hx rfl (hb hby at_89) rfl ((if0 _ _).trans (feq (by decide : ¬ ((1 : Int32) = (0 : Int32)))).1) hr) ?_
      refine Goes.step (T2 := T16) (g2 := (mkF m 93 #[iv p1, iv p2, iv 0, rv c_FALSE, iv 1, iv 1] [(.int (1 : Int32))])) (fun _ hr => XS.iconst X16.here hx rfl (hb hby at_92) hr) ?_
      refine Goes.step (T2 := T16) (g2 := (mkF m 97 #[iv p1, iv p2, iv 0, rv c_FALSE, iv 1, iv 1] [(.int (1 : Int32))])) (fun _ hr => XS.goto X16.here hx rfl (pc0 := 93) (pc' := 97) rfl (hb hby at_93) (by decide) (by decide) hr) ?_
      exact Goes.ret (v := some (.int (1 : Int32))) X16 (by decide) (by decide) (fun h => by rw [Bd.returns] at h; cases h) ⟨rfl, N16⟩ (fun fs hr => retN X16 hx (t := .boolean) Bd.returns (by simp) (hb hby at_97) hr)
  · rw [hk]
    refine Goes.step (T2 := s₁) (g2 := (mkF m 4 #[iv p1, iv p2, iv 1, .unset, .unset, .unset] [])) (fun _ hr => XS.istoreN X0.here hx rfl (hb hby at_3) rfl (l' := #[iv p1, iv p2, iv 1, .unset, .unset, .unset]) rfl hr) ?_
    refine Goes.step (T2 := s₁) (g2 := (mkF m 5 #[iv p1, iv p2, iv 1, .unset, .unset, .unset] [(.int (1 : Int32))])) (fun _ hr => XS.iloadN X0.here hx rfl (hb hby at_4) rfl  hr) ?_
    refine Goes.step (T2 := s₁) (g2 := (mkF m 15 #[iv p1, iv p2, iv 1, .unset, .unset, .unset] [])) (fun _ hr => XS.ifYes X0.here hx rfl (pc0 := 5) (pc' := 15) rfl (hb hby at_5) rfl ((if0 _ _).trans (feq (by decide : ¬ ((1 : Int32) = (0 : Int32)))).2) (by decide) (by decide) hr) ?_
    refine Goes.step (T2 := s₁) (g2 := (mkF m 16 #[iv p1, iv p2, iv 1, .unset, .unset, .unset] [(.int (1 : Int32))])) (fun _ hr => XS.iloadN X0.here hx rfl (hb hby at_15) rfl  hr) ?_
    refine Goes.step (T2 := s₁) (g2 := (mkF m 17 #[iv p1, iv p2, iv 1, .unset, .unset, .unset] [(.int (1 : Int32)), (.int (1 : Int32))])) (fun _ hr => XS.iconst X0.here hx rfl (hb hby at_16) hr) ?_
    refine Goes.step (T2 := s₁) (g2 := (mkF m 20 #[iv p1, iv p2, iv 1, .unset, .unset, .unset] [])) (fun _ hr => XS.icmpNo X0.here hx rfl (hb hby at_17) rfl (teq (by decide : (1 : Int32) = (1 : Int32))).2 hr) ?_
    obtain ⟨T17, X17, e17, st17⟩ := getS2 X0 hx hZ hown (host := "") (Or.inl (tw hw 16 rfl)) Via.refl e0 S_POTENTIALLY_FALSE (g := (mkF m 20 #[iv p1, iv p2, iv 1, .unset, .unset, .unset] [])) rfl (hb hby at_20)
    refine Goes.step (T2 := T17) (g2 := (mkF m 23 #[iv p1, iv p2, iv 1, .unset, .unset, .unset] [(.ref c_POTENTIALLY_FALSE)])) st17 ?_
    refine Goes.step (T2 := T17) (g2 := (mkF m 24 #[iv p1, iv p2, iv 1, rv c_POTENTIALLY_FALSE, .unset, .unset] [])) (fun _ hr => XS.astoreN X17.here hx rfl (hb hby at_23) rfl rfl (l' := #[iv p1, iv p2, iv 1, rv c_POTENTIALLY_FALSE, .unset, .unset]) rfl hr) ?_
    refine Goes.step (T2 := T17) (g2 := (mkF m 43 #[iv p1, iv p2, iv 1, rv c_POTENTIALLY_FALSE, .unset, .unset] [])) (fun _ hr => XS.goto X17.here hx rfl (pc0 := 24) (pc' := 43) rfl (hb hby at_24) (by decide) (by decide) hr) ?_
    refine Goes.step (T2 := T17) (g2 := (mkF m 44 #[iv p1, iv p2, iv 1, rv c_POTENTIALLY_FALSE, .unset, .unset] [(.int (1 : Int32))])) (fun _ hr => XS.iloadN X17.here hx rfl (hb hby at_43) rfl  hr) ?_
    refine Goes.step (T2 := T17) (g2 := (mkF m 47 #[iv p1, iv p2, iv 1, rv c_POTENTIALLY_FALSE, .unset, .unset] [])) (fun _ hr => XS.ifNo X17.here hx rfl (hb hby at_44) rfl ((if0 _ _).trans (feq (by decide : ¬ ((1 : Int32) = (0 : Int32)))).1) hr) ?_
    refine Goes.step (T2 := T17) (g2 := (mkF m 48 #[iv p1, iv p2, iv 1, rv c_POTENTIALLY_FALSE, .unset, .unset] [(.int (1 : Int32))])) (fun _ hr => XS.iloadN X17.here hx rfl (hb hby at_47) rfl  hr) ?_
    refine Goes.step (T2 := T17) (g2 := (mkF m 49 #[iv p1, iv p2, iv 1, rv c_POTENTIALLY_FALSE, .unset, .unset] [(.int (3 : Int32)), (.int (1 : Int32))])) (fun _ hr => XS.iconst X17.here hx rfl (hb hby at_48) hr) ?_
    refine Goes.step (T2 := T17) (g2 := (mkF m 56 #[iv p1, iv p2, iv 1, rv c_POTENTIALLY_FALSE, .unset, .unset] [])) (fun _ hr => XS.icmpYes X17.here hx rfl (pc0 := 49) (pc' := 56) rfl (hb hby at_49) rfl (feq (by decide : ¬ ((1 : Int32) = (3 : Int32)))).2 (by decide) (by decide) hr) ?_
    refine Goes.step (T2 := T17) (g2 := (mkF m 57 #[iv p1, iv p2, iv 1, rv c_POTENTIALLY_FALSE, .unset, .unset] [(.int (0 : Int32))])) (fun _ hr => XS.iconst X17.here hx rfl (hb hby at_56) hr) ?_
    refine Goes.step (T2 := T17) (g2 := (mkF m 59 #[iv p1, iv p2, iv 1, rv c_POTENTIALLY_FALSE, iv 0, .unset] [])) (fun _ hr => XS.istore X17.here hx rfl (hb hby at_57) rfl (l' := #[iv p1, iv p2, iv 1, rv c_POTENTIALLY_FALSE, iv 0, .unset]) rfl hr) ?_
    refine Goes.step (T2 := T17) (g2 := (mkF m 60 #[iv p1, iv p2, iv 1, rv c_POTENTIALLY_FALSE, iv 0, .unset] [(.int p2)])) (fun _ hr => XS.iloadN X17.here hx rfl (hb hby at_59) rfl  hr) ?_
    refine Goes.step (T2 := T17) (g2 := (mkF m 61 #[iv p1, iv p2, iv 1, rv c_POTENTIALLY_FALSE, iv 0, .unset] [(.int (1 : Int32)), (.int p2)])) (fun _ hr => XS.iconst X17.here hx rfl (hb hby at_60) hr) ?_
    refine Goes.step (T2 := T17) (g2 := (mkF m 62 #[iv p1, iv p2, iv 1, rv c_POTENTIALLY_FALSE, iv 0, .unset] [(.int (p2 &&& (1 : Int32)))])) (fun _ hr => XS.iand X17.here hx rfl (hb hby at_61) rfl hr) ?_
    rcases own_mask1 p2 with hk | hk
    · rw [hk]
      refine Goes.step (T2 := T17) (g2 := (mkF m 69 #[iv p1, iv p2, iv 1, rv c_POTENTIALLY_FALSE, iv 0, .unset] [])) (fun _ hr => XS.ifYes X17.here hx rfl (pc0 := 62) (pc' := 69) rfl (hb hby at_62) rfl ((if0 _ _).trans (teq (by decide : (0 : Int32) = (0 : Int32))).1) (by decide) (by decide) hr) ?_
      refine Goes.step (T2 := T17) (g2 := (mkF m 70 #[iv p1, iv p2, iv 1, rv c_POTENTIALLY_FALSE, iv 0, .unset] [(.int (0 : Int32))])) (fun _ hr => XS.iconst X17.here hx rfl (hb hby at_69) hr) ?_
      obtain ⟨_, _, ⟨T18, L18, k18, n18⟩, -, X18, ⟨Lc18, hQ18, l18, y18, z18⟩, st18⟩ := Jvm.LawKit.callS X17 hx (y := Y0) hown (mvT hZ (tw hw 3 rfl)) (mvT hZ (tw hw 4 rfl)) (mvT hZ (tw hw 1 rfl)) (mvT hZ (tw hw 5 rfl)) (by decide) (backOf (W := 0) (rm_of0 l Z a0 hw [] c_FALSE c_POTENTIALLY_FALSE c_POTENTIALLY_TRUE c_TRUE h0 n0 Z0 G) hZ (tw hw 5 rfl) (tw hw 1 rfl) (by decide) (by decide)) (g := (mkF m 70 #[iv p1, iv p2, iv 1, rv c_POTENTIALLY_FALSE, iv 0, .unset] [(.int (0 : Int32))])) rfl (by rw [hml]; rfl) (argsL := [(.int (0 : Int32))]) (rest := []) (lenOf pd_0 rfl) rfl (by show 2 * 0 + _ ≤ _; exact Nat.le_of_eq rfl) (hb hby at_70) (fun _ _ => ⟨rfl, e17, (by decide : 0 + 0 ≤ _), (by decide : 0 + 0 ≤ _)⟩)
      dsimp only [Pt.U, Pt.locs, Pt.cells, Pt.slots] at X18 l18 y18 z18 st18 hQ18
      subst l18 y18 z18
      obtain ⟨rfl, N18q, e18⟩ := hQ18
      have N18 := Fr.app N0 N18q
      refine Goes.step (T2 := T18) (g2 := (mkF m 73 #[iv p1, iv p2, iv 1, rv c_POTENTIALLY_FALSE, iv 0, .unset] [(.ref c_FALSE)])) st18 ?_
      obtain ⟨cq19, kq19, q19a, q19b, q19c⟩ := isOf hZ e18 E_FALSE
      obtain ⟨_, _, ⟨T19, L19, k19, n19⟩, -, X19, ⟨Lc19, hQ19, l19, y19, z19⟩, st19⟩ := X18.virtualBack hx (y := Y1) (z := Y1) hown (mvT hZ (tw hw 8 rfl)) (mvT hZ (tw hw 9 rfl)) (notFace_of_selects (args := #[]) (mvT hZ (tw hw 11 rfl))) (mvT hZ (tw hw 11 rfl)) (mvT hZ (tw hw 10 rfl)) (by decide) (backOf (W := 0) (rm_finFALSE l Z a0 hw [] c_FALSE c_POTENTIALLY_FALSE c_POTENTIALLY_TRUE c_TRUE h0 n0 Z0 G) hZ (tw hw 12 rfl) (tw hw 1 rfl) (by decide) (by decide)) q19a q19c (g := (mkF m 73 #[iv p1, iv p2, iv 1, rv c_POTENTIALLY_FALSE, iv 0, .unset] [(.ref c_FALSE)])) rfl (by rw [hml]; rfl) (Steps.refl _) (argsL := []) (rest := []) (lenOf pd_1 rfl) rfl (by show 2 * 0 + _ ≤ _; exact Nat.le_of_eq rfl) (hb hby at_73) (fun _ _ => ⟨rfl, e18, (by decide : 0 + 0 ≤ _), (by decide : 0 + 0 ≤ _)⟩)
      dsimp only [Pt.U, Pt.locs, Pt.cells, Pt.slots] at X19 l19 y19 z19 st19 hQ19
      subst l19 y19 z19
      obtain ⟨rfl, N19q, e19⟩ := hQ19
      have N19 := Fr.app N18 N19q
      refine Goes.step (T2 := T19) (g2 := (mkF m 76 #[iv p1, iv p2, iv 1, rv c_POTENTIALLY_FALSE, iv 0, .unset] [(.int (1 : Int32))])) (fun _ hr => st19.trans hr) ?_
      refine Goes.step (T2 := T19) (g2 := (mkF m 78 #[iv p1, iv p2, iv 1, rv c_POTENTIALLY_FALSE, iv 0, iv 1] [])) (fun _ hr => XS.istore X19.here hx rfl (hb hby at_76) rfl (l' := #[iv p1, iv p2, iv 1, rv c_POTENTIALLY_FALSE, iv 0, iv 1]) rfl hr) ?_
      refine Goes.step (T2 := T19) (g2 := (mkF m 79 #[iv p1, iv p2, iv 1, rv c_POTENTIALLY_FALSE, iv 0, iv 1] [(.ref c_POTENTIALLY_FALSE)])) (fun _ hr => XS.aloadN X19.here hx rfl (hb hby at_78) rfl rfl hr) ?_
      obtain ⟨cq20, kq20, q20a, q20b, q20c⟩ := isOf hZ e19 E_POTENTIALLY_FALSE
      obtain ⟨_, _, ⟨T20, L20, k20, n20⟩, -, X20, ⟨Lc20, hQ20, l20, y20, z20⟩, st20⟩ := X19.virtualBack hx (y := Y1) (z := Y1) hown (mvT hZ (tw hw 8 rfl)) (mvT hZ (tw hw 9 rfl)) (notFace_of_selects (args := #[]) (mvT hZ (tw hw 11 rfl))) (mvT hZ (tw hw 11 rfl)) (mvT hZ (tw hw 10 rfl)) (by decide) (backOf (W := 0) (rm_finPOTENTIALLY_FALSE l Z a0 hw [] c_FALSE c_POTENTIALLY_FALSE c_POTENTIALLY_TRUE c_TRUE h0 n0 Z0 G) hZ (tw hw 12 rfl) (tw hw 1 rfl) (by decide) (by decide)) q20a q20c (g := (mkF m 79 #[iv p1, iv p2, iv 1, rv c_POTENTIALLY_FALSE, iv 0, iv 1] [(.ref c_POTENTIALLY_FALSE)])) rfl (by rw [hml]; rfl) (Steps.refl _) (argsL := []) (rest := []) (lenOf pd_1 rfl) rfl (by show 2 * 0 + _ ≤ _; exact Nat.le_of_eq rfl) (hb hby at_79) (fun _ _ => ⟨rfl, e19, (by decide : 0 + 0 ≤ _), (by decide : 0 + 0 ≤ _)⟩)
      dsimp only [Pt.U, Pt.locs, Pt.cells, Pt.slots] at X20 l20 y20 z20 st20 hQ20
      subst l20 y20 z20
      obtain ⟨rfl, N20q, e20⟩ := hQ20
      have N20 := Fr.app N19 N20q
      refine Goes.step (T2 := T20) (g2 := (mkF m 82 #[iv p1, iv p2, iv 1, rv c_POTENTIALLY_FALSE, iv 0, iv 1] [(.int (0 : Int32))])) (fun _ hr => st20.trans hr) ?_
      refine Goes.step (T2 := T20) (g2 := (mkF m 84 #[iv p1, iv p2, iv 1, rv c_POTENTIALLY_FALSE, iv 0, iv 1] [(.int (0 : Int32)), (.int (0 : Int32))])) (fun _ hr => XS.iload X20.here hx rfl (hb hby at_82) rfl  hr) ?_
      refine Goes.step (T2 := T20) (g2 := (mkF m 87 #[iv p1, iv p2, iv 1, rv c_POTENTIALLY_FALSE, iv 0, iv 1] [])) (fun _ hr => XS.icmpNo X20.here hx rfl (hb hby at_84) rfl (teq (by decide : (0 : Int32) = (0 : Int32))).2 hr) ?_
      refine Goes.step (T2 := T20) (g2 := (mkF m 89 #[iv p1, iv p2, iv 1, rv c_POTENTIALLY_FALSE, iv 0, iv 1] [(.int (1 : Int32))])) (fun _ hr => XS.iload X20.here hx rfl (hb hby at_87) rfl  hr) ?_
      refine Goes.step (T2 := T20) (g2 := (mkF m 92 #[iv p1, iv p2, iv 1, rv c_POTENTIALLY_FALSE, iv 0, iv 1] [])) (fun _ hr => XS.ifNo X20.here hx rfl (hb hby at_89) rfl ((if0 _ _).trans (feq (by decide : ¬ ((1 : Int32) = (0 : Int32)))).1) hr) ?_
      refine Goes.step (T2 := T20) (g2 := (mkF m 93 #[iv p1, iv p2, iv 1, rv c_POTENTIALLY_FALSE, iv 0, iv 1] [(.int (1 : Int32))])) (fun _ hr => XS.iconst X20.here hx rfl (hb hby at_92) hr) ?_
      refine Goes.step (T2 := T20) (g2 := (mkF m 97 #[iv p1, iv p2, iv 1, rv c_POTENTIALLY_FALSE, iv 0, iv 1] [(.int (1 : Int32))])) (fun _ hr => XS.goto X20.here hx rfl (pc0 := 93) (pc' := 97) rfl (hb hby at_93) (by decide) (by decide) hr) ?_
      exact Goes.ret (v := some (.int (1 : Int32))) X20 (by decide) (by decide) (fun h => by rw [Bd.returns] at h; cases h) ⟨rfl, N20⟩ (fun fs hr => retN X20 hx (t := .boolean) Bd.returns (by simp) (hb hby at_97) hr)
    · rw [hk]
      refine Goes.step (T2 := T17) (g2 := (mkF m 65 #[iv p1, iv p2, iv 1, rv c_POTENTIALLY_FALSE, iv 0, .unset] [])) (fun _ hr => XS.ifNo X17.here hx rfl (hb hby at_62) rfl ((if0 _ _).trans (feq (by decide : ¬ ((1 : Int32) = (0 : Int32)))).1) hr) ?_
      refine Goes.step (T2 := T17) (g2 := (mkF m 66 #[iv p1, iv p2, iv 1, rv c_POTENTIALLY_FALSE, iv 0, .unset] [(.int (1 : Int32))])) (fun _ hr => XS.iconst X17.here hx rfl (hb hby at_65) hr) ?_
      refine Goes.step (T2 := T17) (g2 := (mkF m 70 #[iv p1, iv p2, iv 1, rv c_POTENTIALLY_FALSE, iv 0, .unset] [(.int (1 : Int32))])) (fun _ hr => XS.goto X17.here hx rfl (pc0 := 66) (pc' := 70) rfl (hb hby at_66) (by decide) (by decide) hr) ?_
      obtain ⟨_, _, ⟨T21, L21, k21, n21⟩, -, X21, ⟨Lc21, hQ21, l21, y21, z21⟩, st21⟩ := Jvm.LawKit.callS X17 hx (y := Y0) hown (mvT hZ (tw hw 3 rfl)) (mvT hZ (tw hw 4 rfl)) (mvT hZ (tw hw 1 rfl)) (mvT hZ (tw hw 5 rfl)) (by decide) (backOf (W := 0) (rm_of1 l Z a0 hw [] c_FALSE c_POTENTIALLY_FALSE c_POTENTIALLY_TRUE c_TRUE h0 n0 Z0 G) hZ (tw hw 5 rfl) (tw hw 1 rfl) (by decide) (by decide)) (g := (mkF m 70 #[iv p1, iv p2, iv 1, rv c_POTENTIALLY_FALSE, iv 0, .unset] [(.int (1 : Int32))])) rfl (by rw [hml]; rfl) (argsL := [(.int (1 : Int32))]) (rest := []) (lenOf pd_0 rfl) rfl (by show 2 * 0 + _ ≤ _; exact Nat.le_of_eq rfl) (hb hby at_70) (fun _ _ => ⟨rfl, e17, (by decide : 0 + 0 ≤ _), (by decide : 0 + 0 ≤ _)⟩)
      dsimp only [Pt.U, Pt.locs, Pt.cells, Pt.slots] at X21 l21 y21 z21 st21 hQ21
      subst l21 y21 z21
      obtain ⟨rfl, N21q, e21⟩ := hQ21
      have N21 := Fr.app N0 N21q
      refine Goes.step (T2 := T21) (g2 := (mkF m 73 #[iv p1, iv p2, iv 1, rv c_POTENTIALLY_FALSE, iv 0, .unset] [(.ref c_TRUE)])) st21 ?_
      obtain ⟨cq22, kq22, q22a, q22b, q22c⟩ := isOf hZ e21 E_TRUE
      obtain ⟨_, _, ⟨T22, L22, k22, n22⟩, -, X22, ⟨Lc22, hQ22, l22, y22, z22⟩, st22⟩ := X21.virtualBack hx (y := Y1) (z := Y1) hown (mvT hZ (tw hw 8 rfl)) (mvT hZ (tw hw 9 rfl)) (notFace_of_selects (args := #[]) (mvT hZ (tw hw 11 rfl))) (mvT hZ (tw hw 11 rfl)) (mvT hZ (tw hw 10 rfl)) (by decide) (backOf (W := 0) (rm_finTRUE l Z a0 hw [] c_FALSE c_POTENTIALLY_FALSE c_POTENTIALLY_TRUE c_TRUE h0 n0 Z0 G) hZ (tw hw 12 rfl) (tw hw 1 rfl) (by decide) (by decide)) q22a q22c (g := (mkF m 73 #[iv p1, iv p2, iv 1, rv c_POTENTIALLY_FALSE, iv 0, .unset] [(.ref c_TRUE)])) rfl (by rw [hml]; rfl) (Steps.refl _) (argsL := []) (rest := []) (lenOf pd_1 rfl) rfl (by show 2 * 0 + _ ≤ _; exact Nat.le_of_eq rfl) (hb hby at_73) (fun _ _ => ⟨rfl, e21, (by decide : 0 + 0 ≤ _), (by decide : 0 + 0 ≤ _)⟩)
      dsimp only [Pt.U, Pt.locs, Pt.cells, Pt.slots] at X22 l22 y22 z22 st22 hQ22
      subst l22 y22 z22
      obtain ⟨rfl, N22q, e22⟩ := hQ22
      have N22 := Fr.app N21 N22q
      refine Goes.step (T2 := T22) (g2 := (mkF m 76 #[iv p1, iv p2, iv 1, rv c_POTENTIALLY_FALSE, iv 0, .unset] [(.int (1 : Int32))])) (fun _ hr => st22.trans hr) ?_
      refine Goes.step (T2 := T22) (g2 := (mkF m 78 #[iv p1, iv p2, iv 1, rv c_POTENTIALLY_FALSE, iv 0, iv 1] [])) (fun _ hr => XS.istore X22.here hx rfl (hb hby at_76) rfl (l' := #[iv p1, iv p2, iv 1, rv c_POTENTIALLY_FALSE, iv 0, iv 1]) rfl hr) ?_
      refine Goes.step (T2 := T22) (g2 := (mkF m 79 #[iv p1, iv p2, iv 1, rv c_POTENTIALLY_FALSE, iv 0, iv 1] [(.ref c_POTENTIALLY_FALSE)])) (fun _ hr => XS.aloadN X22.here hx rfl (hb hby at_78) rfl rfl hr) ?_
      obtain ⟨cq23, kq23, q23a, q23b, q23c⟩ := isOf hZ e22 E_POTENTIALLY_FALSE
      obtain ⟨_, _, ⟨T23, L23, k23, n23⟩, -, X23, ⟨Lc23, hQ23, l23, y23, z23⟩, st23⟩ := X22.virtualBack hx (y := Y1) (z := Y1) hown (mvT hZ (tw hw 8 rfl)) (mvT hZ (tw hw 9 rfl)) (notFace_of_selects (args := #[]) (mvT hZ (tw hw 11 rfl))) (mvT hZ (tw hw 11 rfl)) (mvT hZ (tw hw 10 rfl)) (by decide) (backOf (W := 0) (rm_finPOTENTIALLY_FALSE l Z a0 hw [] c_FALSE c_POTENTIALLY_FALSE c_POTENTIALLY_TRUE c_TRUE h0 n0 Z0 G) hZ (tw hw 12 rfl) (tw hw 1 rfl) (by decide) (by decide)) q23a q23c (g := (mkF m 79 #[iv p1, iv p2, iv 1, rv c_POTENTIALLY_FALSE, iv 0, iv 1] [(.ref c_POTENTIALLY_FALSE)])) rfl (by rw [hml]; rfl) (Steps.refl _) (argsL := []) (rest := []) (lenOf pd_1 rfl) rfl (by show 2 * 0 + _ ≤ _; exact Nat.le_of_eq rfl) (hb hby at_79) (fun _ _ => ⟨rfl, e22, (by decide : 0 + 0 ≤ _), (by decide : 0 + 0 ≤ _)⟩)
      dsimp only [Pt.U, Pt.locs, Pt.cells, Pt.slots] at X23 l23 y23 z23 st23 hQ23
      subst l23 y23 z23
      obtain ⟨rfl, N23q, e23⟩ := hQ23
      have N23 := Fr.app N22 N23q
      refine Goes.step (T2 := T23) (g2 := (mkF m 82 #[iv p1, iv p2, iv 1, rv c_POTENTIALLY_FALSE, iv 0, iv 1] [(.int (0 : Int32))])) (fun _ hr => st23.trans hr) ?_
      refine Goes.step (T2 := T23) (g2 := (mkF m 84 #[iv p1, iv p2, iv 1, rv c_POTENTIALLY_FALSE, iv 0, iv 1] [(.int (0 : Int32)), (.int (0 : Int32))])) (fun _ hr => XS.iload X23.here hx rfl (hb hby at_82) rfl  hr) ?_
      refine Goes.step (T2 := T23) (g2 := (mkF m 87 #[iv p1, iv p2, iv 1, rv c_POTENTIALLY_FALSE, iv 0, iv 1] [])) (fun _ hr => XS.icmpNo X23.here hx rfl (hb hby at_84) rfl (teq (by decide : (0 : Int32) = (0 : Int32))).2 hr) ?_
      refine Goes.step (T2 := T23) (g2 := (mkF m 89 #[iv p1, iv p2, iv 1, rv c_POTENTIALLY_FALSE, iv 0, iv 1] [(.int (1 : Int32))])) (fun _ hr => XS.iload X23.here hx rfl (hb hby at_87) rfl  hr) ?_
      refine Goes.step (T2 := T23) (g2 := (mkF m 92 #[iv p1, iv p2, iv 1, rv c_POTENTIALLY_FALSE, iv 0, iv 1] [])) (fun _ hr => XS.ifNo X23.here hx rfl (hb hby at_89) rfl ((if0 _ _).trans (feq (by decide : ¬ ((1 : Int32) = (0 : Int32)))).1) hr) ?_
      refine Goes.step (T2 := T23) (g2 := (mkF m 93 #[iv p1, iv p2, iv 1, rv c_POTENTIALLY_FALSE, iv 0, iv 1] [(.int (1 : Int32))])) (fun _ hr => XS.iconst X23.here hx rfl (hb hby at_92) hr) ?_
      refine Goes.step (T2 := T23) (g2 := (mkF m 97 #[iv p1, iv p2, iv 1, rv c_POTENTIALLY_FALSE, iv 0, iv 1] [(.int (1 : Int32))])) (fun _ hr => XS.goto X23.here hx rfl (pc0 := 93) (pc' := 97) rfl (hb hby at_93) (by decide) (by decide) hr) ?_
      exact Goes.ret (v := some (.int (1 : Int32))) X23 (by decide) (by decide) (fun h => by rw [Bd.returns] at h; cases h) ⟨rfl, N23⟩ (fun fs hr => retN X23 hx (t := .boolean) Bd.returns (by simp) (hb hby at_97) hr)
  · rw [hk]
    refine Goes.step (T2 := s₁) (g2 := (mkF m 4 #[iv p1, iv p2, iv 2, .unset, .unset, .unset] [])) (fun _ hr => XS.istoreN X0.here hx rfl (hb hby at_3) rfl (l' := #[iv p1, iv p2, iv 2, .unset, .unset, .unset]) rfl hr) ?_
    refine Goes.step (T2 := s₁) (g2 := (mkF m 5 #[iv p1, iv p2, iv 2, .unset, .unset, .unset] [(.int (2 : Int32))])) (fun _ hr => XS.iloadN X0.here hx rfl (hb hby at_4) rfl  hr) ?_
    refine Goes.step (T2 := s₁) (g2 := (mkF m 15 #[iv p1, iv p2, iv 2, .unset, .unset, .unset] [])) (fun _ hr => XS.ifYes X0.here hx rfl (pc0 := 5) (pc' := 15) rfl (hb hby at_5) rfl ((if0 _ _).trans (feq (by decide : ¬ ((2 : Int32) = (0 : Int32)))).2) (by decide) (by decide) hr) ?_
    refine Goes.step (T2 := s₁) (g2 := (mkF m 16 #[iv p1, iv p2, iv 2, .unset, .unset, .unset] [(.int (2 : Int32))])) (fun _ hr => XS.iloadN X0.here hx rfl (hb hby at_15) rfl  hr) ?_
    refine Goes.step (T2 := s₁) (g2 := (mkF m 17 #[iv p1, iv p2, iv 2, .unset, .unset, .unset] [(.int (1 : Int32)), (.int (2 : Int32))])) (fun _ hr => XS.iconst X0.here hx rfl (hb hby at_16) hr) ?_
    refine Goes.step (T2 := s₁) (g2 := (mkF m 27 #[iv p1, iv p2, iv 2, .unset, .unset, .unset] [])) (fun _ hr => XS.icmpYes X0.here hx rfl (pc0 := 17) (pc' := 27) rfl (hb hby at_17) rfl (feq (by decide : ¬ ((2 : Int32) = (1 : Int32)))).2 (by decide) (by decide) hr) ?_
    refine Goes.step (T2 := s₁) (g2 := (mkF m 28 #[iv p1, iv p2, iv 2, .unset, .unset, .unset] [(.int (2 : Int32))])) (fun _ hr => XS.iloadN X0.here hx rfl (hb hby at_27) rfl  hr) ?_
    refine Goes.step (T2 := s₁) (g2 := (mkF m 29 #[iv p1, iv p2, iv 2, .unset, .unset, .unset] [(.int (2 : Int32)), (.int (2 : Int32))])) (fun _ hr => XS.iconst X0.here hx rfl (hb hby at_28) hr) ?_
    refine Goes.step (T2 := s₁) (g2 := (mkF m 32 #[iv p1, iv p2, iv 2, .unset, .unset, .unset] [])) (fun _ hr => XS.icmpNo X0.here hx rfl (hb hby at_29) rfl (teq (by decide : (2 : Int32) = (2 : Int32))).2 hr) ?_
    obtain ⟨T24, X24, e24, st24⟩ := getS2 X0 hx hZ hown (host := "") (Or.inl (tw hw 14 rfl)) Via.refl e0 S_POTENTIALLY_TRUE (g := (mkF m 32 #[iv p1, iv p2, iv 2, .unset, .unset, .unset] [])) rfl (hb hby at_32)
    refine Goes.step (T2 := T24) (g2 := (mkF m 35 #[iv p1, iv p2, iv 2, .unset, .unset, .unset] [(.ref c_POTENTIALLY_TRUE)])) st24 ?_
    refine Goes.step (T2 := T24) (g2 := (mkF m 36 #[iv p1, iv p2, iv 2, rv c_POTENTIALLY_TRUE, .unset, .unset] [])) (fun _ hr => XS.astoreN X24.here hx rfl (hb hby at_35) rfl rfl (l' := #[iv p1, iv p2, iv 2, rv c_POTENTIALLY_TRUE, .unset, .unset]) rfl hr) ?_
    refine Goes.step (T2 := T24) (g2 := (mkF m 43 #[iv p1, iv p2, iv 2, rv c_POTENTIALLY_TRUE, .unset, .unset] [])) (fun _ hr => XS.goto X24.here hx rfl (pc0 := 36) (pc' := 43) rfl (hb hby at_36) (by decide) (by decide) hr) ?_
    refine Goes.step (T2 := T24) (g2 := (mkF m 44 #[iv p1, iv p2, iv 2, rv c_POTENTIALLY_TRUE, .unset, .unset] [(.int (2 : Int32))])) (fun _ hr => XS.iloadN X24.here hx rfl (hb hby at_43) rfl  hr) ?_
    refine Goes.step (T2 := T24) (g2 := (mkF m 47 #[iv p1, iv p2, iv 2, rv c_POTENTIALLY_TRUE, .unset, .unset] [])) (fun _ hr => XS.ifNo X24.here hx rfl (hb hby at_44) rfl ((if0 _ _).trans (feq (by decide : ¬ ((2 : Int32) = (0 : Int32)))).1) hr) ?_
    refine Goes.step (T2 := T24) (g2 := (mkF m 48 #[iv p1, iv p2, iv 2, rv c_POTENTIALLY_TRUE, .unset, .unset] [(.int (2 : Int32))])) (fun _ hr => XS.iloadN X24.here hx rfl (hb hby at_47) rfl  hr) ?_
    refine Goes.step (T2 := T24) (g2 := (mkF m 49 #[iv p1, iv p2, iv 2, rv c_POTENTIALLY_TRUE, .unset, .unset] [(.int (3 : Int32)), (.int (2 : Int32))])) (fun _ hr => XS.iconst X24.here hx rfl (hb hby at_48) hr) ?_
    refine Goes.step (T2 := T24) (g2 := (mkF m 56 #[iv p1, iv p2, iv 2, rv c_POTENTIALLY_TRUE, .unset, .unset] [])) (fun _ hr => XS.icmpYes X24.here hx rfl (pc0 := 49) (pc' := 56) rfl (hb hby at_49) rfl (feq (by decide : ¬ ((2 : Int32) = (3 : Int32)))).2 (by decide) (by decide) hr) ?_
    refine Goes.step (T2 := T24) (g2 := (mkF m 57 #[iv p1, iv p2, iv 2, rv c_POTENTIALLY_TRUE, .unset, .unset] [(.int (0 : Int32))])) (fun _ hr => XS.iconst X24.here hx rfl (hb hby at_56) hr) ?_
    refine Goes.step (T2 := T24) (g2 := (mkF m 59 #[iv p1, iv p2, iv 2, rv c_POTENTIALLY_TRUE, iv 0, .unset] [])) (fun _ hr => XS.istore X24.here hx rfl (hb hby at_57) rfl (l' := #[iv p1, iv p2, iv 2, rv c_POTENTIALLY_TRUE, iv 0, .unset]) rfl hr) ?_
    refine Goes.step (T2 := T24) (g2 := (mkF m 60 #[iv p1, iv p2, iv 2, rv c_POTENTIALLY_TRUE, iv 0, .unset] [(.int p2)])) (fun _ hr => XS.iloadN X24.here hx rfl (hb hby at_59) rfl  hr) ?_
    refine Goes.step (T2 := T24) (g2 := (mkF m 61 #[iv p1, iv p2, iv 2, rv c_POTENTIALLY_TRUE, iv 0, .unset] [(.int (1 : Int32)), (.int p2)])) (fun _ hr => XS.iconst X24.here hx rfl (hb hby at_60) hr) ?_
    refine Goes.step (T2 := T24) (g2 := (mkF m 62 #[iv p1, iv p2, iv 2, rv c_POTENTIALLY_TRUE, iv 0, .unset] [(.int (p2 &&& (1 : Int32)))])) (fun _ hr => XS.iand X24.here hx rfl (hb hby at_61) rfl hr) ?_
    rcases own_mask1 p2 with hk | hk
    · rw [hk]
      refine Goes.step (T2 := T24) (g2 := (mkF m 69 #[iv p1, iv p2, iv 2, rv c_POTENTIALLY_TRUE, iv 0, .unset] [])) (fun _ hr => XS.ifYes X24.here hx rfl (pc0 := 62) (pc' := 69) rfl (hb hby at_62) rfl ((if0 _ _).trans (teq (by decide : (0 : Int32) = (0 : Int32))).1) (by decide) (by decide) hr) ?_
      refine Goes.step (T2 := T24) (g2 := (mkF m 70 #[iv p1, iv p2, iv 2, rv c_POTENTIALLY_TRUE, iv 0, .unset] [(.int (0 : Int32))])) (fun _ hr => XS.iconst X24.here hx rfl (hb hby at_69) hr) ?_
      obtain ⟨_, _, ⟨T25, L25, k25, n25⟩, -, X25, ⟨Lc25, hQ25, l25, y25, z25⟩, st25⟩ := Jvm.LawKit.callS X24 hx (y := Y0) hown (mvT hZ (tw hw 3 rfl)) (mvT hZ (tw hw 4 rfl)) (mvT hZ (tw hw 1 rfl)) (mvT hZ (tw hw 5 rfl)) (by decide) (backOf (W := 0) (rm_of0 l Z a0 hw [] c_FALSE c_POTENTIALLY_FALSE c_POTENTIALLY_TRUE c_TRUE h0 n0 Z0 G) hZ (tw hw 5 rfl) (tw hw 1 rfl) (by decide) (by decide)) (g := (mkF m 70 #[iv p1, iv p2, iv 2, rv c_POTENTIALLY_TRUE, iv 0, .unset] [(.int (0 : Int32))])) rfl (by rw [hml]; rfl) (argsL := [(.int (0 : Int32))]) (rest := []) (lenOf pd_0 rfl) rfl (by show 2 * 0 + _ ≤ _; exact Nat.le_of_eq rfl) (hb hby at_70) (fun _ _ => ⟨rfl, e24, (by decide : 0 + 0 ≤ _), (by decide : 0 + 0 ≤ _)⟩)
      dsimp only [Pt.U, Pt.locs, Pt.cells, Pt.slots] at X25 l25 y25 z25 st25 hQ25
      subst l25 y25 z25
      obtain ⟨rfl, N25q, e25⟩ := hQ25
      have N25 := Fr.app N0 N25q
      refine Goes.step (T2 := T25) (g2 := (mkF m 73 #[iv p1, iv p2, iv 2, rv c_POTENTIALLY_TRUE, iv 0, .unset] [(.ref c_FALSE)])) st25 ?_
      obtain ⟨cq26, kq26, q26a, q26b, q26c⟩ := isOf hZ e25 E_FALSE
      obtain ⟨_, _, ⟨T26, L26, k26, n26⟩, -, X26, ⟨Lc26, hQ26, l26, y26, z26⟩, st26⟩ := X25.virtualBack hx (y := Y1) (z := Y1) hown (mvT hZ (tw hw 8 rfl)) (mvT hZ (tw hw 9 rfl)) (notFace_of_selects (args := #[]) (mvT hZ (tw hw 11 rfl))) (mvT hZ (tw hw 11 rfl)) (mvT hZ (tw hw 10 rfl)) (by decide) (backOf (W := 0) (rm_finFALSE l Z a0 hw [] c_FALSE c_POTENTIALLY_FALSE c_POTENTIALLY_TRUE c_TRUE h0 n0 Z0 G) hZ (tw hw 12 rfl) (tw hw 1 rfl) (by decide) (by decide)) q26a q26c (g := (mkF m 73 #[iv p1, iv p2, iv 2, rv c_POTENTIALLY_TRUE, iv 0, .unset] [(.ref c_FALSE)])) rfl (by rw [hml]; rfl) (Steps.refl _) (argsL := []) (rest := []) (lenOf pd_1 rfl) rfl (by show 2 * 0 + _ ≤ _; exact Nat.le_of_eq rfl) (hb hby at_73) (fun _ _ => ⟨rfl, e25, (by decide : 0 + 0 ≤ _), (by decide : 0 + 0 ≤ _)⟩)
      dsimp only [Pt.U, Pt.locs, Pt.cells, Pt.slots] at X26 l26 y26 z26 st26 hQ26
      subst l26 y26 z26
      obtain ⟨rfl, N26q, e26⟩ := hQ26
      have N26 := Fr.app N25 N26q
      refine Goes.step (T2 := T26) (g2 := (mkF m 76 #[iv p1, iv p2, iv 2, rv c_POTENTIALLY_TRUE, iv 0, .unset] [(.int (1 : Int32))])) (fun _ hr => st26.trans hr) ?_
      refine Goes.step (T2 := T26) (g2 := (mkF m 78 #[iv p1, iv p2, iv 2, rv c_POTENTIALLY_TRUE, iv 0, iv 1] [])) (fun _ hr => XS.istore X26.here hx rfl (hb hby at_76) rfl (l' := #[iv p1, iv p2, iv 2, rv c_POTENTIALLY_TRUE, iv 0, iv 1]) rfl hr) ?_
      refine Goes.step (T2 := T26) (g2 := (mkF m 79 #[iv p1, iv p2, iv 2, rv c_POTENTIALLY_TRUE, iv 0, iv 1] [(.ref c_POTENTIALLY_TRUE)])) (fun _ hr => XS.aloadN X26.here hx rfl (hb hby at_78) rfl rfl hr) ?_
      obtain ⟨cq27, kq27, q27a, q27b, q27c⟩ := isOf hZ e26 E_POTENTIALLY_TRUE
      obtain ⟨_, _, ⟨T27, L27, k27, n27⟩, -, X27, ⟨Lc27, hQ27, l27, y27, z27⟩, st27⟩ := X26.virtualBack hx (y := Y1) (z := Y1) hown (mvT hZ (tw hw 8 rfl)) (mvT hZ (tw hw 9 rfl)) (notFace_of_selects (args := #[]) (mvT hZ (tw hw 11 rfl))) (mvT hZ (tw hw 11 rfl)) (mvT hZ (tw hw 10 rfl)) (by decide) (backOf (W := 0) (rm_finPOTENTIALLY_TRUE l Z a0 hw [] c_FALSE c_POTENTIALLY_FALSE c_POTENTIALLY_TRUE c_TRUE h0 n0 Z0 G) hZ (tw hw 12 rfl) (tw hw 1 rfl) (by decide) (by decide)) q27a q27c (g := (mkF m 79 #[iv p1, iv p2, iv 2, rv c_POTENTIALLY_TRUE, iv 0, iv 1] [(.ref c_POTENTIALLY_TRUE)])) rfl (by rw [hml]; rfl) (Steps.refl _) (argsL := []) (rest := []) (lenOf pd_1 rfl) rfl (by show 2 * 0 + _ ≤ _; exact Nat.le_of_eq rfl) (hb hby at_79) (fun _ _ => ⟨rfl, e26, (by decide : 0 + 0 ≤ _), (by decide : 0 + 0 ≤ _)⟩)
      dsimp only [Pt.U, Pt.locs, Pt.cells, Pt.slots] at X27 l27 y27 z27 st27 hQ27
      subst l27 y27 z27
      obtain ⟨rfl, N27q, e27⟩ := hQ27
      have N27 := Fr.app N26 N27q
      refine Goes.step (T2 := T27) (g2 := (mkF m 82 #[iv p1, iv p2, iv 2, rv c_POTENTIALLY_TRUE, iv 0, iv 1] [(.int (0 : Int32))])) (fun _ hr => st27.trans hr) ?_
      refine Goes.step (T2 := T27) (g2 := (mkF m 84 #[iv p1, iv p2, iv 2, rv c_POTENTIALLY_TRUE, iv 0, iv 1] [(.int (0 : Int32)), (.int (0 : Int32))])) (fun _ hr => XS.iload X27.here hx rfl (hb hby at_82) rfl  hr) ?_
      refine Goes.step (T2 := T27) (g2 := (mkF m 87 #[iv p1, iv p2, iv 2, rv c_POTENTIALLY_TRUE, iv 0, iv 1] [])) (fun _ hr => XS.icmpNo X27.here hx rfl (hb hby at_84) rfl (teq (by decide : (0 : Int32) = (0 : Int32))).2 hr) ?_
      refine Goes.step (T2 := T27) (g2 := (mkF m 89 #[iv p1, iv p2, iv 2, rv c_POTENTIALLY_TRUE, iv 0, iv 1] [(.int (1 : Int32))])) (fun _ hr => XS.iload X27.here hx rfl (hb hby at_87) rfl  hr) ?_
      refine Goes.step (T2 := T27) (g2 := (mkF m 92 #[iv p1, iv p2, iv 2, rv c_POTENTIALLY_TRUE, iv 0, iv 1] [])) (fun _ hr => XS.ifNo X27.here hx rfl (hb hby at_89) rfl ((if0 _ _).trans (feq (by decide : ¬ ((1 : Int32) = (0 : Int32)))).1) hr) ?_
      refine Goes.step (T2 := T27) (g2 := (mkF m 93 #[iv p1, iv p2, iv 2, rv c_POTENTIALLY_TRUE, iv 0, iv 1] [(.int (1 : Int32))])) (fun _ hr => XS.iconst X27.here hx rfl (hb hby at_92) hr) ?_
      refine Goes.step (T2 := T27) (g2 := (mkF m 97 #[iv p1, iv p2, iv 2, rv c_POTENTIALLY_TRUE, iv 0, iv 1] [(.int (1 : Int32))])) (fun _ hr => XS.goto X27.here hx rfl (pc0 := 93) (pc' := 97) rfl (hb hby at_93) (by decide) (by decide) hr) ?_
      exact Goes.ret (v := some (.int (1 : Int32))) X27 (by decide) (by decide) (fun h => by rw [Bd.returns] at h; cases h) ⟨rfl, N27⟩ (fun fs hr => retN X27 hx (t := .boolean) Bd.returns (by simp) (hb hby at_97) hr)
    · rw [hk]
      refine Goes.step (T2 := T24) (g2 := (mkF m 65 #[iv p1, iv p2, iv 2, rv c_POTENTIALLY_TRUE, iv 0, .unset] [])) (fun _ hr => XS.ifNo X24.here hx rfl (hb hby at_62) rfl ((if0 _ _).trans (feq (by decide : ¬ ((1 : Int32) = (0 : Int32)))).1) hr) ?_
      refine Goes.step (T2 := T24) (g2 := (mkF m 66 #[iv p1, iv p2, iv 2, rv c_POTENTIALLY_TRUE, iv 0, .unset] [(.int (1 : Int32))])) (fun _ hr => XS.iconst X24.here hx rfl (hb hby at_65) hr) ?_
      refine Goes.step (T2 := T24) (g2 := (mkF m 70 #[iv p1, iv p2, iv 2, rv c_POTENTIALLY_TRUE, iv 0, .unset] [(.int (1 : Int32))])) (fun _ hr => XS.goto X24.here hx rfl (pc0 := 66) (pc' := 70) rfl (hb hby at_66) (by decide) (by decide) hr) ?_
      obtain ⟨_, _, ⟨T28, L28, k28, n28⟩, -, X28, ⟨Lc28, hQ28, l28, y28, z28⟩, st28⟩ := Jvm.LawKit.callS X24 hx (y := Y0) hown (mvT hZ (tw hw 3 rfl)) (mvT hZ (tw hw 4 rfl)) (mvT hZ (tw hw 1 rfl)) (mvT hZ (tw hw 5 rfl)) (by decide) (backOf (W := 0) (rm_of1 l Z a0 hw [] c_FALSE c_POTENTIALLY_FALSE c_POTENTIALLY_TRUE c_TRUE h0 n0 Z0 G) hZ (tw hw 5 rfl) (tw hw 1 rfl) (by decide) (by decide)) (g := (mkF m 70 #[iv p1, iv p2, iv 2, rv c_POTENTIALLY_TRUE, iv 0, .unset] [(.int (1 : Int32))])) rfl (by rw [hml]; rfl) (argsL := [(.int (1 : Int32))]) (rest := []) (lenOf pd_0 rfl) rfl (by show 2 * 0 + _ ≤ _; exact Nat.le_of_eq rfl) (hb hby at_70) (fun _ _ => ⟨rfl, e24, (by decide : 0 + 0 ≤ _), (by decide : 0 + 0 ≤ _)⟩)
      dsimp only [Pt.U, Pt.locs, Pt.cells, Pt.slots] at X28 l28 y28 z28 st28 hQ28
      subst l28 y28 z28
      obtain ⟨rfl, N28q, e28⟩ := hQ28
      have N28 := Fr.app N0 N28q
      refine Goes.step (T2 := T28) (g2 := (mkF m 73 #[iv p1, iv p2, iv 2, rv c_POTENTIALLY_TRUE, iv 0, .unset] [(.ref c_TRUE)])) st28 ?_
      obtain ⟨cq29, kq29, q29a, q29b, q29c⟩ := isOf hZ e28 E_TRUE
      obtain ⟨_, _, ⟨T29, L29, k29, n29⟩, -, X29, ⟨Lc29, hQ29, l29, y29, z29⟩, st29⟩ := X28.virtualBack hx (y := Y1) (z := Y1) hown (mvT hZ (tw hw 8 rfl)) (mvT hZ (tw hw 9 rfl)) (notFace_of_selects (args := #[]) (mvT hZ (tw hw 11 rfl))) (mvT hZ (tw hw 11 rfl)) (mvT hZ (tw hw 10 rfl)) (by decide) (backOf (W := 0) (rm_finTRUE l Z a0 hw [] c_FALSE c_POTENTIALLY_FALSE c_POTENTIALLY_TRUE c_TRUE h0 n0 Z0 G) hZ (tw hw 12 rfl) (tw hw 1 rfl) (by decide) (by decide)) q29a q29c (g := (mkF m 73 #[iv p1, iv p2, iv 2, rv c_POTENTIALLY_TRUE, iv 0, .unset] [(.ref c_TRUE)])) rfl (by rw [hml]; rfl) (Steps.refl _) (argsL := []) (rest := []) (lenOf pd_1 rfl) rfl (by show 2 * 0 + _ ≤ _; exact Nat.le_of_eq rfl) (hb hby at_73) (fun _ _ => ⟨rfl, e28, (by decide : 0 + 0 ≤ _), (by decide : 0 + 0 ≤ _)⟩)
      dsimp only [Pt.U, Pt.locs, Pt.cells, Pt.slots] at X29 l29 y29 z29 st29 hQ29
      subst l29 y29 z29
      obtain ⟨rfl, N29q, e29⟩ := hQ29
      have N29 := Fr.app N28 N29q
      refine Goes.step (T2 := T29) (g2 := (mkF m 76 #[iv p1, iv p2, iv 2, rv c_POTENTIALLY_TRUE, iv 0, .unset] [(.int (1 : Int32))])) (fun _ hr => st29.trans hr) ?_
      refine Goes.step (T2 := T29) (g2 := (mkF m 78 #[iv p1, iv p2, iv 2, rv c_POTENTIALLY_TRUE, iv 0, iv 1] [])) (fun _ hr => XS.istore X29.here hx rfl (hb hby at_76) rfl (l' := #[iv p1, iv p2, iv 2, rv c_POTENTIALLY_TRUE, iv 0, iv 1]) rfl hr) ?_
      refine Goes.step (T2 := T29) (g2 := (mkF m 79 #[iv p1, iv p2, iv 2, rv c_POTENTIALLY_TRUE, iv 0, iv 1] [(.ref c_POTENTIALLY_TRUE)])) (fun _ hr => XS.aloadN X29.here hx rfl (hb hby at_78) rfl rfl hr) ?_
      obtain ⟨cq30, kq30, q30a, q30b, q30c⟩ := isOf hZ e29 E_POTENTIALLY_TRUE
      obtain ⟨_, _, ⟨T30, L30, k30, n30⟩, -, X30, ⟨Lc30, hQ30, l30, y30, z30⟩, st30⟩ := X29.virtualBack hx (y := Y1) (z := Y1) hown (mvT hZ (tw hw 8 rfl)) (mvT hZ (tw hw 9 rfl)) (notFace_of_selects (args := #[]) (mvT hZ (tw hw 11 rfl))) (mvT hZ (tw hw 11 rfl)) (mvT hZ (tw hw 10 rfl)) (by decide) (backOf (W := 0) (rm_finPOTENTIALLY_TRUE l Z a0 hw [] c_FALSE c_POTENTIALLY_FALSE c_POTENTIALLY_TRUE c_TRUE h0 n0 Z0 G) hZ (tw hw 12 rfl) (tw hw 1 rfl) (by decide) (by decide)) q30a q30c (g := (mkF m 79 #[iv p1, iv p2, iv 2, rv c_POTENTIALLY_TRUE, iv 0, iv 1] [(.ref c_POTENTIALLY_TRUE)])) rfl (by rw [hml]; rfl) (Steps.refl _) (argsL := []) (rest := []) (lenOf pd_1 rfl) rfl (by show 2 * 0 + _ ≤ _; exact Nat.le_of_eq rfl) (hb hby at_79) (fun _ _ => ⟨rfl, e29, (by decide : 0 + 0 ≤ _), (by decide : 0 + 0 ≤ _)⟩)
      dsimp only [Pt.U, Pt.locs, Pt.cells, Pt.slots] at X30 l30 y30 z30 st30 hQ30
      subst l30 y30 z30
      obtain ⟨rfl, N30q, e30⟩ := hQ30
      have N30 := Fr.app N29 N30q
      refine Goes.step (T2 := T30) (g2 := (mkF m 82 #[iv p1, iv p2, iv 2, rv c_POTENTIALLY_TRUE, iv 0, iv 1] [(.int (0 : Int32))])) (fun _ hr => st30.trans hr) ?_
      refine Goes.step (T2 := T30) (g2 := (mkF m 84 #[iv p1, iv p2, iv 2, rv c_POTENTIALLY_TRUE, iv 0, iv 1] [(.int (0 : Int32)), (.int (0 : Int32))])) (fun _ hr => XS.iload X30.here hx rfl (hb hby at_82) rfl  hr) ?_
      refine Goes.step (T2 := T30) (g2 := (mkF m 87 #[iv p1, iv p2, iv 2, rv c_POTENTIALLY_TRUE, iv 0, iv 1] [])) (fun _ hr => XS.icmpNo X30.here hx rfl (hb hby at_84) rfl (teq (by decide : (0 : Int32) = (0 : Int32))).2 hr) ?_
      refine Goes.step (T2 := T30) (g2 := (mkF m 89 #[iv p1, iv p2, iv 2, rv c_POTENTIALLY_TRUE, iv 0, iv 1] [(.int (1 : Int32))])) (fun _ hr => XS.iload X30.here hx rfl (hb hby at_87) rfl  hr) ?_
      refine Goes.step (T2 := T30) (g2 := (mkF m 92 #[iv p1, iv p2, iv 2, rv c_POTENTIALLY_TRUE, iv 0, iv 1] [])) (fun _ hr => XS.ifNo X30.here hx rfl (hb hby at_89) rfl ((if0 _ _).trans (feq (by decide : ¬ ((1 : Int32) = (0 : Int32)))).1) hr) ?_
      refine Goes.step (T2 := T30) (g2 := (mkF m 93 #[iv p1, iv p2, iv 2, rv c_POTENTIALLY_TRUE, iv 0, iv 1] [(.int (1 : Int32))])) (fun _ hr => XS.iconst X30.here hx rfl (hb hby at_92) hr) ?_
      refine Goes.step (T2 := T30) (g2 := (mkF m 97 #[iv p1, iv p2, iv 2, rv c_POTENTIALLY_TRUE, iv 0, iv 1] [(.int (1 : Int32))])) (fun _ hr => XS.goto X30.here hx rfl (pc0 := 93) (pc' := 97) rfl (hb hby at_93) (by decide) (by decide) hr) ?_
      exact Goes.ret (v := some (.int (1 : Int32))) X30 (by decide) (by decide) (fun h => by rw [Bd.returns] at h; cases h) ⟨rfl, N30⟩ (fun fs hr => retN X30 hx (t := .boolean) Bd.returns (by simp) (hb hby at_97) hr)
  · rw [hk]
    refine Goes.step (T2 := s₁) (g2 := (mkF m 4 #[iv p1, iv p2, iv 3, .unset, .unset, .unset] [])) (fun _ hr => XS.istoreN X0.here hx rfl (hb hby at_3) rfl (l' := #[iv p1, iv p2, iv 3, .unset, .unset, .unset]) rfl hr) ?_
    refine Goes.step (T2 := s₁) (g2 := (mkF m 5 #[iv p1, iv p2, iv 3, .unset, .unset, .unset] [(.int (3 : Int32))])) (fun _ hr => XS.iloadN X0.here hx rfl (hb hby at_4) rfl  hr) ?_
    refine Goes.step (T2 := s₁) (g2 := (mkF m 15 #[iv p1, iv p2, iv 3, .unset, .unset, .unset] [])) (fun _ hr => XS.ifYes X0.here hx rfl (pc0 := 5) (pc' := 15) rfl (hb hby at_5) rfl ((if0 _ _).trans (feq (by decide : ¬ ((3 : Int32) = (0 : Int32)))).2) (by decide) (by decide) hr) ?_
    refine Goes.step (T2 := s₁) (g2 := (mkF m 16 #[iv p1, iv p2, iv 3, .unset, .unset, .unset] [(.int (3 : Int32))])) (fun _ hr => XS.iloadN X0.here hx rfl (hb hby at_15) rfl  hr) ?_
    refine Goes.step (T2 := s₁) (g2 := (mkF m 17 #[iv p1, iv p2, iv 3, .unset, .unset, .unset] [(.int (1 : Int32)), (.int (3 : Int32))])) (fun _ hr => XS.iconst X0.here hx rfl (hb hby at_16) hr) ?_
    refine Goes.step (T2 := s₁) (g2 := (mkF m 27 #[iv p1, iv p2, iv 3, .unset, .unset, .unset] [])) (fun _ hr => XS.icmpYes X0.here hx rfl (pc0 := 17) (pc' := 27) rfl (hb hby at_17) rfl (feq (by decide : ¬ ((3 : Int32) = (1 : Int32)))).2 (by decide) (by decide) hr) ?_
    refine Goes.step (T2 := s₁) (g2 := (mkF m 28 #[iv p1, iv p2, iv 3, .unset, .unset, .unset] [(.int (3 : Int32))])) (fun _ hr => XS.iloadN X0.here hx rfl (hb hby at_27) rfl  hr) ?_
    refine Goes.step (T2 := s₁) (g2 := (mkF m 29 #[iv p1, iv p2, iv 3, .unset, .unset, .unset] [(.int (2 : Int32)), (.int (3 : Int32))])) (fun _ hr => XS.iconst X0.here hx rfl (hb hby at_28) hr) ?_
    refine Goes.step (T2 := s₁) (g2 := (mkF m 39 #[iv p1, iv p2, iv 3, .unset, .unset, .unset] [])) (fun _ hr => XS.icmpYes X0.here hx rfl (pc0 := 29) (pc' := 39) rfl (hb hby at_29) rfl (feq (by decide : ¬ ((3 : Int32) = (2 : Int32)))).2 (by decide) (by decide) hr) ?_
    obtain ⟨T31, X31, e31, st31⟩ := getS2 X0 hx hZ hown (host := "") (Or.inl (tw hw 18 rfl)) Via.refl e0 S_TRUE (g := (mkF m 39 #[iv p1, iv p2, iv 3, .unset, .unset, .unset] [])) rfl (hb hby at_39)
    refine Goes.step (T2 := T31) (g2 := (mkF m 42 #[iv p1, iv p2, iv 3, .unset, .unset, .unset] [(.ref c_TRUE)])) st31 ?_
    refine Goes.step (T2 := T31) (g2 := (mkF m 43 #[iv p1, iv p2, iv 3, rv c_TRUE, .unset, .unset] [])) (fun _ hr => XS.astoreN X31.here hx rfl (hb hby at_42) rfl rfl (l' := #[iv p1, iv p2, iv 3, rv c_TRUE, .unset, .unset]) rfl hr) ?_
    refine Goes.step (T2 := T31) (g2 := (mkF m 44 #[iv p1, iv p2, iv 3, rv c_TRUE, .unset, .unset] [(.int (3 : Int32))])) (fun _ hr => XS.iloadN X31.here hx rfl (hb hby at_43) rfl  hr) ?_
    refine Goes.step (T2 := T31) (g2 := (mkF m 47 #[iv p1, iv p2, iv 3, rv c_TRUE, .unset, .unset] [])) (fun _ hr => XS.ifNo X31.here hx rfl (hb hby at_44) rfl ((if0 _ _).trans (feq (by decide : ¬ ((3 : Int32) = (0 : Int32)))).1) hr) ?_
    refine Goes.step (T2 := T31) (g2 := (mkF m 48 #[iv p1, iv p2, iv 3, rv c_TRUE, .unset, .unset] [(.int (3 : Int32))])) (fun _ hr => XS.iloadN X31.here hx rfl (hb hby at_47) rfl  hr) ?_
    refine Goes.step (T2 := T31) (g2 := (mkF m 49 #[iv p1, iv p2, iv 3, rv c_TRUE, .unset, .unset] [(.int (3 : Int32)), (.int (3 : Int32))])) (fun _ hr => XS.iconst X31.here hx rfl (hb hby at_48) hr) ?_
    refine Goes.step (T2 := T31) (g2 := (mkF m 52 #[iv p1, iv p2, iv 3, rv c_TRUE, .unset, .unset] [])) (fun _ hr => XS.icmpNo X31.here hx rfl (hb hby at_49) rfl (teq (by decide : (3 : Int32) = (3 : Int32))).2 hr) ?_
    refine Goes.step (T2 := T31) (g2 := (mkF m 53 #[iv p1, iv p2, iv 3, rv c_TRUE, .unset, .unset] [(.int (1 : Int32))])) (fun _ hr => XS.iconst X31.here hx rfl (hb hby at_52) hr) ?_
    refine Goes.step (T2 := T31) (g2 := (mkF m 57 #[iv p1, iv p2, iv 3, rv c_TRUE, .unset, .unset] [(.int (1 : Int32))])) (fun _ hr => XS.goto X31.here hx rfl (pc0 := 53) (pc' := 57) rfl (hb hby at_53) (by decide) (by decide) hr) ?_
    refine Goes.step (T2 := T31) (g2 := (mkF m 59 #[iv p1, iv p2, iv 3, rv c_TRUE, iv 1, .unset] [])) (fun _ hr => XS.istore X31.here hx rfl (hb hby at_57) rfl (l' := #[iv p1, iv p2, iv 3, rv c_TRUE, iv 1, .unset]) rfl hr) ?_
    refine Goes.step (T2 := T31) (g2 := (mkF m 60 #[iv p1, iv p2, iv 3, rv c_TRUE, iv 1, .unset] [(.int p2)])) (fun _ hr => XS.iloadN X31.here hx rfl (hb hby at_59) rfl  hr) ?_
    refine Goes.step (T2 := T31) (g2 := (mkF m 61 #[iv p1, iv p2, iv 3, rv c_TRUE, iv 1, .unset] [(.int (1 : Int32)), (.int p2)])) (fun _ hr => XS.iconst X31.here hx rfl (hb hby at_60) hr) ?_
    refine Goes.step (T2 := T31) (g2 := (mkF m 62 #[iv p1, iv p2, iv 3, rv c_TRUE, iv 1, .unset] [(.int (p2 &&& (1 : Int32)))])) (fun _ hr => XS.iand X31.here hx rfl (hb hby at_61) rfl hr) ?_
    rcases own_mask1 p2 with hk | hk
    · rw [hk]
      refine Goes.step (T2 := T31) (g2 := (mkF m 69 #[iv p1, iv p2, iv 3, rv c_TRUE, iv 1, .unset] [])) (fun _ hr => XS.ifYes X31.here hx rfl (pc0 := 62) (pc' := 69) rfl (hb hby at_62) rfl ((if0 _ _).trans (teq (by decide : (0 : Int32) = (0 : Int32))).1) (by decide) (by decide) hr) ?_
      refine Goes.step (T2 := T31) (g2 := (mkF m 70 #[iv p1, iv p2, iv 3, rv c_TRUE, iv 1, .unset] [(.int (0 : Int32))])) (fun _ hr => XS.iconst X31.here hx rfl (hb hby at_69) hr) ?_
      obtain ⟨_, _, ⟨T32, L32, k32, n32⟩, -, X32, ⟨Lc32, hQ32, l32, y32, z32⟩, st32⟩ := Jvm.LawKit.callS X31 hx (y := Y0) hown (mvT hZ (tw hw 3 rfl)) (mvT hZ (tw hw 4 rfl)) (mvT hZ (tw hw 1 rfl)) (mvT hZ (tw hw 5 rfl)) (by decide) (backOf (W := 0) (rm_of0 l Z a0 hw [] c_FALSE c_POTENTIALLY_FALSE c_POTENTIALLY_TRUE c_TRUE h0 n0 Z0 G) hZ (tw hw 5 rfl) (tw hw 1 rfl) (by decide) (by decide)) (g := (mkF m 70 #[iv p1, iv p2, iv 3, rv c_TRUE, iv 1, .unset] [(.int (0 : Int32))])) rfl (by rw [hml]; rfl) (argsL := [(.int (0 : Int32))]) (rest := []) (lenOf pd_0 rfl) rfl (by show 2 * 0 + _ ≤ _; exact Nat.le_of_eq rfl) (hb hby at_70) (fun _ _ => ⟨rfl, e31, (by decide : 0 + 0 ≤ _), (by decide : 0 + 0 ≤ _)⟩)
      dsimp only [Pt.U, Pt.locs, Pt.cells, Pt.slots] at X32 l32 y32 z32 st32 hQ32
      subst l32 y32 z32
      obtain ⟨rfl, N32q, e32⟩ := hQ32
      have N32 := Fr.app N0 N32q
      refine Goes.step (T2 := T32) (g2 := (mkF m 73 #[iv p1, iv p2, iv 3, rv c_TRUE, iv 1, .unset] [(.ref c_FALSE)])) st32 ?_
      obtain ⟨cq33, kq33, q33a, q33b, q33c⟩ := isOf hZ e32 E_FALSE
      obtain ⟨_, _, ⟨T33, L33, k33, n33⟩, -, X33, ⟨Lc33, hQ33, l33, y33, z33⟩, st33⟩ := X32.virtualBack hx (y := Y1) (z := Y1) hown (mvT hZ (tw hw 8 rfl)) (mvT hZ (tw hw 9 rfl)) (notFace_of_selects (args := #[]) (mvT hZ (tw hw 11 rfl))) (mvT hZ (tw hw 11 rfl)) (mvT hZ (tw hw 10 rfl)) (by decide) (backOf (W := 0) (rm_finFALSE l Z a0 hw [] c_FALSE c_POTENTIALLY_FALSE c_POTENTIALLY_TRUE c_TRUE h0 n0 Z0 G) hZ (tw hw 12 rfl) (tw hw 1 rfl) (by decide) (by decide)) q33a q33c (g := (mkF m 73 #[iv p1, iv p2, iv 3, rv c_TRUE, iv 1, .unset] [(.ref c_FALSE)])) rfl (by rw [hml]; rfl) (Steps.refl _) (argsL := []) (rest := []) (lenOf pd_1 rfl) rfl (by show 2 * 0 + _ ≤ _; exact Nat.le_of_eq rfl) (hb hby at_73) (fun _ _ => ⟨rfl, e32, (by decide : 0 + 0 ≤ _), (by decide : 0 + 0 ≤ _)⟩)
      dsimp only [Pt.U, Pt.locs, Pt.cells, Pt.slots] at X33 l33 y33 z33 st33 hQ33
      subst l33 y33 z33
      obtain ⟨rfl, N33q, e33⟩ := hQ33
      have N33 := Fr.app N32 N33q
      refine Goes.step (T2 := T33) (g2 := (mkF m 76 #[iv p1, iv p2, iv 3, rv c_TRUE, iv 1, .unset] [(.int (1 : Int32))])) (fun _ hr => st33.trans hr) ?_
      refine Goes.step (T2 := T33) (g2 := (mkF m 78 #[iv p1, iv p2, iv 3, rv c_TRUE, iv 1, iv 1] [])) (fun _ hr => XS.istore X33.here hx rfl (hb hby at_76) rfl (l' := #[iv p1, iv p2, iv 3, rv c_TRUE, iv 1, iv 1]) rfl hr) ?_
      refine Goes.step (T2 := T33) (g2 := (mkF m 79 #[iv p1, iv p2, iv 3, rv c_TRUE, iv 1, iv 1] [(.ref c_TRUE)])) (fun _ hr => XS.aloadN X33.here hx rfl (hb hby at_78) rfl rfl hr) ?_
      obtain ⟨cq34, kq34, q34a, q34b, q34c⟩ := isOf hZ e33 E_TRUE
      obtain ⟨_, _, ⟨T34, L34, k34, n34⟩, -, X34, ⟨Lc34, hQ34, l34, y34, z34⟩, st34⟩ := X33.virtualBack hx (y := Y1) (z := Y1) hown (mvT hZ (tw hw 8 rfl)) (mvT hZ (tw hw 9 rfl)) (notFace_of_selects (args := #[]) (mvT hZ (tw hw 11 rfl))) (mvT hZ (tw hw 11 rfl)) (mvT hZ (tw hw 10 rfl)) (by decide) (backOf (W := 0) (rm_finTRUE l Z a0 hw [] c_FALSE c_POTENTIALLY_FALSE c_POTENTIALLY_TRUE c_TRUE h0 n0 Z0 G) hZ (tw hw 12 rfl) (tw hw 1 rfl) (by decide) (by decide)) q34a q34c (g := (mkF m 79 #[iv p1, iv p2, iv 3, rv c_TRUE, iv 1, iv 1] [(.ref c_TRUE)])) rfl (by rw [hml]; rfl) (Steps.refl _) (argsL := []) (rest := []) (lenOf pd_1 rfl) rfl (by show 2 * 0 + _ ≤ _; exact Nat.le_of_eq rfl) (hb hby at_79) (fun _ _ => ⟨rfl, e33, (by decide : 0 + 0 ≤ _), (by decide : 0 + 0 ≤ _)⟩)
      dsimp only [Pt.U, Pt.locs, Pt.cells, Pt.slots] at X34 l34 y34 z34 st34 hQ34
      subst l34 y34 z34
      obtain ⟨rfl, N34q, e34⟩ := hQ34
      have N34 := Fr.app N33 N34q
      refine Goes.step (T2 := T34) (g2 := (mkF m 82 #[iv p1, iv p2, iv 3, rv c_TRUE, iv 1, iv 1] [(.int (1 : Int32))])) (fun _ hr => st34.trans hr) ?_
      refine Goes.step (T2 := T34) (g2 := (mkF m 84 #[iv p1, iv p2, iv 3, rv c_TRUE, iv 1, iv 1] [(.int (1 : Int32)), (.int (1 : Int32))])) (fun _ hr => XS.iload X34.here hx rfl (hb hby at_82) rfl  hr) ?_
      refine Goes.step (T2 := T34) (g2 := (mkF m 87 #[iv p1, iv p2, iv 3, rv c_TRUE, iv 1, iv 1] [])) (fun _ hr => XS.icmpNo X34.here hx rfl (hb hby at_84) rfl (teq (by decide : (1 : Int32) = (1 : Int32))).2 hr) ?_
      refine Goes.step (T2 := T34) (g2 := (mkF m 89 #[iv p1, iv p2, iv 3, rv c_TRUE, iv 1, iv 1] [(.int (1 : Int32))])) (fun _ hr => XS.iload X34.here hx rfl (hb hby at_87) rfl  hr) ?_
      refine Goes.step (T2 := T34) (g2 := (mkF m 92 #[iv p1, iv p2, iv 3, rv c_TRUE, iv 1, iv 1] [])) (fun _ hr => XS.ifNo X34.here hx rfl (hb hby at_89) rfl ((if0 _ _).trans (feq (by decide : ¬ ((1 : Int32) = (0 : Int32)))).1) hr) ?_
      refine Goes.step (T2 := T34) (g2 := (mkF m 93 #[iv p1, iv p2, iv 3, rv c_TRUE, iv 1, iv 1] [(.int (1 : Int32))])) (fun _ hr => XS.iconst X34.here hx rfl (hb hby at_92) hr) ?_
      refine Goes.step (T2 := T34) (g2 := (mkF m 97 #[iv p1, iv p2, iv 3, rv c_TRUE, iv 1, iv 1] [(.int (1 : Int32))])) (fun _ hr => XS.goto X34.here hx rfl (pc0 := 93) (pc' := 97) rfl (hb hby at_93) (by decide) (by decide) hr) ?_
      exact Goes.ret (v := some (.int (1 : Int32))) X34 (by decide) (by decide) (fun h => by rw [Bd.returns] at h; cases h) ⟨rfl, N34⟩ (fun fs hr => retN X34 hx (t := .boolean) Bd.returns (by simp) (hb hby at_97) hr)
    · rw [hk]
      refine Goes.step (T2 := T31) (g2 := (mkF m 65 #[iv p1, iv p2, iv 3, rv c_TRUE, iv 1, .unset] [])) (fun _ hr => XS.ifNo X31.here hx rfl (hb hby at_62) rfl ((if0 _ _).trans (feq (by decide : ¬ ((1 : Int32) = (0 : Int32)))).1) hr) ?_
      refine Goes.step (T2 := T31) (g2 := (mkF m 66 #[iv p1, iv p2, iv 3, rv c_TRUE, iv 1, .unset] [(.int (1 : Int32))])) (fun _ hr => XS.iconst X31.here hx rfl (hb hby at_65) hr) ?_
      refine Goes.step (T2 := T31) (g2 := (mkF m 70 #[iv p1, iv p2, iv 3, rv c_TRUE, iv 1, .unset] [(.int (1 : Int32))])) (fun _ hr => XS.goto X31.here hx rfl (pc0 := 66) (pc' := 70) rfl (hb hby at_66) (by decide) (by decide) hr) ?_
      obtain ⟨_, _, ⟨T35, L35, k35, n35⟩, -, X35, ⟨Lc35, hQ35, l35, y35, z35⟩, st35⟩ := Jvm.LawKit.callS X31 hx (y := Y0) hown (mvT hZ (tw hw 3 rfl)) (mvT hZ (tw hw 4 rfl)) (mvT hZ (tw hw 1 rfl)) (mvT hZ (tw hw 5 rfl)) (by decide) (backOf (W := 0) (rm_of1 l Z a0 hw [] c_FALSE c_POTENTIALLY_FALSE c_POTENTIALLY_TRUE c_TRUE h0 n0 Z0 G) hZ (tw hw 5 rfl) (tw hw 1 rfl) (by decide) (by decide)) (g := (mkF m 70 #[iv p1, iv p2, iv 3, rv c_TRUE, iv 1, .unset] [(.int (1 : Int32))])) rfl (by rw [hml]; rfl) (argsL := [(.int (1 : Int32))]) (rest := []) (lenOf pd_0 rfl) rfl (by show 2 * 0 + _ ≤ _; exact Nat.le_of_eq rfl) (hb hby at_70) (fun _ _ => ⟨rfl, e31, (by decide : 0 + 0 ≤ _), (by decide : 0 + 0 ≤ _)⟩)
      dsimp only [Pt.U, Pt.locs, Pt.cells, Pt.slots] at X35 l35 y35 z35 st35 hQ35
      subst l35 y35 z35
      obtain ⟨rfl, N35q, e35⟩ := hQ35
      have N35 := Fr.app N0 N35q
      refine Goes.step (T2 := T35) (g2 := (mkF m 73 #[iv p1, iv p2, iv 3, rv c_TRUE, iv 1, .unset] [(.ref c_TRUE)])) st35 ?_
      obtain ⟨cq36, kq36, q36a, q36b, q36c⟩ := isOf hZ e35 E_TRUE
      obtain ⟨_, _, ⟨T36, L36, k36, n36⟩, -, X36, ⟨Lc36, hQ36, l36, y36, z36⟩, st36⟩ := X35.virtualBack hx (y := Y1) (z := Y1) hown (mvT hZ (tw hw 8 rfl)) (mvT hZ (tw hw 9 rfl)) (notFace_of_selects (args := #[]) (mvT hZ (tw hw 11 rfl))) (mvT hZ (tw hw 11 rfl)) (mvT hZ (tw hw 10 rfl)) (by decide) (backOf (W := 0) (rm_finTRUE l Z a0 hw [] c_FALSE c_POTENTIALLY_FALSE c_POTENTIALLY_TRUE c_TRUE h0 n0 Z0 G) hZ (tw hw 12 rfl) (tw hw 1 rfl) (by decide) (by decide)) q36a q36c (g := (mkF m 73 #[iv p1, iv p2, iv 3, rv c_TRUE, iv 1, .unset] [(.ref c_TRUE)])) rfl (by rw [hml]; rfl) (Steps.refl _) (argsL := []) (rest := []) (lenOf pd_1 rfl) rfl (by show 2 * 0 + _ ≤ _; exact Nat.le_of_eq rfl) (hb hby at_73) (fun _ _ => ⟨rfl, e35, (by decide : 0 + 0 ≤ _), (by decide : 0 + 0 ≤ _)⟩)
      dsimp only [Pt.U, Pt.locs, Pt.cells, Pt.slots] at X36 l36 y36 z36 st36 hQ36
      subst l36 y36 z36
      obtain ⟨rfl, N36q, e36⟩ := hQ36
      have N36 := Fr.app N35 N36q
      refine Goes.step (T2 := T36) (g2 := (mkF m 76 #[iv p1, iv p2, iv 3, rv c_TRUE, iv 1, .unset] [(.int (1 : Int32))])) (fun _ hr => st36.trans hr) ?_
      refine Goes.step (T2 := T36) (g2 := (mkF m 78 #[iv p1, iv p2, iv 3, rv c_TRUE, iv 1, iv 1] [])) (fun _ hr => XS.istore X36.here hx rfl (hb hby at_76) rfl (l' := #[iv p1, iv p2, iv 3, rv c_TRUE, iv 1, iv 1]) rfl hr) ?_
      refine Goes.step (T2 := T36) (g2 := (mkF m 79 #[iv p1, iv p2, iv 3, rv c_TRUE, iv 1, iv 1] [(.ref c_TRUE)])) (fun _ hr => XS.aloadN X36.here hx rfl (hb hby at_78) rfl rfl hr) ?_
      obtain ⟨cq37, kq37, q37a, q37b, q37c⟩ := isOf hZ e36 E_TRUE
      obtain ⟨_, _, ⟨T37, L37, k37, n37⟩, -, X37, ⟨Lc37, hQ37, l37, y37, z37⟩, st37⟩ := X36.virtualBack hx (y := Y1) (z := Y1) hown (mvT hZ (tw hw 8 rfl)) (mvT hZ (tw hw 9 rfl)) (notFace_of_selects (args := #[]) (mvT hZ (tw hw 11 rfl))) (mvT hZ (tw hw 11 rfl)) (mvT hZ (tw hw 10 rfl)) (by decide) (backOf (W := 0) (rm_finTRUE l Z a0 hw [] c_FALSE c_POTENTIALLY_FALSE c_POTENTIALLY_TRUE c_TRUE h0 n0 Z0 G) hZ (tw hw 12 rfl) (tw hw 1 rfl) (by decide) (by decide)) q37a q37c (g := (mkF m 79 #[iv p1, iv p2, iv 3, rv c_TRUE, iv 1, iv 1] [(.ref c_TRUE)])) rfl (by rw [hml]; rfl) (Steps.refl _) (argsL := []) (rest := []) (lenOf pd_1 rfl) rfl (by show 2 * 0 + _ ≤ _; exact Nat.le_of_eq rfl) (hb hby at_79) (fun _ _ => ⟨rfl, e36, (by decide : 0 + 0 ≤ _), (by decide : 0 + 0 ≤ _)⟩)
      dsimp only [Pt.U, Pt.locs, Pt.cells, Pt.slots] at X37 l37 y37 z37 st37 hQ37
      subst l37 y37 z37
      obtain ⟨rfl, N37q, e37⟩ := hQ37
      have N37 := Fr.app N36 N37q
      refine Goes.step (T2 := T37) (g2 := (mkF m 82 #[iv p1, iv p2, iv 3, rv c_TRUE, iv 1, iv 1] [(.int (1 : Int32))])) (fun _ hr => st37.trans hr) ?_
      refine Goes.step (T2 := T37) (g2 := (mkF m 84 #[iv p1, iv p2, iv 3, rv c_TRUE, iv 1, iv 1] [(.int (1 : Int32)), (.int (1 : Int32))])) (fun _ hr => XS.iload X37.here hx rfl (hb hby at_82) rfl  hr) ?_
      refine Goes.step (T2 := T37) (g2 := (mkF m 87 #[iv p1, iv p2, iv 3, rv c_TRUE, iv 1, iv 1] [])) (fun _ hr => XS.icmpNo X37.here hx rfl (hb hby at_84) rfl (teq (by decide : (1 : Int32) = (1 : Int32))).2 hr) ?_
      refine Goes.step (T2 := T37) (g2 := (mkF m 89 #[iv p1, iv p2, iv 3, rv c_TRUE, iv 1, iv 1] [(.int (1 : Int32))])) (fun _ hr => XS.iload X37.here hx rfl (hb hby at_87) rfl  hr) ?_
      refine Goes.step (T2 := T37) (g2 := (mkF m 92 #[iv p1, iv p2, iv 3, rv c_TRUE, iv 1, iv 1] [])) (fun _ hr => XS.ifNo X37.here hx rfl (hb hby at_89) rfl ((if0 _ _).trans (feq (by decide : ¬ ((1 : Int32) = (0 : Int32)))).1) hr) ?_
      refine Goes.step (T2 := T37) (g2 := (mkF m 93 #[iv p1, iv p2, iv 3, rv c_TRUE, iv 1, iv 1] [(.int (1 : Int32))])) (fun _ hr => XS.iconst X37.here hx rfl (hb hby at_92) hr) ?_
      refine Goes.step (T2 := T37) (g2 := (mkF m 97 #[iv p1, iv p2, iv 3, rv c_TRUE, iv 1, iv 1] [(.int (1 : Int32))])) (fun _ hr => XS.goto X37.here hx rfl (pc0 := 93) (pc' := 97) rfl (hb hby at_93) (by decide) (by decide) hr) ?_
      exact Goes.ret (v := some (.int (1 : Int32))) X37 (by decide) (by decide) (fun h => by rw [Bd.returns] at h; cases h) ⟨rfl, N37⟩ (fun fs hr => retN X37 hx (t := .boolean) Bd.returns (by simp) (hb hby at_97) hr)
set_option maxRecDepth 65536 in
set_option maxHeartbeats 40000000 in
theorem comes_1 {Post : Tables → Env → Array Value → State → Outcome → State → Prop} (hpost : ∀ tb e args s v u, (limb_1_1.after args s (.returned v) u = true ∧ limb_1_2.after args s (.returned v) u = true ∧ True) → FrameEnd s (.returned v) u (Jvm.fieldLocs frame_1_writes args s ++ Jvm.arrayLocs frame_1_arrays args s ++ Jvm.staticLocs frame_1_statics s) 0 0 → Post tb e args s (.returned v) u) :
    ArmFor flags0 classFile x code maxLocals ret World_1 tables_1 room_1 Calls_1 rest_1 Pre_1 Post := by
  intro l hfl _ _ p e ha hc hk s m args below hf hA hF happ hP
  obtain ⟨hcalls, hrest, hpre⟩ := hP
  obtain ⟨-, -, -, hnamed, -, -, -, hat⟩ := (Spec.applies_iff hf).mp happ
  obtain ⟨hg, hn⟩ := and_e (Cond.before_iff.mp (show (Jvm.Cond.and given_1 narrow_1).before args s = true from hpre))
  obtain ⟨g1, g2⟩ := and_e hg
  obtain ⟨g3, g4⟩ := and_e g2
  obtain ⟨w0, w1, rfl⟩ : ∃ w0 w1 : Value, args = #[w0, w1] := by
    have hs : args.size = 2 := by simpa [Cond.value, given_1] using g1
    obtain ⟨L⟩ := args
    match L, hs with
    | [w0, w1], _ => exact ⟨w0, w1, rfl⟩
  have hw := fun d (hd : d ∈ tables_1) => atoms_spec (ws := Jvm.Cond.code x code maxLocals ret :: tables_1) hat d (List.mem_cons_of_mem _ hd)
  have hfit : Fit s := fun {y c} hc i hi => by
    obtain ⟨ha, rfl⟩ := Array.getElem?_eq_some_iff.mp hc
    have q := List.all_eq_true.mp ((Array.all_eq_true_iff_forall_mem.mp hF) _ (Array.getElem_mem ha)) i (List.mem_range.mpr hi)
    simpa [Array.getElem?_eq_getElem hi] using q
  obtain ⟨i0, ei0⟩ := is_v g3
  obtain rfl : w0 = (.int i0) := Option.some.inj ei0
  obtain ⟨i1, ei1⟩ := is_v g4
  obtain rfl : w1 = (.int i1) := Option.some.inj ei1
  obtain ⟨g5, g6⟩ := and_e hn
  obtain ⟨g7, g8⟩ := and_e g6
  obtain ⟨g9, g10⟩ := and_e g8
  obtain ⟨g11, g12⟩ := and_e g10
  obtain ⟨g13, g14⟩ := and_e g12
  obtain ⟨g15, g16⟩ := and_e g14
  obtain ⟨g17, g18⟩ := and_e g16
  obtain ⟨c_FALSE, ev_FALSE⟩ := exa_v g5
  have S_FALSE := Sta.start ev_FALSE (Or.inr ⟨(tw hw 1 rfl), (tw hw 2 rfl)⟩)
  have E_FALSE := Exa.start ev_FALSE g5
  obtain ⟨c_TRUE, ev_TRUE⟩ := exa_v g7
  have S_TRUE := Sta.start ev_TRUE (Or.inr ⟨(tw hw 1 rfl), (tw hw 7 rfl)⟩)
  have E_TRUE := Exa.start ev_TRUE g7
  have F_FALSE := own_ord ev_FALSE g9
  have F_TRUE := own_ord ev_TRUE g11
  obtain ⟨c_POTENTIALLY_TRUE, ev_POTENTIALLY_TRUE⟩ := exa_v g13
  have S_POTENTIALLY_TRUE := Sta.start ev_POTENTIALLY_TRUE (Or.inr ⟨(tw hw 1 rfl), (tw hw 15 rfl)⟩)
  have E_POTENTIALLY_TRUE := Exa.start ev_POTENTIALLY_TRUE g13
  have F_POTENTIALLY_TRUE := own_ord ev_POTENTIALLY_TRUE g15
  obtain ⟨c_POTENTIALLY_FALSE, ev_POTENTIALLY_FALSE⟩ := exa_v g17
  have S_POTENTIALLY_FALSE := Sta.start ev_POTENTIALLY_FALSE (Or.inr ⟨(tw hw 1 rfl), (tw hw 17 rfl)⟩)
  have E_POTENTIALLY_FALSE := Exa.start ev_POTENTIALLY_FALSE g17
  have F_POTENTIALLY_FALSE := own_ord ev_POTENTIALLY_FALSE g18
  have G : Env0 s s.heap c_FALSE c_POTENTIALLY_FALSE c_POTENTIALLY_TRUE c_TRUE := ⟨S_FALSE, E_FALSE, F_FALSE, S_POTENTIALLY_FALSE, E_POTENTIALLY_FALSE, F_POTENTIALLY_FALSE, S_POTENTIALLY_TRUE, E_POTENTIALLY_TRUE, F_POTENTIALLY_TRUE, S_TRUE, E_TRUE, F_TRUE⟩
  obtain ⟨n, o, h1, h2, h3, _, L, rfl, ⟨rfl, N⟩, hq⟩ := rm_law l s _ hw tables_1 c_FALSE c_POTENTIALLY_FALSE c_POTENTIALLY_TRUE c_TRUE i0 i1 s.heap s.heap.size (Nat.le_refl _) G p e ha hc hk s m _ below hf ((Spec.applies_iff_loose hf).mp happ).1 ⟨rfl, State.Warmed39.refl s, rfl⟩ trivial
  refine ⟨n, _, h1, h2, h3, hpost _ _ _ _ _ _ ⟨Cond.after_iff.mpr rfl, Cond.after_iff.mpr (eq_i res_at (Term.int_eval (1)) rfl), trivial⟩ ⟨hq.1, hq.2.1, (hq.2.2.sift fun y hy => Or.inr (N y hy)).mono (by decide) (by decide)⟩⟩
theorem main_1_1 : Claimed_1_1 := comes_1 fun _ _ _ _ _ _ h hF => ⟨h.1, hF⟩
theorem main_1_2 : Claimed_1_2 := comes_1 fun _ _ _ _ _ _ h hF => ⟨h.2.1, hF⟩
end Jvm.Pilot.@@N@@
namespace Jvm.Pilot.@@N@@
open Jvm Jvm.ClassFile Sem Op Lib Jvm.Free Jvm.Stand Jvm.Pilot.@@N@@.Jvm.D
/-! MADE BY PROGRAM (witnessworld.py) out of the Statement's table words and the real class files: 12 classes; the members and pool entries that the words name. The judged class is class 1, her method 1. -/
namespace start1
open Jvm.ClassFile
def u (s : String) : CpInfo := .utf8 (stringToUtf16 s)
/-- a pool by its gaps: so many unusable entries, then the entry; so many at the end -/
def gap : Nat → List CpInfo → List CpInfo
  | 0, r => r
  | n + 1, r => .unusable :: gap n r
def poolList (es : List (Nat × CpInfo)) (last : Nat) : List CpInfo := es.foldr (fun e r => gap e.1 (e.2 :: r)) (gap last [])
def pool (es : List (Nat × CpInfo)) (last : Nat) : Array CpInfo := ⟨poolList es last⟩
def fileOf (pool : Array CpInfo) (this : Nat) (attrs : Array Attribute := #[]) (ms : Array MethodInfo := #[]) (fl : Nat := 33) (sup : Nat := 0) (ifs : Array Nat := #[]) (fds : Array FieldInfo := #[]) : ClassFile where
  minorVersion := 0
  majorVersion := 65
  constantPool := pool
  accessFlags := fl
  thisClass := this
  superClass := sup
  interfaces := ifs
  fields := fds
  methods := ms
  attributes := attrs
def plain (name : String) (sup : Option ClassId) : Class where
  name := name
  kind := .ordinary
  loader := none
  accessFlags := 33
  super := sup
  interfaces := #[]
  cf := none
  fields := #[]
  methods := #[]
  instanceTypes := #[]
  staticTypes := #[]
  resolved := #[]
  callSites := []
  init := .initialized
  statics := none
  mirror := none

def pool0 : Array CpInfo := pool [(5, u "<init>"), (0, u "()V"), (1, .class_ 10), (1, u "java/lang/Object")] 113

def k0m0 : Method := { name := "<init>", desc := "()V", sig := { parameters := [], returnType := none }, accessFlags := 1, code := none }
/-- java/lang/Object -/
def k0 : Class := { plain "java/lang/Object" none with
  accessFlags := 33
  interfaces := #[]
  cf := some (fileOf pool0 8 #[] #[{ accessFlags := 1, nameIndex := 5, descriptorIndex := 6, attributes := #[] }] 33 0 #[] #[])
  fields := #[]
  methods := #[k0m0]
  instanceTypes := #[]
  staticTypes := #[]
  resolved := Array.replicate 124 none
  statics := none }

def pool1 : Array CpInfo := pool [(2, .class_ 4), (1, u "java/lang/Object"), (0, u "<init>"), (0, u "()V"), (0, .fieldref 8 9), (0, .class_ 10), (0, .nameAndType 11 12), (0, u "com/example/libreconf/libreconf/pattern/Verdict"), (0, u "FALSE"), (0, u "Lcom/example/libreconf/libreconf/pattern/Verdict;"), (0, .fieldref 8 14), (0, .nameAndType 15 12), (0, u "POTENTIALLY_FALSE"), (0, .fieldref 8 17), (0, .nameAndType 18 12), (0, u "POTENTIALLY_TRUE"), (0, .fieldref 8 20), (0, .nameAndType 21 12), (0, u "TRUE"), (0, .methodref 8 23), (0, .nameAndType 24 25), (0, u "of"), (0, u "(Z)Lcom/example/libreconf/libreconf/pattern/Verdict;"), (0, .methodref 8 27), (0, .nameAndType 28 29), (0, u "isFinal"), (0, u "()Z"), (0, .class_ 31), (0, u "com/example/libreconf/libreconf/pattern/VerdictIsFinalPinLaw"), (2, u "law"), (0, u "(II)Z")] 3

def k1m0 : Method := { name := "<init>", desc := "()V", sig := { parameters := [], returnType := none }, accessFlags := 1, code := none }
def k1c1 : Code := { maxStack := 2, maxLocals := 6, code := code, exceptionTable := #[], attributes := #[] }
def k1m1 : Method := { name := "law", desc := "(II)Z", sig := { parameters := [.int, .int], returnType := some .boolean }, accessFlags := 9, code := some k1c1 }
/-- com/example/libreconf/libreconf/pattern/VerdictIsFinalPinLaw -/
def k1 : Class := { plain "com/example/libreconf/libreconf/pattern/VerdictIsFinalPinLaw" (some 0) with
  accessFlags := 49
  interfaces := #[]
  cf := some (fileOf pool1 30 #[] #[{ accessFlags := 1, nameIndex := 5, descriptorIndex := 6, attributes := #[] }, { accessFlags := 9, nameIndex := 34, descriptorIndex := 35, attributes := #[] }] 49 2 #[] #[])
  fields := #[]
  methods := #[k1m0, k1m1]
  instanceTypes := #[]
  staticTypes := #[]
  resolved := Array.replicate 39 none
  statics := none }

def pool2 : Array CpInfo := pool [(1, .class_ 2), (0, u "java/lang/constant/Constable"), (0, .class_ 4), (0, u "java/lang/Object")] 6

/-- java/lang/constant/Constable -/
def k2 : Class := { plain "java/lang/constant/Constable" (some 0) with
  accessFlags := 1537
  interfaces := #[]
  cf := some (fileOf pool2 1 #[] #[] 1537 3 #[] #[])
  fields := #[]
  methods := #[]
  instanceTypes := #[]
  staticTypes := #[]
  resolved := Array.replicate 11 none
  statics := none }

def pool3 : Array CpInfo := pool [(1, .class_ 2), (0, u "java/lang/Comparable"), (0, .class_ 4), (0, u "java/lang/Object")] 7

/-- java/lang/Comparable -/
def k3 : Class := { plain "java/lang/Comparable" (some 0) with
  accessFlags := 1537
  interfaces := #[]
  cf := some (fileOf pool3 1 #[] #[] 1537 3 #[] #[])
  fields := #[]
  methods := #[]
  instanceTypes := #[]
  staticTypes := #[]
  resolved := Array.replicate 12 none
  statics := none }

def pool4 : Array CpInfo := pool [(1, .class_ 2), (0, u "java/io/Serializable"), (0, .class_ 4), (0, u "java/lang/Object")] 2

/-- java/io/Serializable -/
def k4 : Class := { plain "java/io/Serializable" (some 0) with
  accessFlags := 1537
  interfaces := #[]
  cf := some (fileOf pool4 1 #[] #[] 1537 3 #[] #[])
  fields := #[]
  methods := #[]
  instanceTypes := #[]
  staticTypes := #[]
  resolved := Array.replicate 7 none
  statics := none }

def pool5 : Array CpInfo := pool [(2, .class_ 4), (1, u "java/lang/Enum"), (0, u "name"), (0, u "Ljava/lang/String;"), (2, u "ordinal"), (0, u "I"), (1, .class_ 14), (1, u "java/lang/Object"), (4, u "hash"), (86, .class_ 108), (1, u "java/lang/Enum$EnumDesc"), (2, .class_ 112), (0, u "java/lang/constant/Constable"), (0, .class_ 114), (0, u "java/lang/Comparable"), (0, .class_ 116), (0, u "java/io/Serializable")] 87

/-- java/lang/Enum -/
def k5 : Class := { plain "java/lang/Enum" (some 0) with
  accessFlags := 1057
  interfaces := #[2, 3, 4]
  cf := some (fileOf pool5 2 #[.nestMembers #[106]] #[] 1057 12 #[111, 113, 115] #[{ accessFlags := 18, nameIndex := 5, descriptorIndex := 6, attributes := #[] }, { accessFlags := 18, nameIndex := 9, descriptorIndex := 10, attributes := #[] }, { accessFlags := 2, nameIndex := 19, descriptorIndex := 10, attributes := #[] }])
  fields := #[{ name := "name", type := (.object "java/lang/String"), accessFlags := 18, slot := 0, constantValue := 0 }, { name := "ordinal", type := .int, accessFlags := 18, slot := 1, constantValue := 0 }, { name := "hash", type := .int, accessFlags := 2, slot := 2, constantValue := 0 }]
  methods := #[]
  instanceTypes := #[(.object "java/lang/String"), .int, .int]
  staticTypes := #[]
  resolved := Array.replicate 204 none
  statics := none }

def pool6 : Array CpInfo := pool [(1, .class_ 2), (0, u "com/example/libreconf/libreconf/pattern/Verdict"), (0, .fieldref 1 4), (0, .nameAndType 5 6), (0, u "FALSE"), (0, u "Lcom/example/libreconf/libreconf/pattern/Verdict;"), (2, u "POTENTIALLY_FALSE"), (2, u "POTENTIALLY_TRUE"), (0, .fieldref 1 14), (0, .nameAndType 15 6), (0, u "TRUE"), (2, u "$VALUES"), (0, u "[Lcom/example/libreconf/libreconf/pattern/Verdict;"), (6, .class_ 28), (1, u "java/lang/Enum"), (8, u "text"), (0, u "Ljava/lang/String;"), (2, u "IN_ORDER"), (41, u "of"), (0, u "(Z)Lcom/example/libreconf/libreconf/pattern/Verdict;"), (1, u "isFinal"), (0, u "()Z")] 10

def k6c0 : Code := { maxStack := 1, maxLocals := 1, code := prog_117_method_4_code, exceptionTable := #[], attributes := #[] }
def k6m0 : Method := { name := "of", desc := "(Z)Lcom/example/libreconf/libreconf/pattern/Verdict;", sig := { parameters := [.boolean], returnType := some (.object "com/example/libreconf/libreconf/pattern/Verdict") }, accessFlags := 9, code := some k6c0 }
def k6c1 : Code := { maxStack := 2, maxLocals := 1, code := prog_117_method_5_code, exceptionTable := #[], attributes := #[] }
def k6m1 : Method := { name := "isFinal", desc := "()Z", sig := { parameters := [], returnType := some .boolean }, accessFlags := 1, code := some k6c1 }
/-- com/example/libreconf/libreconf/pattern/Verdict -/
def k6 : Class := { plain "com/example/libreconf/libreconf/pattern/Verdict" (some 5) with
  accessFlags := 16433
  interfaces := #[]
  cf := some (fileOf pool6 1 #[] #[{ accessFlags := 9, nameIndex := 83, descriptorIndex := 84, attributes := #[] }, { accessFlags := 1, nameIndex := 86, descriptorIndex := 87, attributes := #[] }] 16433 26 #[] #[{ accessFlags := 16409, nameIndex := 5, descriptorIndex := 6, attributes := #[] }, { accessFlags := 16409, nameIndex := 9, descriptorIndex := 6, attributes := #[] }, { accessFlags := 16409, nameIndex := 12, descriptorIndex := 6, attributes := #[] }, { accessFlags := 16409, nameIndex := 15, descriptorIndex := 6, attributes := #[] }, { accessFlags := 26, nameIndex := 41, descriptorIndex := 19, attributes := #[] }, { accessFlags := 18, nameIndex := 37, descriptorIndex := 38, attributes := #[] }, { accessFlags := 4122, nameIndex := 18, descriptorIndex := 19, attributes := #[] }])
  fields := #[{ name := "FALSE", type := (.object "com/example/libreconf/libreconf/pattern/Verdict"), accessFlags := 16409, slot := 0, constantValue := 0 }, { name := "POTENTIALLY_FALSE", type := (.object "com/example/libreconf/libreconf/pattern/Verdict"), accessFlags := 16409, slot := 1, constantValue := 0 }, { name := "POTENTIALLY_TRUE", type := (.object "com/example/libreconf/libreconf/pattern/Verdict"), accessFlags := 16409, slot := 2, constantValue := 0 }, { name := "TRUE", type := (.object "com/example/libreconf/libreconf/pattern/Verdict"), accessFlags := 16409, slot := 3, constantValue := 0 }, { name := "IN_ORDER", type := (.array (.object "com/example/libreconf/libreconf/pattern/Verdict")), accessFlags := 26, slot := 4, constantValue := 0 }, { name := "text", type := (.object "java/lang/String"), accessFlags := 18, slot := 3, constantValue := 0 }, { name := "$VALUES", type := (.array (.object "com/example/libreconf/libreconf/pattern/Verdict")), accessFlags := 4122, slot := 5, constantValue := 0 }]
  methods := #[k6m0, k6m1]
  instanceTypes := #[(.object "java/lang/String"), .int, .int, (.object "java/lang/String")]
  staticTypes := #[(.object "com/example/libreconf/libreconf/pattern/Verdict"), (.object "com/example/libreconf/libreconf/pattern/Verdict"), (.object "com/example/libreconf/libreconf/pattern/Verdict"), (.object "com/example/libreconf/libreconf/pattern/Verdict"), (.array (.object "com/example/libreconf/libreconf/pattern/Verdict")), (.array (.object "com/example/libreconf/libreconf/pattern/Verdict"))]
  resolved := Array.replicate 98 none
  statics := some 0 }

def pool7 : Array CpInfo := pool [(1, u "java/lang/Cloneable"), (0, .class_ 1), (0, u "java/lang/Object"), (0, .class_ 3)] 3

/-- java/lang/Cloneable -/
def k7 : Class := { plain "java/lang/Cloneable" (some 0) with
  accessFlags := 1537
  interfaces := #[]
  cf := some (fileOf pool7 2 #[] #[] 1537 4 #[] #[])
  fields := #[]
  methods := #[]
  instanceTypes := #[]
  staticTypes := #[]
  resolved := Array.replicate 8 none
  statics := none }

/-- the primitive byte -/
def k8 : Class := { plain "byte" none with kind := .primitive 'B', accessFlags := 0x411 }
/-- [B -/
def k9 : Class := { plain "[B" (some 0) with kind := .array 8 .byte, interfaces := #[7, 4], accessFlags := 1041 }

/-- the primitive int -/
def k10 : Class := { plain "int" none with kind := .primitive 'I', accessFlags := 0x411 }
/-- [I -/
def k11 : Class := { plain "[I" (some 0) with kind := .array 10 .int, interfaces := #[7, 4], accessFlags := 1041 }

def heap : Heap := #[{ cls := 6, slots := #[.ref 1, .ref 2, .ref 3, .ref 4, .null, .null], vm := .statics 6 },
  { cls := 6, slots := #[.null, .int 0, .int 0, .null], vm := .none },
  { cls := 6, slots := #[.null, .int 1, .int 0, .null], vm := .none },
  { cls := 6, slots := #[.null, .int 2, .int 0, .null], vm := .none },
  { cls := 6, slots := #[.null, .int 3, .int 0, .null], vm := .none }]
def classes : Array Class := #[k0, k1, k2, k3, k4, k5, k6, k7, k8, k9, k10, k11]
def interned : List (Array UInt16 × Addr) := []
def slotsUsed : Nat := 22
def theMethod : MethodId := ⟨1, 1⟩
def args0 : Array Value := #[.int 5, .int 5]
def aboutOver (below : List Frame) : State where
  vm := { classes := classes, interned := interned.toArray }
  heap := heap
  slotsUsed := slotsUsed
  threads := #[{ frames := .invoking theMethod args0 :: below }]
def below0 : List Frame := [.native { method := ⟨0, 0⟩, args := #[] }]
def about1 : State := aboutOver below0
def p0 : Program := .bare "" "" ""
def e0 : Env := launch0.env 0 0 0
theorem w_frames : about1.frames = Frame.invoking theMethod args0 :: below0 := rfl
set_option maxRecDepth 65536 in
theorem w_args : argsFit about1.vm theMethod args0 = true := by decide +kernel
set_option maxRecDepth 65536 in
theorem w_heap : heapFits about1 = true := by decide +kernel
set_option maxRecDepth 65536 in
theorem w_runnable : about1.curStatus? = some .runnable := by decide +kernel
set_option maxRecDepth 65536 in
theorem w_alone : about1.alone = true := by decide +kernel
set_option maxRecDepth 65536 in
theorem w_named : about1.methodNamed? x = some theMethod := by decide +kernel
set_option maxRecDepth 65536 in
theorem w_hears : about1.hears theMethod below0 = true := by decide +kernel
set_option maxRecDepth 65536 in
theorem w_ripe : about1.ripe theMethod args0 below0 = true := by decide +kernel
theorem w_running : about1.status = .running := rfl
set_option maxRecDepth 65536 in
theorem w_room : about1.hasRoom e0.platform room_1 = true :=
  launch0.hasRoom_least _ room_1 (by decide +kernel) (by decide +kernel) (by decide +kernel) (by decide +kernel) (by decide +kernel) (by decide +kernel)
theorem allAtoms_all (ts : List Jvm.Cond) (a : Array Jvm.Value) (st : Jvm.State) : (allAtoms ts).before a st = ts.all (fun c => c.before a st) := by
  induction ts with
  | nil => rfl
  | cons c t ih =>
    show (Jvm.Cond.and c (allAtoms t)).before a st = _
    rw [Jvm.Cond.before_and, ih, List.all_cons]
def words1 : List Jvm.Cond := Jvm.Cond.code x code maxLocals ret :: tables_1
/-- a 'code' word, met by the world's own term for the bytes: nothing is compared byte by byte -/
theorem code_word {y : MethodName} {bytes : ByteArray} {mx : Nat} {rt : Option FieldType} {a : Array Value} {s : State} {m : MethodId} {meth : Method} {c : Code} (h1 : s.methodNamed? y = some m) (h2 : s.vm.method? m = some meth) (h3 : meth.code = some c) (h4 : c.code = bytes)
    (h5 : (c.maxLocals == mx && c.exceptionTable.isEmpty && decide (c.maxStack ≤ mostOperands) && decide (meth.sig.returnType = rt) && !meth.locks && decide (parseMethodDescriptor y.desc = some meth.sig)) = true) : (Jvm.Cond.code y bytes mx rt).before a s = true := by
  simp only [Bool.and_eq_true, beq_iff_eq, Bool.not_eq_true', decide_eq_true_eq] at h5
  obtain ⟨⟨⟨⟨⟨g1, g2⟩, g3⟩, g4⟩, g5⟩, g6⟩ := h5
  simp [Cond.before, Cond.holds, Cond.value, h1, h2, h3, h4, g1, g2, g3, g4, g5, g6]
def isCode : Jvm.Cond → Bool
  | .code _ _ _ _ => true
  | _ => false
theorem all_split {L : List Jvm.Cond} {P : Jvm.Cond → Bool} (h1 : L.all (fun c => isCode c || P c) = true) (h2 : ∀ c ∈ L.filter isCode, P c = true) : L.all P = true := by
  refine List.all_eq_true.mpr fun c hc => ?_
  have h := List.all_eq_true.mp h1 c hc
  rcases Bool.eq_false_or_eq_true (isCode c) with hi | hi
  · exact h2 c (List.mem_filter.mpr ⟨hc, hi⟩)
  · simpa [hi] using h
set_option maxRecDepth 65536 in
theorem w_c0 : (Jvm.Cond.code x code maxLocals ret).before args0 about1 = true := code_word (m := ⟨1, 1⟩) (meth := k1m1) (c := k1c1) (by decide +kernel) rfl rfl rfl (by decide +kernel)
set_option maxRecDepth 65536 in
theorem w_c1 : (Jvm.Cond.code ({ cls := "com/example/libreconf/libreconf/pattern/Verdict", name := "of", desc := "(Z)Lcom/example/libreconf/libreconf/pattern/Verdict;" } : Jvm.MethodName) prog_117_method_4_code (1 : Nat) (Option.some (Jvm.ClassFile.FieldType.object "com/example/libreconf/libreconf/pattern/Verdict"))).before args0 about1 = true := code_word (m := ⟨6, 0⟩) (meth := k6m0) (c := k6c0) (by decide +kernel) rfl rfl rfl (by decide +kernel)
set_option maxRecDepth 65536 in
theorem w_c2 : (Jvm.Cond.code ({ cls := "com/example/libreconf/libreconf/pattern/Verdict", name := "isFinal", desc := "()Z" } : Jvm.MethodName) prog_117_method_5_code (1 : Nat) (Option.some Jvm.ClassFile.FieldType.boolean)).before args0 about1 = true := code_word (m := ⟨6, 1⟩) (meth := k6m1) (c := k6c1) (by decide +kernel) rfl rfl rfl (by decide +kernel)
def codes1 : List Jvm.Cond := [Jvm.Cond.code x code maxLocals ret, Jvm.Cond.code ({ cls := "com/example/libreconf/libreconf/pattern/Verdict", name := "of", desc := "(Z)Lcom/example/libreconf/libreconf/pattern/Verdict;" } : Jvm.MethodName) prog_117_method_4_code (1 : Nat) (Option.some (Jvm.ClassFile.FieldType.object "com/example/libreconf/libreconf/pattern/Verdict")), Jvm.Cond.code ({ cls := "com/example/libreconf/libreconf/pattern/Verdict", name := "isFinal", desc := "()Z" } : Jvm.MethodName) prog_117_method_5_code (1 : Nat) (Option.some Jvm.ClassFile.FieldType.boolean)]
set_option maxRecDepth 65536 in
theorem codes_eq : words1.filter isCode = codes1 := rfl
theorem w_codes : ∀ c ∈ words1.filter isCode, c.before args0 about1 = true := by
  rw [codes_eq]
  intro c hc
  simp only [codes1, List.mem_cons, List.not_mem_nil, or_false] at hc
  rcases hc with rfl | rfl | rfl
  · exact w_c0
  · exact w_c1
  · exact w_c2
set_option maxRecDepth 65536 in
theorem w_t1 : words1.all (fun c => isCode c || c.before args0 about1) = true := by decide +kernel
theorem w_tables : (allAtoms (Jvm.Cond.code x code maxLocals ret :: tables_1)).before args0 about1 = true := by
  rw [allAtoms_all]
  show words1.all (fun c => c.before args0 about1) = true
  refine all_split ?_ w_codes
  rw [w_t1]
set_option maxRecDepth 65536 in
theorem w_case : (Jvm.Cond.and given_1 narrow_1).before args0 about1 = true := by decide +kernel
theorem w_applies : (headSpec (Jvm.Cond.code x code maxLocals ret :: tables_1) room_1).applies x e0.platform about1 = true :=
  (Spec.applies_iff w_frames).mpr ⟨w_running, w_runnable, w_alone, w_named, w_hears, w_ripe, w_room, w_tables⟩
theorem atStart : AtStart classFile x code maxLocals ret World_1 tables_1 room_1 Calls_1 rest_1 Pre_1 launch0 p0 e0 about1 theMethod args0 below0 :=
  ⟨lists_1, trivial, launch0.admits_env _ _ _, launch0.least_env, fairChoices_fair.cas, fairChoices_fair.clock, w_frames, w_args, w_heap, w_applies, trivial, trivial, w_case⟩
end start1
theorem witness_1 : WitnessClaimed_1 := ⟨start1.p0, start1.e0, start1.about1, start1.theMethod, start1.args0, start1.below0, start1.atStart⟩
end Jvm.Pilot.@@N@@
