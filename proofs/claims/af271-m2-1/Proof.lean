import JvmDerived
import JvmDerived.Pilot.@@N@@Statement
import JvmDerived.Pilot.@@N@@Code
set_option linter.unusedVariables false
set_option linter.unusedSimpArgs false
@@BLOCK:NumsL.lean.txt@@
namespace Jvm.Pilot.@@N@@
open Jvm Jvm.ClassFile Sem Op Lib Jvm.Free Jvm.Stand Jvm.LawKit Jvm.RoadKit Bundle Jvm.Pilot.@@N@@.Jvm.D
/-- from the state T with the frame g on top the method comes to its end, and Q holds there -/
def Goes (p : Program) (l : Launch) (e : Env) (R : Room) (s : State) (m : MethodId) (args : Array Value) (below : List Frame) (meth : Method) (c : Code) (Q : Option Value → Heap → List Loc → Prop) (T : State) (g : JFrame) : Prop :=
  ∃ (T' : State) (v : Option Value) (L : List Loc) (k n : Nat), Stand p l e R s m args below meth c T' L k n ∧ k ≤ R.cells ∧ n ≤ R.slots ∧ (meth.sig.returnType = none → v = none) ∧ Q v T'.heap L ∧
    ∀ fs, (∀ (f : JFrame) (acts : List Action), f.method = m → f.locked = none → f.entered = [] → (doReturn e (T'.setTop f) acts v).1 = T'.setFrames fs) → Steps p.tables e below (T.setTop g) (T'.setFrames fs)
section OwnGoes
variable {p : Program} {l : Launch} {e : Env} {R : Room} {s : State} {m : MethodId} {args : Array Value} {below : List Frame} {meth : Method} {c : Code} {Q : Option Value → Heap → List Loc → Prop} {T T2 : State} {g g2 : JFrame} {L : List Loc} {k n : Nat}
theorem Goes.step (st : ∀ target, Steps p.tables e below (T2.setTop g2) target → Steps p.tables e below (T.setTop g) target) (F : Goes p l e R s m args below meth c Q T2 g2) : Goes p l e R s m args below meth c Q T g := by
  obtain ⟨T', v, L, k, n, X, hk, hn, hv, hq, hs⟩ := F
  exact ⟨T', v, L, k, n, X, hk, hn, hv, hq, fun fs h => st _ (hs fs h)⟩
theorem Goes.cast (q : g = g2) (F : Goes p l e R s m args below meth c Q T g2) : Goes p l e R s m args below meth c Q T g := q ▸ F
theorem Goes.out {maxL : Nat} {s₁ : State} (hl : meth.locks = false) (F : Goes p l e R s m args below meth c Q s₁ (entryFrame m args maxL)) :
    ∃ s₂ o, Steps p.tables e below (s₁.setTop (entryFrame m args maxL)) s₂ ∧ s₂.status = .running ∧ Ended s₂ below o ∧ ∃ v L, o = .returned v ∧ Q v s₂.heap L ∧ FrameEnd s o s₂ L R.cells R.slots := by
  obtain ⟨T', v, L, k, n, X, hk, hn, hv, hq, hs⟩ := F
  obtain ⟨fs, hr, hrun, hended, hW, hsame⟩ := X.leave (v := v) hv hl
  exact ⟨_, _, hs fs hr, hrun, hended, v, L, rfl, hq, ⟨_, rfl⟩, hW, hsame.mono hk hn⟩
theorem Goes.ret {v : Option Value} (X : Stand p l e R s m args below meth c T L k n) (hk : k ≤ R.cells) (hn : n ≤ R.slots) (hv : meth.sig.returnType = none → v = none) (hq : Q v T.heap L)
    (hs : ∀ fs, (∀ (f : JFrame) (acts : List Action), f.method = m → f.locked = none → f.entered = [] → (doReturn e (T.setTop f) acts v).1 = T.setFrames fs) → Steps p.tables e below (T.setTop g) (T.setFrames fs)) : Goes p l e R s m args below meth c Q T g :=
  ⟨T, v, L, k, n, X, hk, hn, hv, hq, hs⟩
/-- the same where String constants may have been interned on the road -/
def GoesW (p : Program) (l : Launch) (e : Env) (R : Room) (s : State) (m : MethodId) (args : Array Value) (below : List Frame) (meth : Method) (c : Code) (Q : Option Value → Heap → List Loc → Prop) (T : State) (g : JFrame) : Prop :=
  ∃ (T' : State) (v : Option Value) (L : List Loc) (k n : Nat) (vm : Vm) (j : Nat), Stand p l e R (s.setVm vm) m args below meth c T' L k n ∧ s.Since vm j ∧ j ≤ T'.heap.size ∧ k ≤ R.cells ∧ n ≤ R.slots ∧ (meth.sig.returnType = none → v = none) ∧ Q v T'.heap L ∧
    ∀ fs, (∀ (f : JFrame) (acts : List Action), f.method = m → f.locked = none → f.entered = [] → (doReturn e (T'.setTop f) acts v).1 = T'.setFrames fs) → Steps p.tables e below (T.setTop g) (T'.setFrames fs)
theorem GoesW.step (st : ∀ target, Steps p.tables e below (T2.setTop g2) target → Steps p.tables e below (T.setTop g) target) (F : GoesW p l e R s m args below meth c Q T2 g2) : GoesW p l e R s m args below meth c Q T g := by
  obtain ⟨T', v, L, k, n, vm, j, X, hS, hj, hk, hn, hv, hq, hs⟩ := F
  exact ⟨T', v, L, k, n, vm, j, X, hS, hj, hk, hn, hv, hq, fun fs h => st _ (hs fs h)⟩
theorem GoesW.cast (q : g = g2) (F : GoesW p l e R s m args below meth c Q T g2) : GoesW p l e R s m args below meth c Q T g := q ▸ F
theorem GoesW.out {maxL : Nat} {s₁ : State} (hl : meth.locks = false) (F : GoesW p l e R s m args below meth c Q s₁ (entryFrame m args maxL)) :
    ∃ s₂ o, Steps p.tables e below (s₁.setTop (entryFrame m args maxL)) s₂ ∧ s₂.status = .running ∧ Ended s₂ below o ∧ ∃ v L, o = .returned v ∧ Q v s₂.heap L ∧ ReturnedEndW s o s₂ L R.cells R.slots := by
  obtain ⟨T', v, L, k, n, vm, j, X, hS, hj, hk, hn, hv, hq, hs⟩ := F
  obtain ⟨fs, hr, hrun, hended, h1, h2, h3, hsame⟩ := X.leaveW (v := v) hS hj hv hl
  exact ⟨_, _, hs fs hr, hrun, hended, v, L, rfl, hq, h1, h2, h3, hsame.mono hk hn⟩
theorem GoesW.ret {v : Option Value} {vm : Vm} {j : Nat} (X : Stand p l e R (s.setVm vm) m args below meth c T L k n) (hS : s.Since vm j) (hj : j ≤ T.heap.size) (hk : k ≤ R.cells) (hn : n ≤ R.slots) (hv : meth.sig.returnType = none → v = none) (hq : Q v T.heap L)
    (hs : ∀ fs, (∀ (f : JFrame) (acts : List Action), f.method = m → f.locked = none → f.entered = [] → (doReturn e (T.setTop f) acts v).1 = T.setFrames fs) → Steps p.tables e below (T.setTop g) (T.setFrames fs)) : GoesW p l e R s m args below meth c Q T g :=
  ⟨T, v, L, k, n, vm, j, X, hS, hj, hk, hn, hv, hq, hs⟩
theorem tw {a0 : Array Value} {Z : State} (hw : ∀ d ∈ tables_1, d.before a0 Z = true) (i : Nat) {d : Jvm.Cond} (h : tables_1[i]? = some d) : d.before a0 Z = true := hw d (List.mem_of_getElem? h)
theorem own_at {T : State} {h : Heap} {a : Addr} {c : Cell} (e : T.heap = h) (q : h[a]? = some c) : T.heap[a]? = some c := by rw [e]; exact q
theorem cmpL_self (x : Int64) : Jvm.Free.XT.cmpL x x = (0 : Int32) := by simp [Jvm.Free.XT.cmpL, Int64.lt_iff_toInt_lt]
theorem own_mvMN {Z s : State} {a0 args : Array Value} {own host : String} {index : Nat} {y : MethodName} (hZ : Z.Warmed39 s.vm) (w : (Jvm.Cond.methodLinkNest own index y host).before a0 Z = true) : (Jvm.Cond.methodLinkNest own index y host).before args s = true := (Cond.methodLinkNest_wide hZ w :)
end OwnGoes
theorem pd_0 : parseMethodDescriptor "()V" = some ⟨[], none⟩ := by decide +kernel
theorem pd_1 : parseMethodDescriptor "(I)V" = some ⟨[.int], none⟩ := by decide +kernel
theorem pd_2 : parseMethodDescriptor "(I)Ljava/lang/Integer;" = some ⟨[.int], some (.object "java/lang/Integer")⟩ := by decide +kernel
theorem pd_3 : parseMethodDescriptor "(Ljava/lang/Object;Ljava/lang/Object;)V" = some ⟨[(.object "java/lang/Object"), (.object "java/lang/Object")], none⟩ := by decide +kernel
theorem pd_4 : parseMethodDescriptor "()Z" = some ⟨[], some .boolean⟩ := by decide +kernel
theorem pd_5 : parseMethodDescriptor "()Ljava/lang/Object;" = some ⟨[], some (.object "java/lang/Object")⟩ := by decide +kernel
abbrev Y0 : MethodName := (⟨"java/lang/Record", "<init>", "()V"⟩ : MethodName)
abbrev Y1 : MethodName := (⟨"java/lang/Number", "<init>", "()V"⟩ : MethodName)
abbrev Y2 : MethodName := (⟨"java/lang/Integer", "<init>", "(I)V"⟩ : MethodName)
abbrev Y3 : MethodName := (⟨"java/lang/Integer", "valueOf", "(I)Ljava/lang/Integer;"⟩ : MethodName)
abbrev Y4 : MethodName := (⟨"com/example/libreconf/libreconf/pattern/Junction$State", "<init>", "(Ljava/lang/Object;Ljava/lang/Object;)V"⟩ : MethodName)
abbrev Y5 : MethodName := (⟨"com/example/libreconf/libreconf/pattern/Junction$State", "settled", "()Z"⟩ : MethodName)
abbrev Y6 : MethodName := (⟨"com/example/libreconf/libreconf/pattern/Junction$State", "left", "()Ljava/lang/Object;"⟩ : MethodName)
abbrev Y7 : MethodName := (⟨"com/example/libreconf/libreconf/pattern/Junction$State", "right", "()Ljava/lang/Object;"⟩ : MethodName)
theorem own_ix {x : Int32} (h1 : ¬ (x < (-128 : Int32))) (h2 : ¬ ((127 : Int32) < x)) : (x + (128 : Int32)).toInt = x.toInt + 128 ∧ -128 ≤ x.toInt ∧ x.toInt ≤ 127 := by
  rw [Int32.lt_iff_toInt_lt] at h1 h2
  have a1 : (-128 : Int32).toInt = -128 := by decide
  have a2 : (127 : Int32).toInt = 127 := by decide
  have a3 : (128 : Int32).toInt = 128 := by decide
  have e := Jvm.Kit.i32_add (p := x) (q := 128) (by omega) (by omega)
  omega
theorem own_ixin {x : Int32} {n : Nat} (h1 : ¬ (x < (-128 : Int32))) (h2 : ¬ ((127 : Int32) < x)) (hn : n = 256) : ¬ (x + (128 : Int32) < 0 ∨ n ≤ (x + (128 : Int32)).toNatClampNeg) := by
  have := own_ix h1 h2
  rw [Int32.lt_iff_toInt_lt]
  have a0 : (0 : Int32).toInt = 0 := by decide
  simp only [Int32.toNatClampNeg]
  omega
theorem own_cell {s : State} {args : Array Value} {t : Term} {a : Addr} {cl : Cell} {ty : FieldType} (ev : t.eval args s none [] s = some (.ref a)) (A : Arr s s.heap a cl ty) (hl : (Jvm.Cond.eq (.length t) (.int 256)).value args s none s [] = some true) :
    cl.slots.size = 256 ∧ s.arrayAt? a = some cl := by
  obtain ⟨x', y', e1, e2, k1, k2⟩ := cmp_v (Or.inl hl)
  have e3 : y' = .int 256 := (Option.some.inj ((Term.int_eval 256).symm.trans e2)).symm
  subst e3
  obtain ⟨z, rfl⟩ := k2
  have e4 : z = 256 := by
    simp only [Cond.value, e1, e2] at hl
    simpa using hl
  subst e4
  have h0 : s.arrayAt? a = some cl := A.fin (Vm.Alike.refl _)
  have e5 := e1
  simp only [Term.eval, ev, h0, Option.bind_eq_bind, Option.bind_some] at e5
  have h31 : cl.slots.size < 2 ^ 31 ∧ cl.slots.size.toInt32 = 256 := by
    split at e5
    · rename_i hq
      exact ⟨hq, by simpa using e5⟩
    · simp at e5
  have e6 := congrArg Int32.toInt h31.2
  rw [len_toInt h31.1] at e6
  have : (256 : Int32).toInt = 256 := by decide
  exact ⟨by omega, h0⟩
theorem own_elems {s : State} {args : Array Value} {t : Term} {a : Addr} {cl : Cell} {K : String} {c2 : Jvm.Cond} (ev : t.eval args s none [] s = some (.ref a)) (ev2 : ∀ i, t.eval args s none [i] s = some (.ref a)) (h0 : s.arrayAt? a = some cl) (hs : cl.slots.size = 256)
    (ha : (Jvm.Cond.all t (.and (.exactly (.elem t (.index 0)) K) c2)).value args s none s [] = some true) : ∀ i : Nat, i < 256 → ∃ y : Addr, cl.slots[i]? = some (.ref y) := by
  intro i hi
  have h1 := Cond.all_elim ev h0 ha i (by omega)
  obtain ⟨y, hy⟩ := exa_v (and_e h1).1
  refine ⟨y, ?_⟩
  have e3 : (Nat.toInt32 i).toNatClampNeg = i := by
    simp only [Int32.toNatClampNeg, len_toInt (show i < 2 ^ 31 by omega)]; rfl
  have hn : ¬ (Nat.toInt32 i < 0) := by
    rw [Int32.lt_iff_toInt_lt, len_toInt (show i < 2 ^ 31 by omega)]
    have a0 : (0 : Int32).toInt = 0 := by decide
    omega
  have e2 : (Term.index 0).eval args s none [i] s = some (.int (Nat.toInt32 i)) := Term.index_eval _
  rw [elem_f (ev2 i) e2 h0 hn, e3] at hy
  exact hy
theorem own_stat {s : State} {args : Array Value} {t : Term} {k : Int32} (h : (Jvm.Cond.eq t (.int k)).value args s none s [] = some true) : t.eval args s none [] s = some (.int k) := by
  obtain ⟨x', y', e1, e2, k1, k2⟩ := cmp_v (Or.inl h)
  have e3 : y' = .int k := (Option.some.inj ((Term.int_eval k).symm.trans e2)).symm
  subst e3
  obtain ⟨z, rfl⟩ := k2
  have e4 : z = k := by
    simp only [Cond.value, e1, e2] at h
    simpa using h
  subst e4
  exact e1
theorem d0_0 : decode jdk_30_method_1_code 0 = .ok (.aload_n 0, 1) := by decide +kernel
theorem d0_1 : decode jdk_30_method_1_code 1 = .ok (.invokespecial 1, 3) := by decide +kernel
theorem d0_4 : decode jdk_30_method_1_code 4 = .ok (.return_, 1) := by decide +kernel
theorem pn_java_lang_Record : plainName "java/lang/Record" = true := by first | (simp [plainName, overriddenIn]; done) | decide +kernel
def Q_rm_rec (Z : State) (a1 : Addr) (h0 : Heap) (n0 : Nat) (v : Option Value) (h : Heap) (L : List Loc) : Prop := v = none ∧ Fr n0 L ∧ h = h0
set_option maxRecDepth 65536 in
set_option maxHeartbeats 40000000 in
theorem rm_rec (l : Launch) (Z : State) (a0 : Array Value) (hw : ∀ d ∈ tables_1, d.before a0 Z = true) (ws : List Jvm.Cond) (a1 : Addr) (h0 : Heap) (n0 : Nat) (Z0 : n0 ≤ h0.size) (O0 : Old Z n0 h0) :
    MetFree l Y0 (head1 (Jvm.Cond.code Y0 jdk_30_method_1_code 1 none :: ws) ({ frames := 1, cells := 0, slots := 0, locals := 12 } : Room)) (fun a U => a = #[(.ref a1)] ∧ Z.Warmed39 U.vm ∧ U.heap = h0) (fun _ _ _ _ _ => True) (fun _ U o U' => ∃ v L, o = .returned v ∧ Q_rm_rec Z a1 h0 n0 v U'.heap L ∧ FrameEnd U o U' L ({ frames := 1, cells := 0, slots := 0, locals := 12 } : Room).cells ({ frames := 1, cells := 0, slots := 0, locals := 12 } : Room).slots) := by
  refine MetFree.of_bodySF (plainFor_of_name pn_java_lang_Record) hisR ?_
  intro p e s m args below meth c s₁ Bd hml0 hP hK
  obtain ⟨rfl, hZ, hh⟩ := hP
  have hx := Bd.exec
  have hby := Bd.bytes
  have hml : c.maxLocals = 1 := hml0
  have hown : s.vm.findClass "java/lang/Record" = some m.cls := findClass_of_methodNamed Bd.named
  have hnm := (name_of_methodNamed Bd.named Bd.method).1
  have X0 : Stand p l e ({ frames := 1, cells := 0, slots := 0, locals := 12 } : Room) s m #[(.ref a1)] below meth c s₁ [] 0 0 := Stand.of_body Bd
  have e0 : s₁.heap = h0 := by rw [← hh, Bd.state]; rfl
  have N0 := Fr.nil n0
  refine Goes.out (l := l) (c := c) (R := ({ frames := 1, cells := 0, slots := 0, locals := 12 } : Room)) (Q := Q_rm_rec Z a1 h0 n0) Bd.notSynchronized ?_
  refine Goes.cast (g2 := mkF m 0 #[rv a1] []) (by first | (simp [entryFrame, mkF, argsToLocals, Value.category]; done) | rfl) ?_
  have K0 : Keep h0 h0 [] := Keep.refl h0 _
  have hws : ∀ x ∈ ([] : List Addr), n0 ≤ x := all0
  refine Goes.step (T2 := s₁) (g2 := (mkF m 1 #[rv a1] [(.ref a1)])) (fun _ hr => XS.aloadN X0.here hx rfl (hb hby d0_0) rfl rfl hr) ?_
  have Zs1 : n0 ≤ h0.size := Nat.le_trans Z0 K0.1
  obtain ⟨T2, X2, e2, st2⟩ := initO X0 hx hZ hown (tw hw 18 rfl) (tw hw 19 rfl) (tw hw 20 rfl) e0 (g := (mkF m 1 #[rv a1] [(.ref a1)])) rfl (by rw [hml]; rfl) rfl (hb hby d0_1) (by decide) (W := 0) (by show 2 * 0 + _ ≤ _; exact Nat.le_of_eq rfl) (by decide)
  refine Goes.step (T2 := T2) (g2 := (mkF m 4 #[rv a1] [])) st2 ?_
  exact Goes.ret (v := none) X2 (by decide) (by decide) (fun _ => rfl) ⟨rfl, N0, e2⟩ (fun fs hr => X2.returnOut hx Bd.returns (hb hby d0_4) hr)
theorem d1_0 : decode jdk_18_method_1_code 0 = .ok (.aload_n 0, 1) := by decide +kernel
theorem d1_1 : decode jdk_18_method_1_code 1 = .ok (.invokespecial 1, 3) := by decide +kernel
theorem d1_4 : decode jdk_18_method_1_code 4 = .ok (.return_, 1) := by decide +kernel
theorem pn_java_lang_Number : plainName "java/lang/Number" = true := by first | (simp [plainName, overriddenIn]; done) | decide +kernel
def Q_rm_num (Z : State) (a1 : Addr) (h0 : Heap) (n0 : Nat) (v : Option Value) (h : Heap) (L : List Loc) : Prop := v = none ∧ Fr n0 L ∧ h = h0
set_option maxRecDepth 65536 in
set_option maxHeartbeats 40000000 in
theorem rm_num (l : Launch) (Z : State) (a0 : Array Value) (hw : ∀ d ∈ tables_1, d.before a0 Z = true) (ws : List Jvm.Cond) (a1 : Addr) (h0 : Heap) (n0 : Nat) (Z0 : n0 ≤ h0.size) (O0 : Old Z n0 h0) :
    MetFree l Y1 (head1 (Jvm.Cond.code Y1 jdk_18_method_1_code 1 none :: ws) ({ frames := 1, cells := 0, slots := 0, locals := 12 } : Room)) (fun a U => a = #[(.ref a1)] ∧ Z.Warmed39 U.vm ∧ U.heap = h0) (fun _ _ _ _ _ => True) (fun _ U o U' => ∃ v L, o = .returned v ∧ Q_rm_num Z a1 h0 n0 v U'.heap L ∧ FrameEnd U o U' L ({ frames := 1, cells := 0, slots := 0, locals := 12 } : Room).cells ({ frames := 1, cells := 0, slots := 0, locals := 12 } : Room).slots) := by
  refine MetFree.of_bodySF (plainFor_of_name pn_java_lang_Number) hisR ?_
  intro p e s m args below meth c s₁ Bd hml0 hP hK
  obtain ⟨rfl, hZ, hh⟩ := hP
  have hx := Bd.exec
  have hby := Bd.bytes
  have hml : c.maxLocals = 1 := hml0
  have hown : s.vm.findClass "java/lang/Number" = some m.cls := findClass_of_methodNamed Bd.named
  have hnm := (name_of_methodNamed Bd.named Bd.method).1
  have X0 : Stand p l e ({ frames := 1, cells := 0, slots := 0, locals := 12 } : Room) s m #[(.ref a1)] below meth c s₁ [] 0 0 := Stand.of_body Bd
  have e0 : s₁.heap = h0 := by rw [← hh, Bd.state]; rfl
  have N0 := Fr.nil n0
  refine Goes.out (l := l) (c := c) (R := ({ frames := 1, cells := 0, slots := 0, locals := 12 } : Room)) (Q := Q_rm_num Z a1 h0 n0) Bd.notSynchronized ?_
  refine Goes.cast (g2 := mkF m 0 #[rv a1] []) (by first | (simp [entryFrame, mkF, argsToLocals, Value.category]; done) | rfl) ?_
  have K0 : Keep h0 h0 [] := Keep.refl h0 _
  have hws : ∀ x ∈ ([] : List Addr), n0 ≤ x := all0
  refine Goes.step (T2 := s₁) (g2 := (mkF m 1 #[rv a1] [(.ref a1)])) (fun _ hr => XS.aloadN X0.here hx rfl (hb hby d1_0) rfl rfl hr) ?_
  have Zs3 : n0 ≤ h0.size := Nat.le_trans Z0 K0.1
  obtain ⟨T4, X4, e4, st4⟩ := initO X0 hx hZ hown (tw hw 52 rfl) (tw hw 19 rfl) (tw hw 20 rfl) e0 (g := (mkF m 1 #[rv a1] [(.ref a1)])) rfl (by rw [hml]; rfl) rfl (hb hby d1_1) (by decide) (W := 0) (by show 2 * 0 + _ ≤ _; exact Nat.le_of_eq rfl) (by decide)
  refine Goes.step (T2 := T4) (g2 := (mkF m 4 #[rv a1] [])) st4 ?_
  exact Goes.ret (v := none) X4 (by decide) (by decide) (fun _ => rfl) ⟨rfl, N0, e4⟩ (fun fs hr => X4.returnOut hx Bd.returns (hb hby d1_4) hr)
theorem d2_0 : decode jdk_33_method_23_code 0 = .ok (.aload_n 0, 1) := by decide +kernel
theorem d2_1 : decode jdk_33_method_23_code 1 = .ok (.invokespecial 202, 3) := by decide +kernel
theorem d2_4 : decode jdk_33_method_23_code 4 = .ok (.aload_n 0, 1) := by decide +kernel
theorem d2_5 : decode jdk_33_method_23_code 5 = .ok (.iload_n 1, 1) := by decide +kernel
theorem d2_6 : decode jdk_33_method_23_code 6 = .ok (.putfield 205, 3) := by decide +kernel
theorem d2_9 : decode jdk_33_method_23_code 9 = .ok (.return_, 1) := by decide +kernel
theorem pn_java_lang_Integer : plainName "java/lang/Integer" = true := by first | (simp [plainName, overriddenIn]; done) | decide +kernel
def Q_rm_int (Z : State) (a1 : Addr) (p1 : Int32) (h0 : Heap) (n0 : Nat) (v : Option Value) (h : Heap) (L : List Loc) : Prop := v = none ∧ Fr n0 L ∧ Keep h0 h [a1]
set_option maxRecDepth 65536 in
set_option maxHeartbeats 40000000 in
theorem rm_int (l : Launch) (Z : State) (a0 : Array Value) (hw : ∀ d ∈ tables_1, d.before a0 Z = true) (ws : List Jvm.Cond) (a1 : Addr) (p1 : Int32) (h0 : Heap) (n0 : Nat) (Z0 : n0 ≤ h0.size) (O0 : Old Z n0 h0) (E_a1 : Exa Z h0 a1 "java/lang/Integer") (F_a1_value : Fld Z h0 a1 "java/lang/Integer" "value" "I" (.int (0 : Int32))) (ge_a1 : n0 ≤ a1) :
    MetFree l Y2 (head1 (Jvm.Cond.code Y2 jdk_33_method_23_code 2 none :: ws) ({ frames := 2, cells := 0, slots := 0, locals := 24 } : Room)) (fun a U => a = #[(.ref a1), (.int p1)] ∧ Z.Warmed39 U.vm ∧ U.heap = h0) (fun _ _ _ _ _ => True) (fun _ U o U' => ∃ v L, o = .returned v ∧ Q_rm_int Z a1 p1 h0 n0 v U'.heap L ∧ FrameEnd U o U' L ({ frames := 2, cells := 0, slots := 0, locals := 24 } : Room).cells ({ frames := 2, cells := 0, slots := 0, locals := 24 } : Room).slots) := by
  refine MetFree.of_bodySF (plainFor_of_name pn_java_lang_Integer) hisR ?_
  intro p e s m args below meth c s₁ Bd hml0 hP hK
  obtain ⟨rfl, hZ, hh⟩ := hP
  have hx := Bd.exec
  have hby := Bd.bytes
  have hml : c.maxLocals = 2 := hml0
  have hown : s.vm.findClass "java/lang/Integer" = some m.cls := findClass_of_methodNamed Bd.named
  have hnm := (name_of_methodNamed Bd.named Bd.method).1
  have X0 : Stand p l e ({ frames := 2, cells := 0, slots := 0, locals := 24 } : Room) s m #[(.ref a1), (.int p1)] below meth c s₁ [] 0 0 := Stand.of_body Bd
  have e0 : s₁.heap = h0 := by rw [← hh, Bd.state]; rfl
  have N0 := Fr.nil n0
  refine Goes.out (l := l) (c := c) (R := ({ frames := 2, cells := 0, slots := 0, locals := 24 } : Room)) (Q := Q_rm_int Z a1 p1 h0 n0) Bd.notSynchronized ?_
  refine Goes.cast (g2 := mkF m 0 #[rv a1, iv p1] []) (by first | (simp [entryFrame, mkF, argsToLocals, Value.category]; done) | rfl) ?_
  have K0 : Keep h0 h0 [a1] := Keep.refl h0 _
  have hws : ∀ x ∈ [a1], n0 ≤ x := (allS ge_a1 all0)
  refine Goes.step (T2 := s₁) (g2 := (mkF m 1 #[rv a1, iv p1] [(.ref a1)])) (fun _ hr => XS.aloadN X0.here hx rfl (hb hby d2_0) rfl rfl hr) ?_
  have Zs5 : n0 ≤ h0.size := Nat.le_trans Z0 K0.1
  obtain ⟨_, _, ⟨T6, L6, k6, n6⟩, -, X6, ⟨Lc6, hQ6, l6, y6, z6⟩, st6⟩ := X0.specialBack hx (y := Y1) rfl hown (mvT hZ (tw hw 46 rfl)) (mvT hZ (tw hw 47 rfl)) (mvT hZ (tw hw 51 rfl)) (by decide) (backOf (W := 0) (rm_num l Z a0 hw [] a1 h0 n0 Zs5 (Old.keep O0 K0 hws)) hZ (tw hw 51 rfl) (tw hw 50 rfl) (by decide) (by decide)) (g := (mkF m 1 #[rv a1, iv p1] [(.ref a1)])) rfl (by rw [hml]; rfl) (Steps.refl _) (a := a1) (argsL := []) (rest := []) (lenOf pd_0 rfl) rfl (by show 2 * 0 + _ ≤ _; exact Nat.le_of_eq rfl) (hb hby d2_1) (fun _ _ => ⟨rfl, e0, (by decide : 0 + 0 ≤ _), (by decide : 0 + 0 ≤ _)⟩)
  dsimp only [Pt.U, Pt.locs, Pt.cells, Pt.slots] at X6 l6 y6 z6 st6 hQ6
  subst l6 y6 z6
  obtain ⟨rfl, N6q, e6⟩ := hQ6
  have N6 := Fr.app N0 N6q
  refine Goes.step (T2 := T6) (g2 := (mkF m 4 #[rv a1, iv p1] [])) (fun _ hr => st6.trans hr) ?_
  refine Goes.step (T2 := T6) (g2 := (mkF m 5 #[rv a1, iv p1] [(.ref a1)])) (fun _ hr => XS.aloadN X6.here hx rfl (hb hby d2_4) rfl rfl hr) ?_
  refine Goes.step (T2 := T6) (g2 := (mkF m 6 #[rv a1, iv p1] [(.int p1), (.ref a1)])) (fun _ hr => XS.iloadN X6.here hx rfl (hb hby d2_5) rfl  hr) ?_
  obtain ⟨T7, h7, X7, e7, W7, st7⟩ := putF X6 hx hZ hown (host := "") (Or.inl (tw hw 53 rfl)) Via.refl e6 F_a1_value E_a1 (Or.inr ⟨(tw hw 54 rfl), rfl, hnm⟩) (tw hw 41 rfl) (ty := .int) (by decide) rfl rfl (g := (mkF m 6 #[rv a1, iv p1] [(.int p1), (.ref a1)])) rfl rfl (hb hby d2_6)
  have E_a1_7 : Exa Z h7 a1 "java/lang/Integer" := E_a1.wr W7
  have K7 : Keep h0 h7 [a1] := K0.wr W7 (Or.inl (List.mem_of_getElem? (i := 0) rfl))
  have N7 := Fr.snoc X7 N6 ge_a1
  have F_a1_value_7 : Fld Z h7 a1 "java/lang/Integer" "value" "I" (.int p1) := F_a1_value.same W7
  refine Goes.step (T2 := T7) (g2 := (mkF m 9 #[rv a1, iv p1] [])) st7 ?_
  exact Goes.ret (v := none) X7 (by decide) (by decide) (fun _ => rfl) (by show Q_rm_int Z a1 p1 h0 n0 _ T7.heap _; rw [e7]; exact ⟨rfl, N7, K7⟩) (fun fs hr => X7.returnOut hx Bd.returns (hb hby d2_9) hr)
theorem d3_0 : decode jdk_33_method_22_code 0 = .ok (.iload_n 0, 1) := by decide +kernel
theorem d3_1 : decode jdk_33_method_22_code 1 = .ok (.bipush (-128), 2) := by decide +kernel
theorem d3_3 : decode jdk_33_method_22_code 3 = .ok (.if_icmp .lt 20, 3) := by decide +kernel
theorem d3_6 : decode jdk_33_method_22_code 6 = .ok (.iload_n 0, 1) := by decide +kernel
theorem d3_7 : decode jdk_33_method_22_code 7 = .ok (.getstatic 191, 3) := by decide +kernel
theorem d3_10 : decode jdk_33_method_22_code 10 = .ok (.if_icmp .gt 13, 3) := by decide +kernel
theorem d3_13 : decode jdk_33_method_22_code 13 = .ok (.getstatic 195, 3) := by decide +kernel
theorem d3_16 : decode jdk_33_method_22_code 16 = .ok (.iload_n 0, 1) := by decide +kernel
theorem d3_17 : decode jdk_33_method_22_code 17 = .ok (.sipush 128, 3) := by decide +kernel
theorem d3_20 : decode jdk_33_method_22_code 20 = .ok (.iadd, 1) := by decide +kernel
theorem d3_21 : decode jdk_33_method_22_code 21 = .ok (.aaload, 1) := by decide +kernel
theorem d3_22 : decode jdk_33_method_22_code 22 = .ok (.areturn, 1) := by decide +kernel
theorem d3_23 : decode jdk_33_method_22_code 23 = .ok (.new 1, 3) := by decide +kernel
theorem d3_26 : decode jdk_33_method_22_code 26 = .ok (.dup, 1) := by decide +kernel
theorem d3_27 : decode jdk_33_method_22_code 27 = .ok (.iload_n 0, 1) := by decide +kernel
theorem d3_28 : decode jdk_33_method_22_code 28 = .ok (.invokespecial 199, 3) := by decide +kernel
theorem d3_31 : decode jdk_33_method_22_code 31 = .ok (.areturn, 1) := by decide +kernel
def Q_rm_vo (Z : State) (p1 : Int32) (ca : Addr) (cl : Cell) (h0 : Heap) (n0 : Nat) (v : Option Value) (h : Heap) (L : List Loc) : Prop := ∃ w : Addr, v = some (.ref w) ∧ Fr n0 L ∧ Keep h0 h []
set_option maxRecDepth 65536 in
set_option maxHeartbeats 40000000 in
theorem rm_vo (l : Launch) (Z : State) (a0 : Array Value) (hw : ∀ d ∈ tables_1, d.before a0 Z = true) (ws : List Jvm.Cond) (p1 : Int32) (ca : Addr) (cl : Cell) (h0 : Heap) (n0 : Nat) (Z0 : n0 ≤ h0.size) (O0 : Old Z n0 h0) (S_Integer_IntegerCache_high_old : Sta Z Z.heap "java/lang/Integer$IntegerCache" "high" "I" (.int (127 : Int32))) (S_Integer_IntegerCache_cache_old : Sta Z Z.heap "java/lang/Integer$IntegerCache" "cache" "[Ljava/lang/Integer;" (.ref ca)) (Ar_ca : Arr Z Z.heap ca cl (.object "java/lang/Integer")) (sz_cl : cl.slots.size = 256) (el_cl : ∀ i : Nat, i < 256 → ∃ y : Addr, cl.slots[i]? = some (.ref y)) :
    MetFree l Y3 (head1 (Jvm.Cond.code Y3 jdk_33_method_22_code 1 (some (.object "java/lang/Integer")) :: ws) ({ frames := 3, cells := 1, slots := 1, locals := 38 } : Room)) (fun a U => a = #[(.int p1)] ∧ Z.Warmed39 U.vm ∧ U.heap = h0) (fun _ _ _ _ _ => True) (fun _ U o U' => ∃ v L, o = .returned v ∧ Q_rm_vo Z p1 ca cl h0 n0 v U'.heap L ∧ FrameEnd U o U' L ({ frames := 3, cells := 1, slots := 1, locals := 38 } : Room).cells ({ frames := 3, cells := 1, slots := 1, locals := 38 } : Room).slots) := by
  refine MetFree.of_bodySF (plainFor_of_name pn_java_lang_Integer) hisR ?_
  intro p e s m args below meth c s₁ Bd hml0 hP hK
  obtain ⟨rfl, hZ, hh⟩ := hP
  have hx := Bd.exec
  have hby := Bd.bytes
  have hml : c.maxLocals = 1 := hml0
  have hown : s.vm.findClass "java/lang/Integer" = some m.cls := findClass_of_methodNamed Bd.named
  have hnm := (name_of_methodNamed Bd.named Bd.method).1
  have X0 : Stand p l e ({ frames := 3, cells := 1, slots := 1, locals := 38 } : Room) s m #[(.int p1)] below meth c s₁ [] 0 0 := Stand.of_body Bd
  have e0 : s₁.heap = h0 := by rw [← hh, Bd.state]; rfl
  have N0 := Fr.nil n0
  refine Goes.out (l := l) (c := c) (R := ({ frames := 3, cells := 1, slots := 1, locals := 38 } : Room)) (Q := Q_rm_vo Z p1 ca cl h0 n0) Bd.notSynchronized ?_
  refine Goes.cast (g2 := mkF m 0 #[iv p1] []) (by first | (simp [entryFrame, mkF, argsToLocals, Value.category]; done) | rfl) ?_
  have K0 : Keep h0 h0 [] := Keep.refl h0 _
  have hws : ∀ x ∈ ([] : List Addr), n0 ≤ x := all0
  refine Goes.step (T2 := s₁) (g2 := (mkF m 1 #[iv p1] [(.int p1)])) (fun _ hr => XS.iloadN X0.here hx rfl (hb hby d3_0) rfl  hr) ?_
  refine Goes.step (T2 := s₁) (g2 := (mkF m 3 #[iv p1] [(.int (-128 : Int32)), (.int p1)])) (fun _ hr => XS.bipush X0.here hx rfl (hb hby d3_1) hr) ?_
  by_cases hc3_8 : p1 < (-128 : Int32)
  · refine Goes.step (T2 := s₁) (g2 := (mkF m 23 #[iv p1] [])) (fun _ hr => XS.icmpYes X0.here hx rfl (pc0 := 3) (pc' := 23) rfl (hb hby d3_3) rfl (tlt hc3_8).1 (by decide) (by decide) hr) ?_
    obtain ⟨T9, h9, X9, e9, E9, A9, D9, -, st9⟩ := newO X0 hx hZ hown (tw hw 40 rfl) (tw hw 41 rfl) (tw hw 2 rfl) e0 (g := (mkF m 23 #[iv p1] [])) rfl (hb hby d3_23) (by decide) (by decide)
    obtain ⟨b9, g9⟩ : ∃ z, z = h0.size := ⟨_, rfl⟩
    rw [← g9] at A9 D9 st9
    have sz_b9 : h0.size ≤ b9 := Nat.le_trans K0.1 (Nat.le_of_eq g9.symm)
    have ge_b9 : n0 ≤ b9 := Nat.le_trans Z0 sz_b9
    have K9 : Keep h0 h9 [] := K0.ext E9
    have F_b9_value_9 : Fld Z h9 b9 "java/lang/Integer" "value" "I" (.int (0 : Int32)) := D9 (Or.inr (tw hw 54 rfl)) (ty := .int) (by decide)
    refine Goes.step (T2 := T9) (g2 := (mkF m 26 #[iv p1] [(.ref b9)])) st9 ?_
    refine Goes.step (T2 := T9) (g2 := (mkF m 27 #[iv p1] [(.ref b9), (.ref b9)])) (fun _ hr => XS.dup X9.here hx rfl (hb hby d3_26) rfl rfl hr) ?_
    refine Goes.step (T2 := T9) (g2 := (mkF m 28 #[iv p1] [(.int p1), (.ref b9), (.ref b9)])) (fun _ hr => XS.iloadN X9.here hx rfl (hb hby d3_27) rfl  hr) ?_
    have Zs10 : n0 ≤ h9.size := Nat.le_trans Z0 K9.1
    obtain ⟨_, _, ⟨T11, L11, k11, n11⟩, -, X11, ⟨Lc11, hQ11, l11, y11, z11⟩, st11⟩ := X9.specialBack hx (y := Y2) rfl hown (mvT hZ (tw hw 42 rfl)) (mvT hZ (tw hw 43 rfl)) (mvT hZ (tw hw 45 rfl)) (by decide) (backOf (W := 1) (rm_int l Z a0 hw [] b9 p1 h9 n0 Zs10 (Old.keep O0 K9 hws) A9 F_b9_value_9 ge_b9) hZ (tw hw 45 rfl) (tw hw 2 rfl) (by decide) (by decide)) (g := (mkF m 28 #[iv p1] [(.int p1), (.ref b9), (.ref b9)])) rfl (by rw [hml]; rfl) (Steps.refl _) (a := b9) (argsL := [(.int p1)]) (rest := [(.ref b9)]) (lenOf pd_1 rfl) rfl (by show 2 * 0 + _ ≤ _; exact Nat.le_of_eq rfl) (hb hby d3_28) (fun _ _ => ⟨rfl, e9, (by decide : 1 + 0 ≤ _), (by decide : 1 + 0 ≤ _)⟩)
    dsimp only [Pt.U, Pt.locs, Pt.cells, Pt.slots] at X11 l11 y11 z11 st11 hQ11
    subst l11 y11 z11
    obtain ⟨rfl, N11q, Kc11⟩ := hQ11
    have N11 := Fr.app N0 N11q
    have E_b9_11 : Exa Z T11.heap b9 "java/lang/Integer" := A9.keep Kc11
    have K11 : Keep h0 T11.heap [] := K9.trans Kc11 (allS (Or.inr sz_b9) all0)
    refine Goes.step (T2 := T11) (g2 := (mkF m 31 #[iv p1] [(.ref b9)])) (fun _ hr => st11.trans hr) ?_
    exact Goes.ret (v := some (.ref b9)) X11 (by decide) (by decide) (fun h => by rw [Bd.returns] at h; cases h) (by show Q_rm_vo Z p1 ca cl h0 n0 _ T11.heap _; exact ⟨b9, rfl, N11, K11⟩) (fun fs hr => retOut X11 hx Bd.returns rfl (Or.inr (Or.inr (Or.inr (Or.inr ⟨rfl, rfl, rfl⟩)))) (hb hby d3_31) hr)
  · refine Goes.step (T2 := s₁) (g2 := (mkF m 6 #[iv p1] [])) (fun _ hr => XS.icmpNo X0.here hx rfl (hb hby d3_3) rfl (flt hc3_8).1 hr) ?_
    refine Goes.step (T2 := s₁) (g2 := (mkF m 7 #[iv p1] [(.int p1)])) (fun _ hr => XS.iloadN X0.here hx rfl (hb hby d3_6) rfl  hr) ?_
    obtain ⟨T12, X12, e12, st12⟩ := getS2 X0 hx hZ hown (host := "") (Or.inl (tw hw 4 rfl)) Via.refl e0 (S_Integer_IntegerCache_high_old.ext (Old.keep O0 K0 hws).2) (g := (mkF m 7 #[iv p1] [(.int p1)])) rfl (hb hby d3_7)
    refine Goes.step (T2 := T12) (g2 := (mkF m 10 #[iv p1] [(.int (127 : Int32)), (.int p1)])) st12 ?_
    by_cases hc10_13 : (127 : Int32) < p1
    · refine Goes.step (T2 := T12) (g2 := (mkF m 23 #[iv p1] [])) (fun _ hr => XS.icmpYes X12.here hx rfl (pc0 := 10) (pc' := 23) rfl (hb hby d3_10) rfl (tlt hc10_13).2.2.1 (by decide) (by decide) hr) ?_
      obtain ⟨T14, h14, X14, e14, E14, A14, D14, -, st14⟩ := newO X12 hx hZ hown (tw hw 40 rfl) (tw hw 41 rfl) (tw hw 2 rfl) e12 (g := (mkF m 23 #[iv p1] [])) rfl (hb hby d3_23) (by decide) (by decide)
      obtain ⟨b14, g14⟩ : ∃ z, z = h0.size := ⟨_, rfl⟩
      rw [← g14] at A14 D14 st14
      have sz_b14 : h0.size ≤ b14 := Nat.le_trans K0.1 (Nat.le_of_eq g14.symm)
      have ge_b14 : n0 ≤ b14 := Nat.le_trans Z0 sz_b14
      have K14 : Keep h0 h14 [] := K0.ext E14
      have F_b14_value_14 : Fld Z h14 b14 "java/lang/Integer" "value" "I" (.int (0 : Int32)) := D14 (Or.inr (tw hw 54 rfl)) (ty := .int) (by decide)
      refine Goes.step (T2 := T14) (g2 := (mkF m 26 #[iv p1] [(.ref b14)])) st14 ?_
      refine Goes.step (T2 := T14) (g2 := (mkF m 27 #[iv p1] [(.ref b14), (.ref b14)])) (fun _ hr => XS.dup X14.here hx rfl (hb hby d3_26) rfl rfl hr) ?_
      refine Goes.step (T2 := T14) (g2 := (mkF m 28 #[iv p1] [(.int p1), (.ref b14), (.ref b14)])) (fun _ hr => XS.iloadN X14.here hx rfl (hb hby d3_27) rfl  hr) ?_
      have Zs15 : n0 ≤ h14.size := Nat.le_trans Z0 K14.1
      obtain ⟨_, _, ⟨T16, L16, k16, n16⟩, -, X16, ⟨Lc16, hQ16, l16, y16, z16⟩, st16⟩ := X14.specialBack hx (y := Y2) rfl hown (mvT hZ (tw hw 42 rfl)) (mvT hZ (tw hw 43 rfl)) (mvT hZ (tw hw 45 rfl)) (by decide) (backOf (W := 1) (rm_int l Z a0 hw [] b14 p1 h14 n0 Zs15 (Old.keep O0 K14 hws) A14 F_b14_value_14 ge_b14) hZ (tw hw 45 rfl) (tw hw 2 rfl) (by decide) (by decide)) (g := (mkF m 28 #[iv p1] [(.int p1), (.ref b14), (.ref b14)])) rfl (by rw [hml]; rfl) (Steps.refl _) (a := b14) (argsL := [(.int p1)]) (rest := [(.ref b14)]) (lenOf pd_1 rfl) rfl (by show 2 * 0 + _ ≤ _; exact Nat.le_of_eq rfl) (hb hby d3_28) (fun _ _ => ⟨rfl, e14, (by decide : 1 + 0 ≤ _), (by decide : 1 + 0 ≤ _)⟩)
      dsimp only [Pt.U, Pt.locs, Pt.cells, Pt.slots] at X16 l16 y16 z16 st16 hQ16
      subst l16 y16 z16
      obtain ⟨rfl, N16q, Kc16⟩ := hQ16
      have N16 := Fr.app N0 N16q
      have E_b14_16 : Exa Z T16.heap b14 "java/lang/Integer" := A14.keep Kc16
      have K16 : Keep h0 T16.heap [] := K14.trans Kc16 (allS (Or.inr sz_b14) all0)
      refine Goes.step (T2 := T16) (g2 := (mkF m 31 #[iv p1] [(.ref b14)])) (fun _ hr => st16.trans hr) ?_
      exact Goes.ret (v := some (.ref b14)) X16 (by decide) (by decide) (fun h => by rw [Bd.returns] at h; cases h) (by show Q_rm_vo Z p1 ca cl h0 n0 _ T16.heap _; exact ⟨b14, rfl, N16, K16⟩) (fun fs hr => retOut X16 hx Bd.returns rfl (Or.inr (Or.inr (Or.inr (Or.inr ⟨rfl, rfl, rfl⟩)))) (hb hby d3_31) hr)
    · refine Goes.step (T2 := T12) (g2 := (mkF m 13 #[iv p1] [])) (fun _ hr => XS.icmpNo X12.here hx rfl (hb hby d3_10) rfl (flt hc10_13).2.2.1 hr) ?_
      obtain ⟨T17, X17, e17, st17⟩ := getS2 X12 hx hZ hown (host := "") (Or.inl (tw hw 6 rfl)) Via.refl e12 (S_Integer_IntegerCache_cache_old.ext (Old.keep O0 K0 hws).2) (g := (mkF m 13 #[iv p1] [])) rfl (hb hby d3_13)
      refine Goes.step (T2 := T17) (g2 := (mkF m 16 #[iv p1] [(.ref ca)])) st17 ?_
      refine Goes.step (T2 := T17) (g2 := (mkF m 17 #[iv p1] [(.int p1), (.ref ca)])) (fun _ hr => XS.iloadN X17.here hx rfl (hb hby d3_16) rfl  hr) ?_
      refine Goes.step (T2 := T17) (g2 := (mkF m 20 #[iv p1] [(.int (128 : Int32)), (.int p1), (.ref ca)])) (fun _ hr => XS.sipush X17.here hx rfl (hb hby d3_17) hr) ?_
      refine Goes.step (T2 := T17) (g2 := (mkF m 21 #[iv p1] [(.int (p1 + (128 : Int32))), (.ref ca)])) (fun _ hr => XS.iadd X17.here hx rfl (hb hby d3_20) rfl hr) ?_
      obtain ⟨y18, hy18⟩ := el_cl (p1 + (128 : Int32)).toNatClampNeg (by have := own_ixin hc3_8 hc10_13 sz_cl; rw [sz_cl] at this; omega)
      refine Goes.step (T2 := T17) (g2 := (mkF m 22 #[iv p1] [(.ref y18)])) (X17.aaload hx (j := (p1 + (128 : Int32))) (v := (.ref y18)) (own_at e17 (Arr.ext (Old.keep O0 K0 hws).2 Ar_ca).1) (State.isArrayOf_alike hZ.alike Ar_ca.2.1) rfl Ar_ca.2.2 (own_ixin hc3_8 hc10_13 sz_cl) hy18 (g := (mkF m 21 #[iv p1] [(.int (p1 + (128 : Int32))), (.ref ca)])) rfl rfl (hb hby d3_21)) ?_
      exact Goes.ret (v := some (.ref y18)) X17 (by decide) (by decide) (fun h => by rw [Bd.returns] at h; cases h) (by show Q_rm_vo Z p1 ca cl h0 n0 _ T17.heap _; rw [e17]; exact ⟨y18, rfl, N0, K0⟩) (fun fs hr => retOut X17 hx Bd.returns rfl (Or.inr (Or.inr (Or.inr (Or.inr ⟨rfl, rfl, rfl⟩)))) (hb hby d3_22) hr)
theorem d4_0 : decode prog_91_method_1_code 0 = .ok (.aload_n 0, 1) := by decide +kernel
theorem d4_1 : decode prog_91_method_1_code 1 = .ok (.invokespecial 1, 3) := by decide +kernel
theorem d4_4 : decode prog_91_method_1_code 4 = .ok (.aload_n 0, 1) := by decide +kernel
theorem d4_5 : decode prog_91_method_1_code 5 = .ok (.aload_n 1, 1) := by decide +kernel
theorem d4_6 : decode prog_91_method_1_code 6 = .ok (.putfield 7, 3) := by decide +kernel
theorem d4_9 : decode prog_91_method_1_code 9 = .ok (.aload_n 0, 1) := by decide +kernel
theorem d4_10 : decode prog_91_method_1_code 10 = .ok (.aload_n 2, 1) := by decide +kernel
theorem d4_11 : decode prog_91_method_1_code 11 = .ok (.putfield 13, 3) := by decide +kernel
theorem d4_14 : decode prog_91_method_1_code 14 = .ok (.return_, 1) := by decide +kernel
theorem pn_com_example_libreconf_libreconf_pattern_Junction_State : plainName "com/example/libreconf/libreconf/pattern/Junction$State" = true := by first | (simp [plainName, overriddenIn]; done) | decide +kernel
def Q_rm_stNN (Z : State) (a1 : Addr) (h0 : Heap) (n0 : Nat) (v : Option Value) (h : Heap) (L : List Loc) : Prop := v = none ∧ Fr n0 L ∧ Keep h0 h [a1] ∧ Fld Z h a1 "com/example/libreconf/libreconf/pattern/Junction$State" "left" "Ljava/lang/Object;" .null ∧ Fld Z h a1 "com/example/libreconf/libreconf/pattern/Junction$State" "right" "Ljava/lang/Object;" .null
set_option maxRecDepth 65536 in
set_option maxHeartbeats 40000000 in
theorem rm_stNN (l : Launch) (Z : State) (a0 : Array Value) (hw : ∀ d ∈ tables_1, d.before a0 Z = true) (ws : List Jvm.Cond) (a1 : Addr) (h0 : Heap) (n0 : Nat) (Z0 : n0 ≤ h0.size) (O0 : Old Z n0 h0) (E_a1 : Exa Z h0 a1 "com/example/libreconf/libreconf/pattern/Junction$State") (F_a1_left : Fld Z h0 a1 "com/example/libreconf/libreconf/pattern/Junction$State" "left" "Ljava/lang/Object;" .null) (F_a1_right : Fld Z h0 a1 "com/example/libreconf/libreconf/pattern/Junction$State" "right" "Ljava/lang/Object;" .null) (ge_a1 : n0 ≤ a1) :
    MetFree l Y4 (head1 (Jvm.Cond.code Y4 prog_91_method_1_code 3 none :: ws) ({ frames := 2, cells := 0, slots := 0, locals := 24 } : Room)) (fun a U => a = #[(.ref a1), .null, .null] ∧ Z.Warmed39 U.vm ∧ U.heap = h0) (fun _ _ _ _ _ => True) (fun _ U o U' => ∃ v L, o = .returned v ∧ Q_rm_stNN Z a1 h0 n0 v U'.heap L ∧ FrameEnd U o U' L ({ frames := 2, cells := 0, slots := 0, locals := 24 } : Room).cells ({ frames := 2, cells := 0, slots := 0, locals := 24 } : Room).slots) := by
  refine MetFree.of_bodySF (plainFor_of_name pn_com_example_libreconf_libreconf_pattern_Junction_State) hisR ?_
  intro p e s m args below meth c s₁ Bd hml0 hP hK
  obtain ⟨rfl, hZ, hh⟩ := hP
  have hx := Bd.exec
  have hby := Bd.bytes
  have hml : c.maxLocals = 3 := hml0
  have hown : s.vm.findClass "com/example/libreconf/libreconf/pattern/Junction$State" = some m.cls := findClass_of_methodNamed Bd.named
  have hnm := (name_of_methodNamed Bd.named Bd.method).1
  have X0 : Stand p l e ({ frames := 2, cells := 0, slots := 0, locals := 24 } : Room) s m #[(.ref a1), .null, .null] below meth c s₁ [] 0 0 := Stand.of_body Bd
  have e0 : s₁.heap = h0 := by rw [← hh, Bd.state]; rfl
  have N0 := Fr.nil n0
  refine Goes.out (l := l) (c := c) (R := ({ frames := 2, cells := 0, slots := 0, locals := 24 } : Room)) (Q := Q_rm_stNN Z a1 h0 n0) Bd.notSynchronized ?_
  refine Goes.cast (g2 := mkF m 0 #[rv a1, .val .null, .val .null] []) (by first | (simp [entryFrame, mkF, argsToLocals, Value.category]; done) | rfl) ?_
  have K0 : Keep h0 h0 [a1] := Keep.refl h0 _
  have hws : ∀ x ∈ [a1], n0 ≤ x := (allS ge_a1 all0)
  refine Goes.step (T2 := s₁) (g2 := (mkF m 1 #[rv a1, .val .null, .val .null] [(.ref a1)])) (fun _ hr => XS.aloadN X0.here hx rfl (hb hby d4_0) rfl rfl hr) ?_
  have Zs19 : n0 ≤ h0.size := Nat.le_trans Z0 K0.1
  obtain ⟨_, _, ⟨T20, L20, k20, n20⟩, -, X20, ⟨Lc20, hQ20, l20, y20, z20⟩, st20⟩ := X0.specialBack hx (y := Y0) rfl hown (mvT hZ (tw hw 13 rfl)) (mvT hZ (tw hw 14 rfl)) (mvT hZ (tw hw 17 rfl)) (by decide) (backOf (W := 0) (rm_rec l Z a0 hw [] a1 h0 n0 Zs19 (Old.keep O0 K0 hws)) hZ (tw hw 17 rfl) (tw hw 16 rfl) (by decide) (by decide)) (g := (mkF m 1 #[rv a1, .val .null, .val .null] [(.ref a1)])) rfl (by rw [hml]; rfl) (Steps.refl _) (a := a1) (argsL := []) (rest := []) (lenOf pd_0 rfl) rfl (by show 2 * 0 + _ ≤ _; exact Nat.le_of_eq rfl) (hb hby d4_1) (fun _ _ => ⟨rfl, e0, (by decide : 0 + 0 ≤ _), (by decide : 0 + 0 ≤ _)⟩)
  dsimp only [Pt.U, Pt.locs, Pt.cells, Pt.slots] at X20 l20 y20 z20 st20 hQ20
  subst l20 y20 z20
  obtain ⟨rfl, N20q, e20⟩ := hQ20
  have N20 := Fr.app N0 N20q
  refine Goes.step (T2 := T20) (g2 := (mkF m 4 #[rv a1, .val .null, .val .null] [])) (fun _ hr => st20.trans hr) ?_
  refine Goes.step (T2 := T20) (g2 := (mkF m 5 #[rv a1, .val .null, .val .null] [(.ref a1)])) (fun _ hr => XS.aloadN X20.here hx rfl (hb hby d4_4) rfl rfl hr) ?_
  refine Goes.step (T2 := T20) (g2 := (mkF m 6 #[rv a1, .val .null, .val .null] [.null, (.ref a1)])) (fun _ hr => XS.aloadN X20.here hx rfl (hb hby d4_5) rfl rfl hr) ?_
  obtain ⟨T21, h21, X21, e21, W21, st21⟩ := putF X20 hx hZ hown (host := "") (Or.inl (tw hw 21 rfl)) Via.refl e20 F_a1_left E_a1 (Or.inr ⟨(tw hw 22 rfl), rfl, hnm⟩) (tw hw 8 rfl) (ty := (.object "java/lang/Object")) (by decide) rfl rfl (g := (mkF m 6 #[rv a1, .val .null, .val .null] [.null, (.ref a1)])) rfl rfl (hb hby d4_6)
  have E_a1_21 : Exa Z h21 a1 "com/example/libreconf/libreconf/pattern/Junction$State" := E_a1.wr W21
  have F_a1_right_21 : Fld Z h21 a1 "com/example/libreconf/libreconf/pattern/Junction$State" "right" "Ljava/lang/Object;" .null := F_a1_right.other W21 (Or.inr (slot_ne (Or.inr (tw hw 24 rfl)) (Or.inr (tw hw 22 rfl)) (by decide) (t := (.object "java/lang/Object")) (t' := (.object "java/lang/Object")) (by decide) (by decide)))
  have K21 : Keep h0 h21 [a1] := K0.wr W21 (Or.inl (List.mem_of_getElem? (i := 0) rfl))
  have N21 := Fr.snoc X21 N20 ge_a1
  have F_a1_left_21 : Fld Z h21 a1 "com/example/libreconf/libreconf/pattern/Junction$State" "left" "Ljava/lang/Object;" .null := F_a1_left.same W21
  refine Goes.step (T2 := T21) (g2 := (mkF m 9 #[rv a1, .val .null, .val .null] [])) st21 ?_
  refine Goes.step (T2 := T21) (g2 := (mkF m 10 #[rv a1, .val .null, .val .null] [(.ref a1)])) (fun _ hr => XS.aloadN X21.here hx rfl (hb hby d4_9) rfl rfl hr) ?_
  refine Goes.step (T2 := T21) (g2 := (mkF m 11 #[rv a1, .val .null, .val .null] [.null, (.ref a1)])) (fun _ hr => XS.aloadN X21.here hx rfl (hb hby d4_10) rfl rfl hr) ?_
  obtain ⟨T22, h22, X22, e22, W22, st22⟩ := putF X21 hx hZ hown (host := "") (Or.inl (tw hw 23 rfl)) Via.refl e21 F_a1_right_21 E_a1_21 (Or.inr ⟨(tw hw 24 rfl), rfl, hnm⟩) (tw hw 8 rfl) (ty := (.object "java/lang/Object")) (by decide) rfl rfl (g := (mkF m 11 #[rv a1, .val .null, .val .null] [.null, (.ref a1)])) rfl rfl (hb hby d4_11)
  have E_a1_22 : Exa Z h22 a1 "com/example/libreconf/libreconf/pattern/Junction$State" := E_a1_21.wr W22
  have F_a1_left_22 : Fld Z h22 a1 "com/example/libreconf/libreconf/pattern/Junction$State" "left" "Ljava/lang/Object;" .null := F_a1_left_21.other W22 (Or.inr (slot_ne (Or.inr (tw hw 22 rfl)) (Or.inr (tw hw 24 rfl)) (by decide) (t := (.object "java/lang/Object")) (t' := (.object "java/lang/Object")) (by decide) (by decide)))
  have K22 : Keep h0 h22 [a1] := K21.wr W22 (Or.inl (List.mem_of_getElem? (i := 0) rfl))
  have N22 := Fr.snoc X22 N21 ge_a1
  have F_a1_right_22 : Fld Z h22 a1 "com/example/libreconf/libreconf/pattern/Junction$State" "right" "Ljava/lang/Object;" .null := F_a1_right_21.same W22
  refine Goes.step (T2 := T22) (g2 := (mkF m 14 #[rv a1, .val .null, .val .null] [])) st22 ?_
  exact Goes.ret (v := none) X22 (by decide) (by decide) (fun _ => rfl) (by show Q_rm_stNN Z a1 h0 n0 _ T22.heap _; rw [e22]; exact ⟨rfl, N22, K22, F_a1_left_22, F_a1_right_22⟩) (fun fs hr => X22.returnOut hx Bd.returns (hb hby d4_14) hr)
theorem d5_0 : decode prog_91_method_2_code 0 = .ok (.aload_n 0, 1) := by decide +kernel
theorem d5_1 : decode prog_91_method_2_code 1 = .ok (.getfield 7, 3) := by decide +kernel
theorem d5_4 : decode prog_91_method_2_code 4 = .ok (.ifnonnull 14, 3) := by decide +kernel
theorem d5_7 : decode prog_91_method_2_code 7 = .ok (.aload_n 0, 1) := by decide +kernel
theorem d5_8 : decode prog_91_method_2_code 8 = .ok (.getfield 13, 3) := by decide +kernel
theorem d5_11 : decode prog_91_method_2_code 11 = .ok (.ifnonnull 7, 3) := by decide +kernel
theorem d5_14 : decode prog_91_method_2_code 14 = .ok (.iconst 1, 1) := by decide +kernel
theorem d5_15 : decode prog_91_method_2_code 15 = .ok (.goto 4, 3) := by decide +kernel
theorem d5_19 : decode prog_91_method_2_code 19 = .ok (.ireturn, 1) := by decide +kernel
def Q_rm_setNN (Z : State) (a1 : Addr) (h0 : Heap) (n0 : Nat) (v : Option Value) (h : Heap) (L : List Loc) : Prop := v = some (.int (1 : Int32)) ∧ Fr n0 L ∧ h = h0
set_option maxRecDepth 65536 in
set_option maxHeartbeats 40000000 in
theorem rm_setNN (l : Launch) (Z : State) (a0 : Array Value) (hw : ∀ d ∈ tables_1, d.before a0 Z = true) (ws : List Jvm.Cond) (a1 : Addr) (h0 : Heap) (n0 : Nat) (Z0 : n0 ≤ h0.size) (O0 : Old Z n0 h0) (F_a1_left : Fld Z h0 a1 "com/example/libreconf/libreconf/pattern/Junction$State" "left" "Ljava/lang/Object;" .null) (F_a1_right : Fld Z h0 a1 "com/example/libreconf/libreconf/pattern/Junction$State" "right" "Ljava/lang/Object;" .null) :
    MetFree l Y5 (head1 (Jvm.Cond.code Y5 prog_91_method_2_code 1 (some .boolean) :: ws) ({ frames := 0, cells := 0, slots := 0, locals := 0 } : Room)) (fun a U => a = #[(.ref a1)] ∧ Z.Warmed39 U.vm ∧ U.heap = h0) (fun _ _ _ _ _ => True) (fun _ U o U' => ∃ v L, o = .returned v ∧ Q_rm_setNN Z a1 h0 n0 v U'.heap L ∧ FrameEnd U o U' L ({ frames := 0, cells := 0, slots := 0, locals := 0 } : Room).cells ({ frames := 0, cells := 0, slots := 0, locals := 0 } : Room).slots) := by
  refine MetFree.of_bodySF (plainFor_of_name pn_com_example_libreconf_libreconf_pattern_Junction_State) hisR ?_
  intro p e s m args below meth c s₁ Bd hml0 hP hK
  obtain ⟨rfl, hZ, hh⟩ := hP
  have hx := Bd.exec
  have hby := Bd.bytes
  have hml : c.maxLocals = 1 := hml0
  have hown : s.vm.findClass "com/example/libreconf/libreconf/pattern/Junction$State" = some m.cls := findClass_of_methodNamed Bd.named
  have hnm := (name_of_methodNamed Bd.named Bd.method).1
  have X0 : Stand p l e ({ frames := 0, cells := 0, slots := 0, locals := 0 } : Room) s m #[(.ref a1)] below meth c s₁ [] 0 0 := Stand.of_body Bd
  have e0 : s₁.heap = h0 := by rw [← hh, Bd.state]; rfl
  have N0 := Fr.nil n0
  refine Goes.out (l := l) (c := c) (R := ({ frames := 0, cells := 0, slots := 0, locals := 0 } : Room)) (Q := Q_rm_setNN Z a1 h0 n0) Bd.notSynchronized ?_
  refine Goes.cast (g2 := mkF m 0 #[rv a1] []) (by first | (simp [entryFrame, mkF, argsToLocals, Value.category]; done) | rfl) ?_
  have K0 : Keep h0 h0 [] := Keep.refl h0 _
  have hws : ∀ x ∈ ([] : List Addr), n0 ≤ x := all0
  refine Goes.step (T2 := s₁) (g2 := (mkF m 1 #[rv a1] [(.ref a1)])) (fun _ hr => XS.aloadN X0.here hx rfl (hb hby d5_0) rfl rfl hr) ?_
  obtain ⟨T23, X23, e23, st23⟩ := getF X0 hx hZ hown (host := "") (Or.inl (tw hw 21 rfl)) Via.refl e0 F_a1_left (g := (mkF m 1 #[rv a1] [(.ref a1)])) rfl rfl (hb hby d5_1)
  refine Goes.step (T2 := T23) (g2 := (mkF m 4 #[rv a1] [.null])) st23 ?_
  refine Goes.step (T2 := T23) (g2 := (mkF m 7 #[rv a1] [])) (fun _ hr => Jvm.Free.XT.ifnonnullNo X23.here hx rfl (hb hby d5_4) rfl hr) ?_
  refine Goes.step (T2 := T23) (g2 := (mkF m 8 #[rv a1] [(.ref a1)])) (fun _ hr => XS.aloadN X23.here hx rfl (hb hby d5_7) rfl rfl hr) ?_
  obtain ⟨T24, X24, e24, st24⟩ := getF X23 hx hZ hown (host := "") (Or.inl (tw hw 23 rfl)) Via.refl e23 F_a1_right (g := (mkF m 8 #[rv a1] [(.ref a1)])) rfl rfl (hb hby d5_8)
  refine Goes.step (T2 := T24) (g2 := (mkF m 11 #[rv a1] [.null])) st24 ?_
  refine Goes.step (T2 := T24) (g2 := (mkF m 14 #[rv a1] [])) (fun _ hr => Jvm.Free.XT.ifnonnullNo X24.here hx rfl (hb hby d5_11) rfl hr) ?_
  refine Goes.step (T2 := T24) (g2 := (mkF m 15 #[rv a1] [(.int (1 : Int32))])) (fun _ hr => XS.iconst X24.here hx rfl (hb hby d5_14) hr) ?_
  refine Goes.step (T2 := T24) (g2 := (mkF m 19 #[rv a1] [(.int (1 : Int32))])) (fun _ hr => XS.goto X24.here hx rfl (pc0 := 15) (pc' := 19) rfl (hb hby d5_15) (by decide) (by decide) hr) ?_
  exact Goes.ret (v := some (.int (1 : Int32))) X24 (by decide) (by decide) (fun h => by rw [Bd.returns] at h; cases h) ⟨rfl, N0, e24⟩ (fun fs hr => retN X24 hx (t := .boolean) Bd.returns (by simp) (hb hby d5_19) hr)
def Q_rm_stNR (Z : State) (a1 : Addr) (wr : Addr) (h0 : Heap) (n0 : Nat) (v : Option Value) (h : Heap) (L : List Loc) : Prop := v = none ∧ Fr n0 L ∧ Keep h0 h [a1] ∧ Fld Z h a1 "com/example/libreconf/libreconf/pattern/Junction$State" "left" "Ljava/lang/Object;" .null ∧ Fld Z h a1 "com/example/libreconf/libreconf/pattern/Junction$State" "right" "Ljava/lang/Object;" (.ref wr)
set_option maxRecDepth 65536 in
set_option maxHeartbeats 40000000 in
theorem rm_stNR (l : Launch) (Z : State) (a0 : Array Value) (hw : ∀ d ∈ tables_1, d.before a0 Z = true) (ws : List Jvm.Cond) (a1 : Addr) (wr : Addr) (h0 : Heap) (n0 : Nat) (Z0 : n0 ≤ h0.size) (O0 : Old Z n0 h0) (E_a1 : Exa Z h0 a1 "com/example/libreconf/libreconf/pattern/Junction$State") (F_a1_left : Fld Z h0 a1 "com/example/libreconf/libreconf/pattern/Junction$State" "left" "Ljava/lang/Object;" .null) (F_a1_right : Fld Z h0 a1 "com/example/libreconf/libreconf/pattern/Junction$State" "right" "Ljava/lang/Object;" .null) (ge_a1 : n0 ≤ a1) :
    MetFree l Y4 (head1 (Jvm.Cond.code Y4 prog_91_method_1_code 3 none :: ws) ({ frames := 2, cells := 0, slots := 0, locals := 24 } : Room)) (fun a U => a = #[(.ref a1), .null, (.ref wr)] ∧ Z.Warmed39 U.vm ∧ U.heap = h0) (fun _ _ _ _ _ => True) (fun _ U o U' => ∃ v L, o = .returned v ∧ Q_rm_stNR Z a1 wr h0 n0 v U'.heap L ∧ FrameEnd U o U' L ({ frames := 2, cells := 0, slots := 0, locals := 24 } : Room).cells ({ frames := 2, cells := 0, slots := 0, locals := 24 } : Room).slots) := by
  refine MetFree.of_bodySF (plainFor_of_name pn_com_example_libreconf_libreconf_pattern_Junction_State) hisR ?_
  intro p e s m args below meth c s₁ Bd hml0 hP hK
  obtain ⟨rfl, hZ, hh⟩ := hP
  have hx := Bd.exec
  have hby := Bd.bytes
  have hml : c.maxLocals = 3 := hml0
  have hown : s.vm.findClass "com/example/libreconf/libreconf/pattern/Junction$State" = some m.cls := findClass_of_methodNamed Bd.named
  have hnm := (name_of_methodNamed Bd.named Bd.method).1
  have X0 : Stand p l e ({ frames := 2, cells := 0, slots := 0, locals := 24 } : Room) s m #[(.ref a1), .null, (.ref wr)] below meth c s₁ [] 0 0 := Stand.of_body Bd
  have e0 : s₁.heap = h0 := by rw [← hh, Bd.state]; rfl
  have N0 := Fr.nil n0
  refine Goes.out (l := l) (c := c) (R := ({ frames := 2, cells := 0, slots := 0, locals := 24 } : Room)) (Q := Q_rm_stNR Z a1 wr h0 n0) Bd.notSynchronized ?_
  refine Goes.cast (g2 := mkF m 0 #[rv a1, .val .null, rv wr] []) (by first | (simp [entryFrame, mkF, argsToLocals, Value.category]; done) | rfl) ?_
  have K0 : Keep h0 h0 [a1] := Keep.refl h0 _
  have hws : ∀ x ∈ [a1], n0 ≤ x := (allS ge_a1 all0)
  refine Goes.step (T2 := s₁) (g2 := (mkF m 1 #[rv a1, .val .null, rv wr] [(.ref a1)])) (fun _ hr => XS.aloadN X0.here hx rfl (hb hby d4_0) rfl rfl hr) ?_
  have Zs25 : n0 ≤ h0.size := Nat.le_trans Z0 K0.1
  obtain ⟨_, _, ⟨T26, L26, k26, n26⟩, -, X26, ⟨Lc26, hQ26, l26, y26, z26⟩, st26⟩ := X0.specialBack hx (y := Y0) rfl hown (mvT hZ (tw hw 13 rfl)) (mvT hZ (tw hw 14 rfl)) (mvT hZ (tw hw 17 rfl)) (by decide) (backOf (W := 0) (rm_rec l Z a0 hw [] a1 h0 n0 Zs25 (Old.keep O0 K0 hws)) hZ (tw hw 17 rfl) (tw hw 16 rfl) (by decide) (by decide)) (g := (mkF m 1 #[rv a1, .val .null, rv wr] [(.ref a1)])) rfl (by rw [hml]; rfl) (Steps.refl _) (a := a1) (argsL := []) (rest := []) (lenOf pd_0 rfl) rfl (by show 2 * 0 + _ ≤ _; exact Nat.le_of_eq rfl) (hb hby d4_1) (fun _ _ => ⟨rfl, e0, (by decide : 0 + 0 ≤ _), (by decide : 0 + 0 ≤ _)⟩)
  dsimp only [Pt.U, Pt.locs, Pt.cells, Pt.slots] at X26 l26 y26 z26 st26 hQ26
  subst l26 y26 z26
  obtain ⟨rfl, N26q, e26⟩ := hQ26
  have N26 := Fr.app N0 N26q
  refine Goes.step (T2 := T26) (g2 := (mkF m 4 #[rv a1, .val .null, rv wr] [])) (fun _ hr => st26.trans hr) ?_
  refine Goes.step (T2 := T26) (g2 := (mkF m 5 #[rv a1, .val .null, rv wr] [(.ref a1)])) (fun _ hr => XS.aloadN X26.here hx rfl (hb hby d4_4) rfl rfl hr) ?_
  refine Goes.step (T2 := T26) (g2 := (mkF m 6 #[rv a1, .val .null, rv wr] [.null, (.ref a1)])) (fun _ hr => XS.aloadN X26.here hx rfl (hb hby d4_5) rfl rfl hr) ?_
  obtain ⟨T27, h27, X27, e27, W27, st27⟩ := putF X26 hx hZ hown (host := "") (Or.inl (tw hw 21 rfl)) Via.refl e26 F_a1_left E_a1 (Or.inr ⟨(tw hw 22 rfl), rfl, hnm⟩) (tw hw 8 rfl) (ty := (.object "java/lang/Object")) (by decide) rfl rfl (g := (mkF m 6 #[rv a1, .val .null, rv wr] [.null, (.ref a1)])) rfl rfl (hb hby d4_6)
  have E_a1_27 : Exa Z h27 a1 "com/example/libreconf/libreconf/pattern/Junction$State" := E_a1.wr W27
  have F_a1_right_27 : Fld Z h27 a1 "com/example/libreconf/libreconf/pattern/Junction$State" "right" "Ljava/lang/Object;" .null := F_a1_right.other W27 (Or.inr (slot_ne (Or.inr (tw hw 24 rfl)) (Or.inr (tw hw 22 rfl)) (by decide) (t := (.object "java/lang/Object")) (t' := (.object "java/lang/Object")) (by decide) (by decide)))
  have K27 : Keep h0 h27 [a1] := K0.wr W27 (Or.inl (List.mem_of_getElem? (i := 0) rfl))
  have N27 := Fr.snoc X27 N26 ge_a1
  have F_a1_left_27 : Fld Z h27 a1 "com/example/libreconf/libreconf/pattern/Junction$State" "left" "Ljava/lang/Object;" .null := F_a1_left.same W27
  refine Goes.step (T2 := T27) (g2 := (mkF m 9 #[rv a1, .val .null, rv wr] [])) st27 ?_
  refine Goes.step (T2 := T27) (g2 := (mkF m 10 #[rv a1, .val .null, rv wr] [(.ref a1)])) (fun _ hr => XS.aloadN X27.here hx rfl (hb hby d4_9) rfl rfl hr) ?_
  refine Goes.step (T2 := T27) (g2 := (mkF m 11 #[rv a1, .val .null, rv wr] [(.ref wr), (.ref a1)])) (fun _ hr => XS.aloadN X27.here hx rfl (hb hby d4_10) rfl rfl hr) ?_
  obtain ⟨T28, h28, X28, e28, W28, st28⟩ := putF X27 hx hZ hown (host := "") (Or.inl (tw hw 23 rfl)) Via.refl e27 F_a1_right_27 E_a1_27 (Or.inr ⟨(tw hw 24 rfl), rfl, hnm⟩) (tw hw 8 rfl) (ty := (.object "java/lang/Object")) (by decide) rfl rfl (g := (mkF m 11 #[rv a1, .val .null, rv wr] [(.ref wr), (.ref a1)])) rfl rfl (hb hby d4_11)
  have E_a1_28 : Exa Z h28 a1 "com/example/libreconf/libreconf/pattern/Junction$State" := E_a1_27.wr W28
  have F_a1_left_28 : Fld Z h28 a1 "com/example/libreconf/libreconf/pattern/Junction$State" "left" "Ljava/lang/Object;" .null := F_a1_left_27.other W28 (Or.inr (slot_ne (Or.inr (tw hw 22 rfl)) (Or.inr (tw hw 24 rfl)) (by decide) (t := (.object "java/lang/Object")) (t' := (.object "java/lang/Object")) (by decide) (by decide)))
  have K28 : Keep h0 h28 [a1] := K27.wr W28 (Or.inl (List.mem_of_getElem? (i := 0) rfl))
  have N28 := Fr.snoc X28 N27 ge_a1
  have F_a1_right_28 : Fld Z h28 a1 "com/example/libreconf/libreconf/pattern/Junction$State" "right" "Ljava/lang/Object;" (.ref wr) := F_a1_right_27.same W28
  refine Goes.step (T2 := T28) (g2 := (mkF m 14 #[rv a1, .val .null, rv wr] [])) st28 ?_
  exact Goes.ret (v := none) X28 (by decide) (by decide) (fun _ => rfl) (by show Q_rm_stNR Z a1 wr h0 n0 _ T28.heap _; rw [e28]; exact ⟨rfl, N28, K28, F_a1_left_28, F_a1_right_28⟩) (fun fs hr => X28.returnOut hx Bd.returns (hb hby d4_14) hr)
theorem d5_18 : decode prog_91_method_2_code 18 = .ok (.iconst 0, 1) := by decide +kernel
def Q_rm_setNR (Z : State) (a1 : Addr) (wr : Addr) (h0 : Heap) (n0 : Nat) (v : Option Value) (h : Heap) (L : List Loc) : Prop := v = some (.int (0 : Int32)) ∧ Fr n0 L ∧ h = h0
set_option maxRecDepth 65536 in
set_option maxHeartbeats 40000000 in
theorem rm_setNR (l : Launch) (Z : State) (a0 : Array Value) (hw : ∀ d ∈ tables_1, d.before a0 Z = true) (ws : List Jvm.Cond) (a1 : Addr) (wr : Addr) (h0 : Heap) (n0 : Nat) (Z0 : n0 ≤ h0.size) (O0 : Old Z n0 h0) (F_a1_left : Fld Z h0 a1 "com/example/libreconf/libreconf/pattern/Junction$State" "left" "Ljava/lang/Object;" .null) (F_a1_right : Fld Z h0 a1 "com/example/libreconf/libreconf/pattern/Junction$State" "right" "Ljava/lang/Object;" (.ref wr)) :
    MetFree l Y5 (head1 (Jvm.Cond.code Y5 prog_91_method_2_code 1 (some .boolean) :: ws) ({ frames := 0, cells := 0, slots := 0, locals := 0 } : Room)) (fun a U => a = #[(.ref a1)] ∧ Z.Warmed39 U.vm ∧ U.heap = h0) (fun _ _ _ _ _ => True) (fun _ U o U' => ∃ v L, o = .returned v ∧ Q_rm_setNR Z a1 wr h0 n0 v U'.heap L ∧ FrameEnd U o U' L ({ frames := 0, cells := 0, slots := 0, locals := 0 } : Room).cells ({ frames := 0, cells := 0, slots := 0, locals := 0 } : Room).slots) := by
  refine MetFree.of_bodySF (plainFor_of_name pn_com_example_libreconf_libreconf_pattern_Junction_State) hisR ?_
  intro p e s m args below meth c s₁ Bd hml0 hP hK
  obtain ⟨rfl, hZ, hh⟩ := hP
  have hx := Bd.exec
  have hby := Bd.bytes
  have hml : c.maxLocals = 1 := hml0
  have hown : s.vm.findClass "com/example/libreconf/libreconf/pattern/Junction$State" = some m.cls := findClass_of_methodNamed Bd.named
  have hnm := (name_of_methodNamed Bd.named Bd.method).1
  have X0 : Stand p l e ({ frames := 0, cells := 0, slots := 0, locals := 0 } : Room) s m #[(.ref a1)] below meth c s₁ [] 0 0 := Stand.of_body Bd
  have e0 : s₁.heap = h0 := by rw [← hh, Bd.state]; rfl
  have N0 := Fr.nil n0
  refine Goes.out (l := l) (c := c) (R := ({ frames := 0, cells := 0, slots := 0, locals := 0 } : Room)) (Q := Q_rm_setNR Z a1 wr h0 n0) Bd.notSynchronized ?_
  refine Goes.cast (g2 := mkF m 0 #[rv a1] []) (by first | (simp [entryFrame, mkF, argsToLocals, Value.category]; done) | rfl) ?_
  have K0 : Keep h0 h0 [] := Keep.refl h0 _
  have hws : ∀ x ∈ ([] : List Addr), n0 ≤ x := all0
  refine Goes.step (T2 := s₁) (g2 := (mkF m 1 #[rv a1] [(.ref a1)])) (fun _ hr => XS.aloadN X0.here hx rfl (hb hby d5_0) rfl rfl hr) ?_
  obtain ⟨T29, X29, e29, st29⟩ := getF X0 hx hZ hown (host := "") (Or.inl (tw hw 21 rfl)) Via.refl e0 F_a1_left (g := (mkF m 1 #[rv a1] [(.ref a1)])) rfl rfl (hb hby d5_1)
  refine Goes.step (T2 := T29) (g2 := (mkF m 4 #[rv a1] [.null])) st29 ?_
  refine Goes.step (T2 := T29) (g2 := (mkF m 7 #[rv a1] [])) (fun _ hr => Jvm.Free.XT.ifnonnullNo X29.here hx rfl (hb hby d5_4) rfl hr) ?_
  refine Goes.step (T2 := T29) (g2 := (mkF m 8 #[rv a1] [(.ref a1)])) (fun _ hr => XS.aloadN X29.here hx rfl (hb hby d5_7) rfl rfl hr) ?_
  obtain ⟨T30, X30, e30, st30⟩ := getF X29 hx hZ hown (host := "") (Or.inl (tw hw 23 rfl)) Via.refl e29 F_a1_right (g := (mkF m 8 #[rv a1] [(.ref a1)])) rfl rfl (hb hby d5_8)
  refine Goes.step (T2 := T30) (g2 := (mkF m 11 #[rv a1] [(.ref wr)])) st30 ?_
  refine Goes.step (T2 := T30) (g2 := (mkF m 18 #[rv a1] [])) (fun _ hr => Jvm.Free.XT.ifnonnullYes X30.here hx rfl (pc0 := 11) (pc' := 18) rfl (hb hby d5_11) rfl (by decide) (by decide) hr) ?_
  refine Goes.step (T2 := T30) (g2 := (mkF m 19 #[rv a1] [(.int (0 : Int32))])) (fun _ hr => XS.iconst X30.here hx rfl (hb hby d5_18) hr) ?_
  exact Goes.ret (v := some (.int (0 : Int32))) X30 (by decide) (by decide) (fun h => by rw [Bd.returns] at h; cases h) ⟨rfl, N0, e30⟩ (fun fs hr => retN X30 hx (t := .boolean) Bd.returns (by simp) (hb hby d5_19) hr)
def Q_rm_stRN (Z : State) (a1 : Addr) (wl : Addr) (h0 : Heap) (n0 : Nat) (v : Option Value) (h : Heap) (L : List Loc) : Prop := v = none ∧ Fr n0 L ∧ Keep h0 h [a1] ∧ Fld Z h a1 "com/example/libreconf/libreconf/pattern/Junction$State" "left" "Ljava/lang/Object;" (.ref wl) ∧ Fld Z h a1 "com/example/libreconf/libreconf/pattern/Junction$State" "right" "Ljava/lang/Object;" .null
set_option maxRecDepth 65536 in
set_option maxHeartbeats 40000000 in
theorem rm_stRN (l : Launch) (Z : State) (a0 : Array Value) (hw : ∀ d ∈ tables_1, d.before a0 Z = true) (ws : List Jvm.Cond) (a1 : Addr) (wl : Addr) (h0 : Heap) (n0 : Nat) (Z0 : n0 ≤ h0.size) (O0 : Old Z n0 h0) (E_a1 : Exa Z h0 a1 "com/example/libreconf/libreconf/pattern/Junction$State") (F_a1_left : Fld Z h0 a1 "com/example/libreconf/libreconf/pattern/Junction$State" "left" "Ljava/lang/Object;" .null) (F_a1_right : Fld Z h0 a1 "com/example/libreconf/libreconf/pattern/Junction$State" "right" "Ljava/lang/Object;" .null) (ge_a1 : n0 ≤ a1) :
    MetFree l Y4 (head1 (Jvm.Cond.code Y4 prog_91_method_1_code 3 none :: ws) ({ frames := 2, cells := 0, slots := 0, locals := 24 } : Room)) (fun a U => a = #[(.ref a1), (.ref wl), .null] ∧ Z.Warmed39 U.vm ∧ U.heap = h0) (fun _ _ _ _ _ => True) (fun _ U o U' => ∃ v L, o = .returned v ∧ Q_rm_stRN Z a1 wl h0 n0 v U'.heap L ∧ FrameEnd U o U' L ({ frames := 2, cells := 0, slots := 0, locals := 24 } : Room).cells ({ frames := 2, cells := 0, slots := 0, locals := 24 } : Room).slots) := by
  refine MetFree.of_bodySF (plainFor_of_name pn_com_example_libreconf_libreconf_pattern_Junction_State) hisR ?_
  intro p e s m args below meth c s₁ Bd hml0 hP hK
  obtain ⟨rfl, hZ, hh⟩ := hP
  have hx := Bd.exec
  have hby := Bd.bytes
  have hml : c.maxLocals = 3 := hml0
  have hown : s.vm.findClass "com/example/libreconf/libreconf/pattern/Junction$State" = some m.cls := findClass_of_methodNamed Bd.named
  have hnm := (name_of_methodNamed Bd.named Bd.method).1
  have X0 : Stand p l e ({ frames := 2, cells := 0, slots := 0, locals := 24 } : Room) s m #[(.ref a1), (.ref wl), .null] below meth c s₁ [] 0 0 := Stand.of_body Bd
  have e0 : s₁.heap = h0 := by rw [← hh, Bd.state]; rfl
  have N0 := Fr.nil n0
  refine Goes.out (l := l) (c := c) (R := ({ frames := 2, cells := 0, slots := 0, locals := 24 } : Room)) (Q := Q_rm_stRN Z a1 wl h0 n0) Bd.notSynchronized ?_
  refine Goes.cast (g2 := mkF m 0 #[rv a1, rv wl, .val .null] []) (by first | (simp [entryFrame, mkF, argsToLocals, Value.category]; done) | rfl) ?_
  have K0 : Keep h0 h0 [a1] := Keep.refl h0 _
  have hws : ∀ x ∈ [a1], n0 ≤ x := (allS ge_a1 all0)
  refine Goes.step (T2 := s₁) (g2 := (mkF m 1 #[rv a1, rv wl, .val .null] [(.ref a1)])) (fun _ hr => XS.aloadN X0.here hx rfl (hb hby d4_0) rfl rfl hr) ?_
  have Zs31 : n0 ≤ h0.size := Nat.le_trans Z0 K0.1
  obtain ⟨_, _, ⟨T32, L32, k32, n32⟩, -, X32, ⟨Lc32, hQ32, l32, y32, z32⟩, st32⟩ := X0.specialBack hx (y := Y0) rfl hown (mvT hZ (tw hw 13 rfl)) (mvT hZ (tw hw 14 rfl)) (mvT hZ (tw hw 17 rfl)) (by decide) (backOf (W := 0) (rm_rec l Z a0 hw [] a1 h0 n0 Zs31 (Old.keep O0 K0 hws)) hZ (tw hw 17 rfl) (tw hw 16 rfl) (by decide) (by decide)) (g := (mkF m 1 #[rv a1, rv wl, .val .null] [(.ref a1)])) rfl (by rw [hml]; rfl) (Steps.refl _) (a := a1) (argsL := []) (rest := []) (lenOf pd_0 rfl) rfl (by show 2 * 0 + _ ≤ _; exact Nat.le_of_eq rfl) (hb hby d4_1) (fun _ _ => ⟨rfl, e0, (by decide : 0 + 0 ≤ _), (by decide : 0 + 0 ≤ _)⟩)
  dsimp only [Pt.U, Pt.locs, Pt.cells, Pt.slots] at X32 l32 y32 z32 st32 hQ32
  subst l32 y32 z32
  obtain ⟨rfl, N32q, e32⟩ := hQ32
  have N32 := Fr.app N0 N32q
  refine Goes.step (T2 := T32) (g2 := (mkF m 4 #[rv a1, rv wl, .val .null] [])) (fun _ hr => st32.trans hr) ?_
  refine Goes.step (T2 := T32) (g2 := (mkF m 5 #[rv a1, rv wl, .val .null] [(.ref a1)])) (fun _ hr => XS.aloadN X32.here hx rfl (hb hby d4_4) rfl rfl hr) ?_
  refine Goes.step (T2 := T32) (g2 := (mkF m 6 #[rv a1, rv wl, .val .null] [(.ref wl), (.ref a1)])) (fun _ hr => XS.aloadN X32.here hx rfl (hb hby d4_5) rfl rfl hr) ?_
  obtain ⟨T33, h33, X33, e33, W33, st33⟩ := putF X32 hx hZ hown (host := "") (Or.inl (tw hw 21 rfl)) Via.refl e32 F_a1_left E_a1 (Or.inr ⟨(tw hw 22 rfl), rfl, hnm⟩) (tw hw 8 rfl) (ty := (.object "java/lang/Object")) (by decide) rfl rfl (g := (mkF m 6 #[rv a1, rv wl, .val .null] [(.ref wl), (.ref a1)])) rfl rfl (hb hby d4_6)
  have E_a1_33 : Exa Z h33 a1 "com/example/libreconf/libreconf/pattern/Junction$State" := E_a1.wr W33
  have F_a1_right_33 : Fld Z h33 a1 "com/example/libreconf/libreconf/pattern/Junction$State" "right" "Ljava/lang/Object;" .null := F_a1_right.other W33 (Or.inr (slot_ne (Or.inr (tw hw 24 rfl)) (Or.inr (tw hw 22 rfl)) (by decide) (t := (.object "java/lang/Object")) (t' := (.object "java/lang/Object")) (by decide) (by decide)))
  have K33 : Keep h0 h33 [a1] := K0.wr W33 (Or.inl (List.mem_of_getElem? (i := 0) rfl))
  have N33 := Fr.snoc X33 N32 ge_a1
  have F_a1_left_33 : Fld Z h33 a1 "com/example/libreconf/libreconf/pattern/Junction$State" "left" "Ljava/lang/Object;" (.ref wl) := F_a1_left.same W33
  refine Goes.step (T2 := T33) (g2 := (mkF m 9 #[rv a1, rv wl, .val .null] [])) st33 ?_
  refine Goes.step (T2 := T33) (g2 := (mkF m 10 #[rv a1, rv wl, .val .null] [(.ref a1)])) (fun _ hr => XS.aloadN X33.here hx rfl (hb hby d4_9) rfl rfl hr) ?_
  refine Goes.step (T2 := T33) (g2 := (mkF m 11 #[rv a1, rv wl, .val .null] [.null, (.ref a1)])) (fun _ hr => XS.aloadN X33.here hx rfl (hb hby d4_10) rfl rfl hr) ?_
  obtain ⟨T34, h34, X34, e34, W34, st34⟩ := putF X33 hx hZ hown (host := "") (Or.inl (tw hw 23 rfl)) Via.refl e33 F_a1_right_33 E_a1_33 (Or.inr ⟨(tw hw 24 rfl), rfl, hnm⟩) (tw hw 8 rfl) (ty := (.object "java/lang/Object")) (by decide) rfl rfl (g := (mkF m 11 #[rv a1, rv wl, .val .null] [.null, (.ref a1)])) rfl rfl (hb hby d4_11)
  have E_a1_34 : Exa Z h34 a1 "com/example/libreconf/libreconf/pattern/Junction$State" := E_a1_33.wr W34
  have F_a1_left_34 : Fld Z h34 a1 "com/example/libreconf/libreconf/pattern/Junction$State" "left" "Ljava/lang/Object;" (.ref wl) := F_a1_left_33.other W34 (Or.inr (slot_ne (Or.inr (tw hw 22 rfl)) (Or.inr (tw hw 24 rfl)) (by decide) (t := (.object "java/lang/Object")) (t' := (.object "java/lang/Object")) (by decide) (by decide)))
  have K34 : Keep h0 h34 [a1] := K33.wr W34 (Or.inl (List.mem_of_getElem? (i := 0) rfl))
  have N34 := Fr.snoc X34 N33 ge_a1
  have F_a1_right_34 : Fld Z h34 a1 "com/example/libreconf/libreconf/pattern/Junction$State" "right" "Ljava/lang/Object;" .null := F_a1_right_33.same W34
  refine Goes.step (T2 := T34) (g2 := (mkF m 14 #[rv a1, rv wl, .val .null] [])) st34 ?_
  exact Goes.ret (v := none) X34 (by decide) (by decide) (fun _ => rfl) (by show Q_rm_stRN Z a1 wl h0 n0 _ T34.heap _; rw [e34]; exact ⟨rfl, N34, K34, F_a1_left_34, F_a1_right_34⟩) (fun fs hr => X34.returnOut hx Bd.returns (hb hby d4_14) hr)
def Q_rm_setRN (Z : State) (a1 : Addr) (wl : Addr) (h0 : Heap) (n0 : Nat) (v : Option Value) (h : Heap) (L : List Loc) : Prop := v = some (.int (0 : Int32)) ∧ Fr n0 L ∧ h = h0
set_option maxRecDepth 65536 in
set_option maxHeartbeats 40000000 in
theorem rm_setRN (l : Launch) (Z : State) (a0 : Array Value) (hw : ∀ d ∈ tables_1, d.before a0 Z = true) (ws : List Jvm.Cond) (a1 : Addr) (wl : Addr) (h0 : Heap) (n0 : Nat) (Z0 : n0 ≤ h0.size) (O0 : Old Z n0 h0) (F_a1_left : Fld Z h0 a1 "com/example/libreconf/libreconf/pattern/Junction$State" "left" "Ljava/lang/Object;" (.ref wl)) (F_a1_right : Fld Z h0 a1 "com/example/libreconf/libreconf/pattern/Junction$State" "right" "Ljava/lang/Object;" .null) :
    MetFree l Y5 (head1 (Jvm.Cond.code Y5 prog_91_method_2_code 1 (some .boolean) :: ws) ({ frames := 0, cells := 0, slots := 0, locals := 0 } : Room)) (fun a U => a = #[(.ref a1)] ∧ Z.Warmed39 U.vm ∧ U.heap = h0) (fun _ _ _ _ _ => True) (fun _ U o U' => ∃ v L, o = .returned v ∧ Q_rm_setRN Z a1 wl h0 n0 v U'.heap L ∧ FrameEnd U o U' L ({ frames := 0, cells := 0, slots := 0, locals := 0 } : Room).cells ({ frames := 0, cells := 0, slots := 0, locals := 0 } : Room).slots) := by
  refine MetFree.of_bodySF (plainFor_of_name pn_com_example_libreconf_libreconf_pattern_Junction_State) hisR ?_
  intro p e s m args below meth c s₁ Bd hml0 hP hK
  obtain ⟨rfl, hZ, hh⟩ := hP
  have hx := Bd.exec
  have hby := Bd.bytes
  have hml : c.maxLocals = 1 := hml0
  have hown : s.vm.findClass "com/example/libreconf/libreconf/pattern/Junction$State" = some m.cls := findClass_of_methodNamed Bd.named
  have hnm := (name_of_methodNamed Bd.named Bd.method).1
  have X0 : Stand p l e ({ frames := 0, cells := 0, slots := 0, locals := 0 } : Room) s m #[(.ref a1)] below meth c s₁ [] 0 0 := Stand.of_body Bd
  have e0 : s₁.heap = h0 := by rw [← hh, Bd.state]; rfl
  have N0 := Fr.nil n0
  refine Goes.out (l := l) (c := c) (R := ({ frames := 0, cells := 0, slots := 0, locals := 0 } : Room)) (Q := Q_rm_setRN Z a1 wl h0 n0) Bd.notSynchronized ?_
  refine Goes.cast (g2 := mkF m 0 #[rv a1] []) (by first | (simp [entryFrame, mkF, argsToLocals, Value.category]; done) | rfl) ?_
  have K0 : Keep h0 h0 [] := Keep.refl h0 _
  have hws : ∀ x ∈ ([] : List Addr), n0 ≤ x := all0
  refine Goes.step (T2 := s₁) (g2 := (mkF m 1 #[rv a1] [(.ref a1)])) (fun _ hr => XS.aloadN X0.here hx rfl (hb hby d5_0) rfl rfl hr) ?_
  obtain ⟨T35, X35, e35, st35⟩ := getF X0 hx hZ hown (host := "") (Or.inl (tw hw 21 rfl)) Via.refl e0 F_a1_left (g := (mkF m 1 #[rv a1] [(.ref a1)])) rfl rfl (hb hby d5_1)
  refine Goes.step (T2 := T35) (g2 := (mkF m 4 #[rv a1] [(.ref wl)])) st35 ?_
  refine Goes.step (T2 := T35) (g2 := (mkF m 18 #[rv a1] [])) (fun _ hr => Jvm.Free.XT.ifnonnullYes X35.here hx rfl (pc0 := 4) (pc' := 18) rfl (hb hby d5_4) rfl (by decide) (by decide) hr) ?_
  refine Goes.step (T2 := T35) (g2 := (mkF m 19 #[rv a1] [(.int (0 : Int32))])) (fun _ hr => XS.iconst X35.here hx rfl (hb hby d5_18) hr) ?_
  exact Goes.ret (v := some (.int (0 : Int32))) X35 (by decide) (by decide) (fun h => by rw [Bd.returns] at h; cases h) ⟨rfl, N0, e35⟩ (fun fs hr => retN X35 hx (t := .boolean) Bd.returns (by simp) (hb hby d5_19) hr)
def Q_rm_stRR (Z : State) (a1 : Addr) (wl : Addr) (wr : Addr) (h0 : Heap) (n0 : Nat) (v : Option Value) (h : Heap) (L : List Loc) : Prop := v = none ∧ Fr n0 L ∧ Keep h0 h [a1] ∧ Fld Z h a1 "com/example/libreconf/libreconf/pattern/Junction$State" "left" "Ljava/lang/Object;" (.ref wl) ∧ Fld Z h a1 "com/example/libreconf/libreconf/pattern/Junction$State" "right" "Ljava/lang/Object;" (.ref wr)
set_option maxRecDepth 65536 in
set_option maxHeartbeats 40000000 in
theorem rm_stRR (l : Launch) (Z : State) (a0 : Array Value) (hw : ∀ d ∈ tables_1, d.before a0 Z = true) (ws : List Jvm.Cond) (a1 : Addr) (wl : Addr) (wr : Addr) (h0 : Heap) (n0 : Nat) (Z0 : n0 ≤ h0.size) (O0 : Old Z n0 h0) (E_a1 : Exa Z h0 a1 "com/example/libreconf/libreconf/pattern/Junction$State") (F_a1_left : Fld Z h0 a1 "com/example/libreconf/libreconf/pattern/Junction$State" "left" "Ljava/lang/Object;" .null) (F_a1_right : Fld Z h0 a1 "com/example/libreconf/libreconf/pattern/Junction$State" "right" "Ljava/lang/Object;" .null) (ge_a1 : n0 ≤ a1) :
    MetFree l Y4 (head1 (Jvm.Cond.code Y4 prog_91_method_1_code 3 none :: ws) ({ frames := 2, cells := 0, slots := 0, locals := 24 } : Room)) (fun a U => a = #[(.ref a1), (.ref wl), (.ref wr)] ∧ Z.Warmed39 U.vm ∧ U.heap = h0) (fun _ _ _ _ _ => True) (fun _ U o U' => ∃ v L, o = .returned v ∧ Q_rm_stRR Z a1 wl wr h0 n0 v U'.heap L ∧ FrameEnd U o U' L ({ frames := 2, cells := 0, slots := 0, locals := 24 } : Room).cells ({ frames := 2, cells := 0, slots := 0, locals := 24 } : Room).slots) := by
  refine MetFree.of_bodySF (plainFor_of_name pn_com_example_libreconf_libreconf_pattern_Junction_State) hisR ?_
  intro p e s m args below meth c s₁ Bd hml0 hP hK
  obtain ⟨rfl, hZ, hh⟩ := hP
  have hx := Bd.exec
  have hby := Bd.bytes
  have hml : c.maxLocals = 3 := hml0
  have hown : s.vm.findClass "com/example/libreconf/libreconf/pattern/Junction$State" = some m.cls := findClass_of_methodNamed Bd.named
  have hnm := (name_of_methodNamed Bd.named Bd.method).1
  have X0 : Stand p l e ({ frames := 2, cells := 0, slots := 0, locals := 24 } : Room) s m #[(.ref a1), (.ref wl), (.ref wr)] below meth c s₁ [] 0 0 := Stand.of_body Bd
  have e0 : s₁.heap = h0 := by rw [← hh, Bd.state]; rfl
  have N0 := Fr.nil n0
  refine Goes.out (l := l) (c := c) (R := ({ frames := 2, cells := 0, slots := 0, locals := 24 } : Room)) (Q := Q_rm_stRR Z a1 wl wr h0 n0) Bd.notSynchronized ?_
  refine Goes.cast (g2 := mkF m 0 #[rv a1, rv wl, rv wr] []) (by first | (simp [entryFrame, mkF, argsToLocals, Value.category]; done) | rfl) ?_
  have K0 : Keep h0 h0 [a1] := Keep.refl h0 _
  have hws : ∀ x ∈ [a1], n0 ≤ x := (allS ge_a1 all0)
  refine Goes.step (T2 := s₁) (g2 := (mkF m 1 #[rv a1, rv wl, rv wr] [(.ref a1)])) (fun _ hr => XS.aloadN X0.here hx rfl (hb hby d4_0) rfl rfl hr) ?_
  have Zs36 : n0 ≤ h0.size := Nat.le_trans Z0 K0.1
  obtain ⟨_, _, ⟨T37, L37, k37, n37⟩, -, X37, ⟨Lc37, hQ37, l37, y37, z37⟩, st37⟩ := X0.specialBack hx (y := Y0) rfl hown (mvT hZ (tw hw 13 rfl)) (mvT hZ (tw hw 14 rfl)) (mvT hZ (tw hw 17 rfl)) (by decide) (backOf (W := 0) (rm_rec l Z a0 hw [] a1 h0 n0 Zs36 (Old.keep O0 K0 hws)) hZ (tw hw 17 rfl) (tw hw 16 rfl) (by decide) (by decide)) (g := (mkF m 1 #[rv a1, rv wl, rv wr] [(.ref a1)])) rfl (by rw [hml]; rfl) (Steps.refl _) (a := a1) (argsL := []) (rest := []) (lenOf pd_0 rfl) rfl (by show 2 * 0 + _ ≤ _; exact Nat.le_of_eq rfl) (hb hby d4_1) (fun _ _ => ⟨rfl, e0, (by decide : 0 + 0 ≤ _), (by decide : 0 + 0 ≤ _)⟩)
  dsimp only [Pt.U, Pt.locs, Pt.cells, Pt.slots] at X37 l37 y37 z37 st37 hQ37
  subst l37 y37 z37
  obtain ⟨rfl, N37q, e37⟩ := hQ37
  have N37 := Fr.app N0 N37q
  refine Goes.step (T2 := T37) (g2 := (mkF m 4 #[rv a1, rv wl, rv wr] [])) (fun _ hr => st37.trans hr) ?_
  refine Goes.step (T2 := T37) (g2 := (mkF m 5 #[rv a1, rv wl, rv wr] [(.ref a1)])) (fun _ hr => XS.aloadN X37.here hx rfl (hb hby d4_4) rfl rfl hr) ?_
  refine Goes.step (T2 := T37) (g2 := (mkF m 6 #[rv a1, rv wl, rv wr] [(.ref wl), (.ref a1)])) (fun _ hr => XS.aloadN X37.here hx rfl (hb hby d4_5) rfl rfl hr) ?_
  obtain ⟨T38, h38, X38, e38, W38, st38⟩ := putF X37 hx hZ hown (host := "") (Or.inl (tw hw 21 rfl)) Via.refl e37 F_a1_left E_a1 (Or.inr ⟨(tw hw 22 rfl), rfl, hnm⟩) (tw hw 8 rfl) (ty := (.object "java/lang/Object")) (by decide) rfl rfl (g := (mkF m 6 #[rv a1, rv wl, rv wr] [(.ref wl), (.ref a1)])) rfl rfl (hb hby d4_6)
  have E_a1_38 : Exa Z h38 a1 "com/example/libreconf/libreconf/pattern/Junction$State" := E_a1.wr W38
  have F_a1_right_38 : Fld Z h38 a1 "com/example/libreconf/libreconf/pattern/Junction$State" "right" "Ljava/lang/Object;" .null := F_a1_right.other W38 (Or.inr (slot_ne (Or.inr (tw hw 24 rfl)) (Or.inr (tw hw 22 rfl)) (by decide) (t := (.object "java/lang/Object")) (t' := (.object "java/lang/Object")) (by decide) (by decide)))
  have K38 : Keep h0 h38 [a1] := K0.wr W38 (Or.inl (List.mem_of_getElem? (i := 0) rfl))
  have N38 := Fr.snoc X38 N37 ge_a1
  have F_a1_left_38 : Fld Z h38 a1 "com/example/libreconf/libreconf/pattern/Junction$State" "left" "Ljava/lang/Object;" (.ref wl) := F_a1_left.same W38
  refine Goes.step (T2 := T38) (g2 := (mkF m 9 #[rv a1, rv wl, rv wr] [])) st38 ?_
  refine Goes.step (T2 := T38) (g2 := (mkF m 10 #[rv a1, rv wl, rv wr] [(.ref a1)])) (fun _ hr => XS.aloadN X38.here hx rfl (hb hby d4_9) rfl rfl hr) ?_
  refine Goes.step (T2 := T38) (g2 := (mkF m 11 #[rv a1, rv wl, rv wr] [(.ref wr), (.ref a1)])) (fun _ hr => XS.aloadN X38.here hx rfl (hb hby d4_10) rfl rfl hr) ?_
  obtain ⟨T39, h39, X39, e39, W39, st39⟩ := putF X38 hx hZ hown (host := "") (Or.inl (tw hw 23 rfl)) Via.refl e38 F_a1_right_38 E_a1_38 (Or.inr ⟨(tw hw 24 rfl), rfl, hnm⟩) (tw hw 8 rfl) (ty := (.object "java/lang/Object")) (by decide) rfl rfl (g := (mkF m 11 #[rv a1, rv wl, rv wr] [(.ref wr), (.ref a1)])) rfl rfl (hb hby d4_11)
  have E_a1_39 : Exa Z h39 a1 "com/example/libreconf/libreconf/pattern/Junction$State" := E_a1_38.wr W39
  have F_a1_left_39 : Fld Z h39 a1 "com/example/libreconf/libreconf/pattern/Junction$State" "left" "Ljava/lang/Object;" (.ref wl) := F_a1_left_38.other W39 (Or.inr (slot_ne (Or.inr (tw hw 22 rfl)) (Or.inr (tw hw 24 rfl)) (by decide) (t := (.object "java/lang/Object")) (t' := (.object "java/lang/Object")) (by decide) (by decide)))
  have K39 : Keep h0 h39 [a1] := K38.wr W39 (Or.inl (List.mem_of_getElem? (i := 0) rfl))
  have N39 := Fr.snoc X39 N38 ge_a1
  have F_a1_right_39 : Fld Z h39 a1 "com/example/libreconf/libreconf/pattern/Junction$State" "right" "Ljava/lang/Object;" (.ref wr) := F_a1_right_38.same W39
  refine Goes.step (T2 := T39) (g2 := (mkF m 14 #[rv a1, rv wl, rv wr] [])) st39 ?_
  exact Goes.ret (v := none) X39 (by decide) (by decide) (fun _ => rfl) (by show Q_rm_stRR Z a1 wl wr h0 n0 _ T39.heap _; rw [e39]; exact ⟨rfl, N39, K39, F_a1_left_39, F_a1_right_39⟩) (fun fs hr => X39.returnOut hx Bd.returns (hb hby d4_14) hr)
def Q_rm_setRR (Z : State) (a1 : Addr) (wl : Addr) (wr : Addr) (h0 : Heap) (n0 : Nat) (v : Option Value) (h : Heap) (L : List Loc) : Prop := v = some (.int (0 : Int32)) ∧ Fr n0 L ∧ h = h0
set_option maxRecDepth 65536 in
set_option maxHeartbeats 40000000 in
theorem rm_setRR (l : Launch) (Z : State) (a0 : Array Value) (hw : ∀ d ∈ tables_1, d.before a0 Z = true) (ws : List Jvm.Cond) (a1 : Addr) (wl : Addr) (wr : Addr) (h0 : Heap) (n0 : Nat) (Z0 : n0 ≤ h0.size) (O0 : Old Z n0 h0) (F_a1_left : Fld Z h0 a1 "com/example/libreconf/libreconf/pattern/Junction$State" "left" "Ljava/lang/Object;" (.ref wl)) (F_a1_right : Fld Z h0 a1 "com/example/libreconf/libreconf/pattern/Junction$State" "right" "Ljava/lang/Object;" (.ref wr)) :
    MetFree l Y5 (head1 (Jvm.Cond.code Y5 prog_91_method_2_code 1 (some .boolean) :: ws) ({ frames := 0, cells := 0, slots := 0, locals := 0 } : Room)) (fun a U => a = #[(.ref a1)] ∧ Z.Warmed39 U.vm ∧ U.heap = h0) (fun _ _ _ _ _ => True) (fun _ U o U' => ∃ v L, o = .returned v ∧ Q_rm_setRR Z a1 wl wr h0 n0 v U'.heap L ∧ FrameEnd U o U' L ({ frames := 0, cells := 0, slots := 0, locals := 0 } : Room).cells ({ frames := 0, cells := 0, slots := 0, locals := 0 } : Room).slots) := by
  refine MetFree.of_bodySF (plainFor_of_name pn_com_example_libreconf_libreconf_pattern_Junction_State) hisR ?_
  intro p e s m args below meth c s₁ Bd hml0 hP hK
  obtain ⟨rfl, hZ, hh⟩ := hP
  have hx := Bd.exec
  have hby := Bd.bytes
  have hml : c.maxLocals = 1 := hml0
  have hown : s.vm.findClass "com/example/libreconf/libreconf/pattern/Junction$State" = some m.cls := findClass_of_methodNamed Bd.named
  have hnm := (name_of_methodNamed Bd.named Bd.method).1
  have X0 : Stand p l e ({ frames := 0, cells := 0, slots := 0, locals := 0 } : Room) s m #[(.ref a1)] below meth c s₁ [] 0 0 := Stand.of_body Bd
  have e0 : s₁.heap = h0 := by rw [← hh, Bd.state]; rfl
  have N0 := Fr.nil n0
  refine Goes.out (l := l) (c := c) (R := ({ frames := 0, cells := 0, slots := 0, locals := 0 } : Room)) (Q := Q_rm_setRR Z a1 wl wr h0 n0) Bd.notSynchronized ?_
  refine Goes.cast (g2 := mkF m 0 #[rv a1] []) (by first | (simp [entryFrame, mkF, argsToLocals, Value.category]; done) | rfl) ?_
  have K0 : Keep h0 h0 [] := Keep.refl h0 _
  have hws : ∀ x ∈ ([] : List Addr), n0 ≤ x := all0
  refine Goes.step (T2 := s₁) (g2 := (mkF m 1 #[rv a1] [(.ref a1)])) (fun _ hr => XS.aloadN X0.here hx rfl (hb hby d5_0) rfl rfl hr) ?_
  obtain ⟨T40, X40, e40, st40⟩ := getF X0 hx hZ hown (host := "") (Or.inl (tw hw 21 rfl)) Via.refl e0 F_a1_left (g := (mkF m 1 #[rv a1] [(.ref a1)])) rfl rfl (hb hby d5_1)
  refine Goes.step (T2 := T40) (g2 := (mkF m 4 #[rv a1] [(.ref wl)])) st40 ?_
  refine Goes.step (T2 := T40) (g2 := (mkF m 18 #[rv a1] [])) (fun _ hr => Jvm.Free.XT.ifnonnullYes X40.here hx rfl (pc0 := 4) (pc' := 18) rfl (hb hby d5_4) rfl (by decide) (by decide) hr) ?_
  refine Goes.step (T2 := T40) (g2 := (mkF m 19 #[rv a1] [(.int (0 : Int32))])) (fun _ hr => XS.iconst X40.here hx rfl (hb hby d5_18) hr) ?_
  exact Goes.ret (v := some (.int (0 : Int32))) X40 (by decide) (by decide) (fun h => by rw [Bd.returns] at h; cases h) ⟨rfl, N0, e40⟩ (fun fs hr => retN X40 hx (t := .boolean) Bd.returns (by simp) (hb hby d5_19) hr)
theorem d6_0 : decode prog_91_method_6_code 0 = .ok (.aload_n 0, 1) := by decide +kernel
theorem d6_1 : decode prog_91_method_6_code 1 = .ok (.getfield 7, 3) := by decide +kernel
theorem d6_4 : decode prog_91_method_6_code 4 = .ok (.areturn, 1) := by decide +kernel
def Q_rm_leftN (Z : State) (a1 : Addr) (h0 : Heap) (n0 : Nat) (v : Option Value) (h : Heap) (L : List Loc) : Prop := v = some .null ∧ Fr n0 L ∧ h = h0
set_option maxRecDepth 65536 in
set_option maxHeartbeats 40000000 in
theorem rm_leftN (l : Launch) (Z : State) (a0 : Array Value) (hw : ∀ d ∈ tables_1, d.before a0 Z = true) (ws : List Jvm.Cond) (a1 : Addr) (h0 : Heap) (n0 : Nat) (Z0 : n0 ≤ h0.size) (O0 : Old Z n0 h0) (F_a1_left : Fld Z h0 a1 "com/example/libreconf/libreconf/pattern/Junction$State" "left" "Ljava/lang/Object;" .null) :
    MetFree l Y6 (head1 (Jvm.Cond.code Y6 prog_91_method_6_code 1 (some (.object "java/lang/Object")) :: ws) ({ frames := 0, cells := 0, slots := 0, locals := 0 } : Room)) (fun a U => a = #[(.ref a1)] ∧ Z.Warmed39 U.vm ∧ U.heap = h0) (fun _ _ _ _ _ => True) (fun _ U o U' => ∃ v L, o = .returned v ∧ Q_rm_leftN Z a1 h0 n0 v U'.heap L ∧ FrameEnd U o U' L ({ frames := 0, cells := 0, slots := 0, locals := 0 } : Room).cells ({ frames := 0, cells := 0, slots := 0, locals := 0 } : Room).slots) := by
  refine MetFree.of_bodySF (plainFor_of_name pn_com_example_libreconf_libreconf_pattern_Junction_State) hisR ?_
  intro p e s m args below meth c s₁ Bd hml0 hP hK
  obtain ⟨rfl, hZ, hh⟩ := hP
  have hx := Bd.exec
  have hby := Bd.bytes
  have hml : c.maxLocals = 1 := hml0
  have hown : s.vm.findClass "com/example/libreconf/libreconf/pattern/Junction$State" = some m.cls := findClass_of_methodNamed Bd.named
  have hnm := (name_of_methodNamed Bd.named Bd.method).1
  have X0 : Stand p l e ({ frames := 0, cells := 0, slots := 0, locals := 0 } : Room) s m #[(.ref a1)] below meth c s₁ [] 0 0 := Stand.of_body Bd
  have e0 : s₁.heap = h0 := by rw [← hh, Bd.state]; rfl
  have N0 := Fr.nil n0
  refine Goes.out (l := l) (c := c) (R := ({ frames := 0, cells := 0, slots := 0, locals := 0 } : Room)) (Q := Q_rm_leftN Z a1 h0 n0) Bd.notSynchronized ?_
  refine Goes.cast (g2 := mkF m 0 #[rv a1] []) (by first | (simp [entryFrame, mkF, argsToLocals, Value.category]; done) | rfl) ?_
  have K0 : Keep h0 h0 [] := Keep.refl h0 _
  have hws : ∀ x ∈ ([] : List Addr), n0 ≤ x := all0
  refine Goes.step (T2 := s₁) (g2 := (mkF m 1 #[rv a1] [(.ref a1)])) (fun _ hr => XS.aloadN X0.here hx rfl (hb hby d6_0) rfl rfl hr) ?_
  obtain ⟨T41, X41, e41, st41⟩ := getF X0 hx hZ hown (host := "") (Or.inl (tw hw 21 rfl)) Via.refl e0 F_a1_left (g := (mkF m 1 #[rv a1] [(.ref a1)])) rfl rfl (hb hby d6_1)
  refine Goes.step (T2 := T41) (g2 := (mkF m 4 #[rv a1] [.null])) st41 ?_
  exact Goes.ret (v := some .null) X41 (by decide) (by decide) (fun h => by rw [Bd.returns] at h; cases h) ⟨rfl, N0, e41⟩ (fun fs hr => retOut X41 hx Bd.returns rfl (Or.inr (Or.inr (Or.inr (Or.inr ⟨rfl, rfl, rfl⟩)))) (hb hby d6_4) hr)
theorem d7_0 : decode prog_91_method_7_code 0 = .ok (.aload_n 0, 1) := by decide +kernel
theorem d7_1 : decode prog_91_method_7_code 1 = .ok (.getfield 13, 3) := by decide +kernel
theorem d7_4 : decode prog_91_method_7_code 4 = .ok (.areturn, 1) := by decide +kernel
def Q_rm_rightN (Z : State) (a1 : Addr) (h0 : Heap) (n0 : Nat) (v : Option Value) (h : Heap) (L : List Loc) : Prop := v = some .null ∧ Fr n0 L ∧ h = h0
set_option maxRecDepth 65536 in
set_option maxHeartbeats 40000000 in
theorem rm_rightN (l : Launch) (Z : State) (a0 : Array Value) (hw : ∀ d ∈ tables_1, d.before a0 Z = true) (ws : List Jvm.Cond) (a1 : Addr) (h0 : Heap) (n0 : Nat) (Z0 : n0 ≤ h0.size) (O0 : Old Z n0 h0) (F_a1_right : Fld Z h0 a1 "com/example/libreconf/libreconf/pattern/Junction$State" "right" "Ljava/lang/Object;" .null) :
    MetFree l Y7 (head1 (Jvm.Cond.code Y7 prog_91_method_7_code 1 (some (.object "java/lang/Object")) :: ws) ({ frames := 0, cells := 0, slots := 0, locals := 0 } : Room)) (fun a U => a = #[(.ref a1)] ∧ Z.Warmed39 U.vm ∧ U.heap = h0) (fun _ _ _ _ _ => True) (fun _ U o U' => ∃ v L, o = .returned v ∧ Q_rm_rightN Z a1 h0 n0 v U'.heap L ∧ FrameEnd U o U' L ({ frames := 0, cells := 0, slots := 0, locals := 0 } : Room).cells ({ frames := 0, cells := 0, slots := 0, locals := 0 } : Room).slots) := by
  refine MetFree.of_bodySF (plainFor_of_name pn_com_example_libreconf_libreconf_pattern_Junction_State) hisR ?_
  intro p e s m args below meth c s₁ Bd hml0 hP hK
  obtain ⟨rfl, hZ, hh⟩ := hP
  have hx := Bd.exec
  have hby := Bd.bytes
  have hml : c.maxLocals = 1 := hml0
  have hown : s.vm.findClass "com/example/libreconf/libreconf/pattern/Junction$State" = some m.cls := findClass_of_methodNamed Bd.named
  have hnm := (name_of_methodNamed Bd.named Bd.method).1
  have X0 : Stand p l e ({ frames := 0, cells := 0, slots := 0, locals := 0 } : Room) s m #[(.ref a1)] below meth c s₁ [] 0 0 := Stand.of_body Bd
  have e0 : s₁.heap = h0 := by rw [← hh, Bd.state]; rfl
  have N0 := Fr.nil n0
  refine Goes.out (l := l) (c := c) (R := ({ frames := 0, cells := 0, slots := 0, locals := 0 } : Room)) (Q := Q_rm_rightN Z a1 h0 n0) Bd.notSynchronized ?_
  refine Goes.cast (g2 := mkF m 0 #[rv a1] []) (by first | (simp [entryFrame, mkF, argsToLocals, Value.category]; done) | rfl) ?_
  have K0 : Keep h0 h0 [] := Keep.refl h0 _
  have hws : ∀ x ∈ ([] : List Addr), n0 ≤ x := all0
  refine Goes.step (T2 := s₁) (g2 := (mkF m 1 #[rv a1] [(.ref a1)])) (fun _ hr => XS.aloadN X0.here hx rfl (hb hby d7_0) rfl rfl hr) ?_
  obtain ⟨T42, X42, e42, st42⟩ := getF X0 hx hZ hown (host := "") (Or.inl (tw hw 23 rfl)) Via.refl e0 F_a1_right (g := (mkF m 1 #[rv a1] [(.ref a1)])) rfl rfl (hb hby d7_1)
  refine Goes.step (T2 := T42) (g2 := (mkF m 4 #[rv a1] [.null])) st42 ?_
  exact Goes.ret (v := some .null) X42 (by decide) (by decide) (fun h => by rw [Bd.returns] at h; cases h) ⟨rfl, N0, e42⟩ (fun fs hr => retOut X42 hx Bd.returns rfl (Or.inr (Or.inr (Or.inr (Or.inr ⟨rfl, rfl, rfl⟩)))) (hb hby d7_4) hr)
def Q_rm_leftR (Z : State) (a1 : Addr) (wl : Addr) (h0 : Heap) (n0 : Nat) (v : Option Value) (h : Heap) (L : List Loc) : Prop := v = some (.ref wl) ∧ Fr n0 L ∧ h = h0
set_option maxRecDepth 65536 in
set_option maxHeartbeats 40000000 in
theorem rm_leftR (l : Launch) (Z : State) (a0 : Array Value) (hw : ∀ d ∈ tables_1, d.before a0 Z = true) (ws : List Jvm.Cond) (a1 : Addr) (wl : Addr) (h0 : Heap) (n0 : Nat) (Z0 : n0 ≤ h0.size) (O0 : Old Z n0 h0) (F_a1_left : Fld Z h0 a1 "com/example/libreconf/libreconf/pattern/Junction$State" "left" "Ljava/lang/Object;" (.ref wl)) :
    MetFree l Y6 (head1 (Jvm.Cond.code Y6 prog_91_method_6_code 1 (some (.object "java/lang/Object")) :: ws) ({ frames := 0, cells := 0, slots := 0, locals := 0 } : Room)) (fun a U => a = #[(.ref a1)] ∧ Z.Warmed39 U.vm ∧ U.heap = h0) (fun _ _ _ _ _ => True) (fun _ U o U' => ∃ v L, o = .returned v ∧ Q_rm_leftR Z a1 wl h0 n0 v U'.heap L ∧ FrameEnd U o U' L ({ frames := 0, cells := 0, slots := 0, locals := 0 } : Room).cells ({ frames := 0, cells := 0, slots := 0, locals := 0 } : Room).slots) := by
  refine MetFree.of_bodySF (plainFor_of_name pn_com_example_libreconf_libreconf_pattern_Junction_State) hisR ?_
  intro p e s m args below meth c s₁ Bd hml0 hP hK
  obtain ⟨rfl, hZ, hh⟩ := hP
  have hx := Bd.exec
  have hby := Bd.bytes
  have hml : c.maxLocals = 1 := hml0
  have hown : s.vm.findClass "com/example/libreconf/libreconf/pattern/Junction$State" = some m.cls := findClass_of_methodNamed Bd.named
  have hnm := (name_of_methodNamed Bd.named Bd.method).1
  have X0 : Stand p l e ({ frames := 0, cells := 0, slots := 0, locals := 0 } : Room) s m #[(.ref a1)] below meth c s₁ [] 0 0 := Stand.of_body Bd
  have e0 : s₁.heap = h0 := by rw [← hh, Bd.state]; rfl
  have N0 := Fr.nil n0
  refine Goes.out (l := l) (c := c) (R := ({ frames := 0, cells := 0, slots := 0, locals := 0 } : Room)) (Q := Q_rm_leftR Z a1 wl h0 n0) Bd.notSynchronized ?_
  refine Goes.cast (g2 := mkF m 0 #[rv a1] []) (by first | (simp [entryFrame, mkF, argsToLocals, Value.category]; done) | rfl) ?_
  have K0 : Keep h0 h0 [] := Keep.refl h0 _
  have hws : ∀ x ∈ ([] : List Addr), n0 ≤ x := all0
  refine Goes.step (T2 := s₁) (g2 := (mkF m 1 #[rv a1] [(.ref a1)])) (fun _ hr => XS.aloadN X0.here hx rfl (hb hby d6_0) rfl rfl hr) ?_
  obtain ⟨T43, X43, e43, st43⟩ := getF X0 hx hZ hown (host := "") (Or.inl (tw hw 21 rfl)) Via.refl e0 F_a1_left (g := (mkF m 1 #[rv a1] [(.ref a1)])) rfl rfl (hb hby d6_1)
  refine Goes.step (T2 := T43) (g2 := (mkF m 4 #[rv a1] [(.ref wl)])) st43 ?_
  exact Goes.ret (v := some (.ref wl)) X43 (by decide) (by decide) (fun h => by rw [Bd.returns] at h; cases h) ⟨rfl, N0, e43⟩ (fun fs hr => retOut X43 hx Bd.returns rfl (Or.inr (Or.inr (Or.inr (Or.inr ⟨rfl, rfl, rfl⟩)))) (hb hby d6_4) hr)
def Q_rm_rightR (Z : State) (a1 : Addr) (wl : Addr) (h0 : Heap) (n0 : Nat) (v : Option Value) (h : Heap) (L : List Loc) : Prop := v = some (.ref wl) ∧ Fr n0 L ∧ h = h0
set_option maxRecDepth 65536 in
set_option maxHeartbeats 40000000 in
theorem rm_rightR (l : Launch) (Z : State) (a0 : Array Value) (hw : ∀ d ∈ tables_1, d.before a0 Z = true) (ws : List Jvm.Cond) (a1 : Addr) (wl : Addr) (h0 : Heap) (n0 : Nat) (Z0 : n0 ≤ h0.size) (O0 : Old Z n0 h0) (F_a1_right : Fld Z h0 a1 "com/example/libreconf/libreconf/pattern/Junction$State" "right" "Ljava/lang/Object;" (.ref wl)) :
    MetFree l Y7 (head1 (Jvm.Cond.code Y7 prog_91_method_7_code 1 (some (.object "java/lang/Object")) :: ws) ({ frames := 0, cells := 0, slots := 0, locals := 0 } : Room)) (fun a U => a = #[(.ref a1)] ∧ Z.Warmed39 U.vm ∧ U.heap = h0) (fun _ _ _ _ _ => True) (fun _ U o U' => ∃ v L, o = .returned v ∧ Q_rm_rightR Z a1 wl h0 n0 v U'.heap L ∧ FrameEnd U o U' L ({ frames := 0, cells := 0, slots := 0, locals := 0 } : Room).cells ({ frames := 0, cells := 0, slots := 0, locals := 0 } : Room).slots) := by
  refine MetFree.of_bodySF (plainFor_of_name pn_com_example_libreconf_libreconf_pattern_Junction_State) hisR ?_
  intro p e s m args below meth c s₁ Bd hml0 hP hK
  obtain ⟨rfl, hZ, hh⟩ := hP
  have hx := Bd.exec
  have hby := Bd.bytes
  have hml : c.maxLocals = 1 := hml0
  have hown : s.vm.findClass "com/example/libreconf/libreconf/pattern/Junction$State" = some m.cls := findClass_of_methodNamed Bd.named
  have hnm := (name_of_methodNamed Bd.named Bd.method).1
  have X0 : Stand p l e ({ frames := 0, cells := 0, slots := 0, locals := 0 } : Room) s m #[(.ref a1)] below meth c s₁ [] 0 0 := Stand.of_body Bd
  have e0 : s₁.heap = h0 := by rw [← hh, Bd.state]; rfl
  have N0 := Fr.nil n0
  refine Goes.out (l := l) (c := c) (R := ({ frames := 0, cells := 0, slots := 0, locals := 0 } : Room)) (Q := Q_rm_rightR Z a1 wl h0 n0) Bd.notSynchronized ?_
  refine Goes.cast (g2 := mkF m 0 #[rv a1] []) (by first | (simp [entryFrame, mkF, argsToLocals, Value.category]; done) | rfl) ?_
  have K0 : Keep h0 h0 [] := Keep.refl h0 _
  have hws : ∀ x ∈ ([] : List Addr), n0 ≤ x := all0
  refine Goes.step (T2 := s₁) (g2 := (mkF m 1 #[rv a1] [(.ref a1)])) (fun _ hr => XS.aloadN X0.here hx rfl (hb hby d7_0) rfl rfl hr) ?_
  obtain ⟨T44, X44, e44, st44⟩ := getF X0 hx hZ hown (host := "") (Or.inl (tw hw 23 rfl)) Via.refl e0 F_a1_right (g := (mkF m 1 #[rv a1] [(.ref a1)])) rfl rfl (hb hby d7_1)
  refine Goes.step (T2 := T44) (g2 := (mkF m 4 #[rv a1] [(.ref wl)])) st44 ?_
  exact Goes.ret (v := some (.ref wl)) X44 (by decide) (by decide) (fun h => by rw [Bd.returns] at h; cases h) ⟨rfl, N0, e44⟩ (fun fs hr => retOut X44 hx Bd.returns rfl (Or.inr (Or.inr (Or.inr (Or.inr ⟨rfl, rfl, rfl⟩)))) (hb hby d7_4) hr)
theorem pn_com_example_libreconf_libreconf_pattern_StateSettledPinLaw : plainName "com/example/libreconf/libreconf/pattern/StateSettledPinLaw" = true := by first | (simp [plainName, overriddenIn]; done) | decide +kernel
def Q_rm_law (Z : State) (p1 : Int32) (p2 : Int32) (p3 : Int32) (ca : Addr) (cl : Cell) (h0 : Heap) (n0 : Nat) (v : Option Value) (h : Heap) (L : List Loc) : Prop := v = some (.int (1 : Int32)) ∧ Fr n0 L
set_option maxRecDepth 65536 in
set_option maxHeartbeats 40000000 in
theorem rm_law (l : Launch) (Z : State) (a0 : Array Value) (hw : ∀ d ∈ tables_1, d.before a0 Z = true) (ws : List Jvm.Cond) (p1 : Int32) (p2 : Int32) (p3 : Int32) (ca : Addr) (cl : Cell) (h0 : Heap) (n0 : Nat) (Z0 : n0 ≤ h0.size) (O0 : Old Z n0 h0) (S_Integer_IntegerCache_high_old : Sta Z Z.heap "java/lang/Integer$IntegerCache" "high" "I" (.int (127 : Int32))) (S_Integer_IntegerCache_cache_old : Sta Z Z.heap "java/lang/Integer$IntegerCache" "cache" "[Ljava/lang/Integer;" (.ref ca)) (Ar_ca : Arr Z Z.heap ca cl (.object "java/lang/Integer")) (sz_cl : cl.slots.size = 256) (el_cl : ∀ i : Nat, i < 256 → ∃ y : Addr, cl.slots[i]? = some (.ref y)) :
    MetFree l x (head1 (Jvm.Cond.code x code maxLocals ret :: ws) room_1) (fun a U => a = #[(.int p1), (.int p2), (.int p3)] ∧ Z.Warmed39 U.vm ∧ U.heap = h0) (fun _ _ _ _ _ => True) (fun _ U o U' => ∃ v L, o = .returned v ∧ Q_rm_law Z p1 p2 p3 ca cl h0 n0 v U'.heap L ∧ FrameEnd U o U' L room_1.cells room_1.slots) := by
  refine MetFree.of_bodySF (plainFor_of_name pn_com_example_libreconf_libreconf_pattern_StateSettledPinLaw) hisR ?_
  intro p e s m args below meth c s₁ Bd hml0 hP hK
  obtain ⟨rfl, hZ, hh⟩ := hP
  have hx := Bd.exec
  have hby := Bd.bytes
  have hml : c.maxLocals = 11 := hml0
  have hown : s.vm.findClass "com/example/libreconf/libreconf/pattern/StateSettledPinLaw" = some m.cls := findClass_of_methodNamed Bd.named
  have hnm := (name_of_methodNamed Bd.named Bd.method).1
  have X0 : Stand p l e room_1 s m #[(.int p1), (.int p2), (.int p3)] below meth c s₁ [] 0 0 := Stand.of_body Bd
  have e0 : s₁.heap = h0 := by rw [← hh, Bd.state]; rfl
  have N0 := Fr.nil n0
  refine Goes.out (l := l) (c := c) (R := room_1) (Q := Q_rm_law Z p1 p2 p3 ca cl h0 n0) Bd.notSynchronized ?_
  refine Goes.cast (g2 := mkF m 0 #[iv p1, iv p2, iv p3, .unset, .unset, .unset, .unset, .unset, .unset, .unset, .unset] []) (by first | (simp [entryFrame, mkF, argsToLocals, Value.category, maxLocals]; done) | rfl) ?_
  have K0 : Keep h0 h0 [] := Keep.refl h0 _
  have hws : ∀ x ∈ ([] : List Addr), n0 ≤ x := all0
  refine Goes.step (T2 := s₁) (g2 := (mkF m 1 #[iv p1, iv p2, iv p3, .unset, .unset, .unset, .unset, .unset, .unset, .unset, .unset] [(.int p1)])) (fun _ hr => XS.iloadN X0.here hx rfl (hb hby at_0) rfl  hr) ?_
  refine Goes.step (T2 := s₁) (g2 := (mkF m 2 #[iv p1, iv p2, iv p3, .unset, .unset, .unset, .unset, .unset, .unset, .unset, .unset] [(.int (1 : Int32)), (.int p1)])) (fun _ hr => XS.iconst X0.here hx rfl (hb hby at_1) hr) ?_
  refine Goes.step (T2 := s₁) (g2 := (mkF m 3 #[iv p1, iv p2, iv p3, .unset, .unset, .unset, .unset, .unset, .unset, .unset, .unset] [(.int (p1 &&& (1 : Int32)))])) (fun _ hr => XS.iand X0.here hx rfl (hb hby at_2) rfl hr) ?_
  by_cases hc3_45 : (p1 &&& (1 : Int32)) = (0 : Int32)
  · refine Goes.step (T2 := s₁) (g2 := (mkF m 10 #[iv p1, iv p2, iv p3, .unset, .unset, .unset, .unset, .unset, .unset, .unset, .unset] [])) (fun _ hr => XS.ifYes X0.here hx rfl (pc0 := 3) (pc' := 10) rfl (hb hby at_3) rfl ((if0 _ _).trans (teq hc3_45).1) (by decide) (by decide) hr) ?_
    refine Goes.step (T2 := s₁) (g2 := (mkF m 11 #[iv p1, iv p2, iv p3, .unset, .unset, .unset, .unset, .unset, .unset, .unset, .unset] [(.int (0 : Int32))])) (fun _ hr => XS.iconst X0.here hx rfl (hb hby at_10) hr) ?_
    refine Goes.step (T2 := s₁) (g2 := (mkF m 12 #[iv p1, iv p2, iv p3, iv 0, .unset, .unset, .unset, .unset, .unset, .unset, .unset] [])) (fun _ hr => XS.istoreN X0.here hx rfl (hb hby at_11) rfl (l' := #[iv p1, iv p2, iv p3, iv 0, .unset, .unset, .unset, .unset, .unset, .unset, .unset]) rfl hr) ?_
    refine Goes.step (T2 := s₁) (g2 := (mkF m 13 #[iv p1, iv p2, iv p3, iv 0, .unset, .unset, .unset, .unset, .unset, .unset, .unset] [(.int p1)])) (fun _ hr => XS.iloadN X0.here hx rfl (hb hby at_12) rfl  hr) ?_
    refine Goes.step (T2 := s₁) (g2 := (mkF m 14 #[iv p1, iv p2, iv p3, iv 0, .unset, .unset, .unset, .unset, .unset, .unset, .unset] [(.int (2 : Int32)), (.int p1)])) (fun _ hr => XS.iconst X0.here hx rfl (hb hby at_13) hr) ?_
    refine Goes.step (T2 := s₁) (g2 := (mkF m 15 #[iv p1, iv p2, iv p3, iv 0, .unset, .unset, .unset, .unset, .unset, .unset, .unset] [(.int (p1 &&& (2 : Int32)))])) (fun _ hr => XS.iand X0.here hx rfl (hb hby at_14) rfl hr) ?_
    by_cases hc15_46 : (p1 &&& (2 : Int32)) = (0 : Int32)
    · refine Goes.step (T2 := s₁) (g2 := (mkF m 22 #[iv p1, iv p2, iv p3, iv 0, .unset, .unset, .unset, .unset, .unset, .unset, .unset] [])) (fun _ hr => XS.ifYes X0.here hx rfl (pc0 := 15) (pc' := 22) rfl (hb hby at_15) rfl ((if0 _ _).trans (teq hc15_46).1) (by decide) (by decide) hr) ?_
      refine Goes.step (T2 := s₁) (g2 := (mkF m 23 #[iv p1, iv p2, iv p3, iv 0, .unset, .unset, .unset, .unset, .unset, .unset, .unset] [(.int (0 : Int32))])) (fun _ hr => XS.iconst X0.here hx rfl (hb hby at_22) hr) ?_
      refine Goes.step (T2 := s₁) (g2 := (mkF m 25 #[iv p1, iv p2, iv p3, iv 0, iv 0, .unset, .unset, .unset, .unset, .unset, .unset] [])) (fun _ hr => XS.istore X0.here hx rfl (hb hby at_23) rfl (l' := #[iv p1, iv p2, iv p3, iv 0, iv 0, .unset, .unset, .unset, .unset, .unset, .unset]) rfl hr) ?_
      refine Goes.step (T2 := s₁) (g2 := (mkF m 26 #[iv p1, iv p2, iv p3, iv 0, iv 0, .unset, .unset, .unset, .unset, .unset, .unset] [(.int (0 : Int32))])) (fun _ hr => XS.iloadN X0.here hx rfl (hb hby at_25) rfl  hr) ?_
      refine Goes.step (T2 := s₁) (g2 := (mkF m 33 #[iv p1, iv p2, iv p3, iv 0, iv 0, .unset, .unset, .unset, .unset, .unset, .unset] [])) (fun _ hr => XS.ifYes X0.here hx rfl (pc0 := 26) (pc' := 33) rfl (hb hby at_26) rfl ((if0 _ _).trans (teq (by decide : (0 : Int32) = (0 : Int32))).1) (by decide) (by decide) hr) ?_
      refine Goes.step (T2 := s₁) (g2 := (mkF m 34 #[iv p1, iv p2, iv p3, iv 0, iv 0, .unset, .unset, .unset, .unset, .unset, .unset] [(.int p2)])) (fun _ hr => XS.iloadN X0.here hx rfl (hb hby at_33) rfl  hr) ?_
      have Zs47 : n0 ≤ h0.size := Nat.le_trans Z0 K0.1
      obtain ⟨_, _, ⟨T48, L48, k48, n48⟩, -, X48, ⟨Lc48, hQ48, l48, y48, z48⟩, st48⟩ := Jvm.LawKit.callS X0 hx (y := Y3) hown (mvT hZ (tw hw 0 rfl)) (mvT hZ (tw hw 1 rfl)) (mvT hZ (tw hw 2 rfl)) (mvT hZ (tw hw 3 rfl)) (by decide) (backOf (W := 0) (rm_vo l Z a0 hw [] p2 ca cl h0 n0 Zs47 (Old.keep O0 K0 hws) S_Integer_IntegerCache_high_old S_Integer_IntegerCache_cache_old Ar_ca sz_cl el_cl) hZ (tw hw 3 rfl) (tw hw 2 rfl) (by decide) (by decide)) (g := (mkF m 34 #[iv p1, iv p2, iv p3, iv 0, iv 0, .unset, .unset, .unset, .unset, .unset, .unset] [(.int p2)])) rfl (by rw [hml]; rfl) (argsL := [(.int p2)]) (rest := []) (lenOf pd_2 rfl) rfl (by show 2 * 0 + _ ≤ _; exact Nat.le_of_eq rfl) (hb hby at_34) (fun _ _ => ⟨rfl, e0, (by decide : 0 + 1 ≤ _), (by decide : 0 + 1 ≤ _)⟩)
      dsimp only [Pt.U, Pt.locs, Pt.cells, Pt.slots] at X48 l48 y48 z48 st48 hQ48
      subst l48 y48 z48
      obtain ⟨w48, rfl, N48q, Kc48⟩ := hQ48
      have N48 := Fr.app N0 N48q
      have K48 : Keep h0 T48.heap [] := K0.trans Kc48 all0
      refine Goes.step (T2 := T48) (g2 := (mkF m 37 #[iv p1, iv p2, iv p3, iv 0, iv 0, .unset, .unset, .unset, .unset, .unset, .unset] [(.ref w48)])) st48 ?_
      refine Goes.step (T2 := T48) (g2 := (mkF m 39 #[iv p1, iv p2, iv p3, iv 0, iv 0, rv w48, .unset, .unset, .unset, .unset, .unset] [])) (fun _ hr => XS.astore X48.here hx rfl (hb hby at_37) rfl rfl (l' := #[iv p1, iv p2, iv p3, iv 0, iv 0, rv w48, .unset, .unset, .unset, .unset, .unset]) rfl hr) ?_
      refine Goes.step (T2 := T48) (g2 := (mkF m 41 #[iv p1, iv p2, iv p3, iv 0, iv 0, rv w48, .unset, .unset, .unset, .unset, .unset] [(.int (0 : Int32))])) (fun _ hr => XS.iload X48.here hx rfl (hb hby at_39) rfl  hr) ?_
      refine Goes.step (T2 := T48) (g2 := (mkF m 48 #[iv p1, iv p2, iv p3, iv 0, iv 0, rv w48, .unset, .unset, .unset, .unset, .unset] [])) (fun _ hr => XS.ifYes X48.here hx rfl (pc0 := 41) (pc' := 48) rfl (hb hby at_41) rfl ((if0 _ _).trans (teq (by decide : (0 : Int32) = (0 : Int32))).1) (by decide) (by decide) hr) ?_
      refine Goes.step (T2 := T48) (g2 := (mkF m 49 #[iv p1, iv p2, iv p3, iv 0, iv 0, rv w48, .unset, .unset, .unset, .unset, .unset] [(.int p3)])) (fun _ hr => XS.iloadN X48.here hx rfl (hb hby at_48) rfl  hr) ?_
      have Zs49 : n0 ≤ T48.heap.size := Nat.le_trans Z0 K48.1
      obtain ⟨_, _, ⟨T50, L50, k50, n50⟩, -, X50, ⟨Lc50, hQ50, l50, y50, z50⟩, st50⟩ := Jvm.LawKit.callS X48 hx (y := Y3) hown (mvT hZ (tw hw 0 rfl)) (mvT hZ (tw hw 1 rfl)) (mvT hZ (tw hw 2 rfl)) (mvT hZ (tw hw 3 rfl)) (by decide) (backOf (W := 0) (rm_vo l Z a0 hw [] p3 ca cl T48.heap n0 Zs49 (Old.keep O0 K48 hws) S_Integer_IntegerCache_high_old S_Integer_IntegerCache_cache_old Ar_ca sz_cl el_cl) hZ (tw hw 3 rfl) (tw hw 2 rfl) (by decide) (by decide)) (g := (mkF m 49 #[iv p1, iv p2, iv p3, iv 0, iv 0, rv w48, .unset, .unset, .unset, .unset, .unset] [(.int p3)])) rfl (by rw [hml]; rfl) (argsL := [(.int p3)]) (rest := []) (lenOf pd_2 rfl) rfl (by show 2 * 0 + _ ≤ _; exact Nat.le_of_eq rfl) (hb hby at_49) (fun _ _ => ⟨rfl, rfl, (by decide : 1 + 1 ≤ _), (by decide : 1 + 1 ≤ _)⟩)
      dsimp only [Pt.U, Pt.locs, Pt.cells, Pt.slots] at X50 l50 y50 z50 st50 hQ50
      subst l50 y50 z50
      obtain ⟨w50, rfl, N50q, Kc50⟩ := hQ50
      have N50 := Fr.app N48 N50q
      have K50 : Keep h0 T50.heap [] := K48.trans Kc50 all0
      refine Goes.step (T2 := T50) (g2 := (mkF m 52 #[iv p1, iv p2, iv p3, iv 0, iv 0, rv w48, .unset, .unset, .unset, .unset, .unset] [(.ref w50)])) st50 ?_
      refine Goes.step (T2 := T50) (g2 := (mkF m 54 #[iv p1, iv p2, iv p3, iv 0, iv 0, rv w48, rv w50, .unset, .unset, .unset, .unset] [])) (fun _ hr => XS.astore X50.here hx rfl (hb hby at_52) rfl rfl (l' := #[iv p1, iv p2, iv p3, iv 0, iv 0, rv w48, rv w50, .unset, .unset, .unset, .unset]) rfl hr) ?_
      obtain ⟨T51, h51, X51, e51, E51, A51, D51, -, st51⟩ := newO X50 hx hZ hown (tw hw 7 rfl) (tw hw 8 rfl) (tw hw 9 rfl) rfl (g := (mkF m 54 #[iv p1, iv p2, iv p3, iv 0, iv 0, rv w48, rv w50, .unset, .unset, .unset, .unset] [])) rfl (hb hby at_54) (by decide) (by decide)
      obtain ⟨b51, g51⟩ : ∃ z, z = T50.heap.size := ⟨_, rfl⟩
      rw [← g51] at A51 D51 st51
      have sz_b51 : h0.size ≤ b51 := Nat.le_trans K50.1 (Nat.le_of_eq g51.symm)
      have ge_b51 : n0 ≤ b51 := Nat.le_trans Z0 sz_b51
      have K51 : Keep h0 h51 [] := K50.ext E51
      have F_b51_left_51 : Fld Z h51 b51 "com/example/libreconf/libreconf/pattern/Junction$State" "left" "Ljava/lang/Object;" .null := D51 (Or.inr (tw hw 22 rfl)) (ty := (.object "java/lang/Object")) (by decide)
      have F_b51_right_51 : Fld Z h51 b51 "com/example/libreconf/libreconf/pattern/Junction$State" "right" "Ljava/lang/Object;" .null := D51 (Or.inr (tw hw 24 rfl)) (ty := (.object "java/lang/Object")) (by decide)
      refine Goes.step (T2 := T51) (g2 := (mkF m 57 #[iv p1, iv p2, iv p3, iv 0, iv 0, rv w48, rv w50, .unset, .unset, .unset, .unset] [(.ref b51)])) st51 ?_
      refine Goes.step (T2 := T51) (g2 := (mkF m 58 #[iv p1, iv p2, iv p3, iv 0, iv 0, rv w48, rv w50, .unset, .unset, .unset, .unset] [(.ref b51), (.ref b51)])) (fun _ hr => XS.dup X51.here hx rfl (hb hby at_57) rfl rfl hr) ?_
      refine Goes.step (T2 := T51) (g2 := (mkF m 60 #[iv p1, iv p2, iv p3, iv 0, iv 0, rv w48, rv w50, .unset, .unset, .unset, .unset] [(.ref w48), (.ref b51), (.ref b51)])) (fun _ hr => XS.aload X51.here hx rfl (hb hby at_58) rfl rfl hr) ?_
      refine Goes.step (T2 := T51) (g2 := (mkF m 62 #[iv p1, iv p2, iv p3, iv 0, iv 0, rv w48, rv w50, .unset, .unset, .unset, .unset] [(.ref w50), (.ref w48), (.ref b51), (.ref b51)])) (fun _ hr => XS.aload X51.here hx rfl (hb hby at_60) rfl rfl hr) ?_
      have Zs52 : n0 ≤ h51.size := Nat.le_trans Z0 K51.1
      obtain ⟨_, _, ⟨T53, L53, k53, n53⟩, -, X53, ⟨Lc53, hQ53, l53, y53, z53⟩, st53⟩ := X51.specialBack hx (y := Y4) rfl hown (mvT hZ (tw hw 10 rfl)) (mvT hZ (tw hw 11 rfl)) (mvT hZ (tw hw 12 rfl)) (by decide) (backOf (W := 1) (rm_stRR l Z a0 hw [] b51 w48 w50 h51 n0 Zs52 (Old.keep O0 K51 hws) A51 F_b51_left_51 F_b51_right_51 ge_b51) hZ (tw hw 12 rfl) (tw hw 9 rfl) (by decide) (by decide)) (g := (mkF m 62 #[iv p1, iv p2, iv p3, iv 0, iv 0, rv w48, rv w50, .unset, .unset, .unset, .unset] [(.ref w50), (.ref w48), (.ref b51), (.ref b51)])) rfl (by rw [hml]; rfl) (Steps.refl _) (a := b51) (argsL := [(.ref w48), (.ref w50)]) (rest := [(.ref b51)]) (lenOf pd_3 rfl) rfl (by show 2 * 0 + _ ≤ _; exact Nat.le_of_eq rfl) (hb hby at_62) (fun _ _ => ⟨rfl, e51, (by decide : 3 + 0 ≤ _), (by decide : 4 + 0 ≤ _)⟩)
      dsimp only [Pt.U, Pt.locs, Pt.cells, Pt.slots] at X53 l53 y53 z53 st53 hQ53
      subst l53 y53 z53
      obtain ⟨rfl, N53q, Kc53, P53_0, P53_1⟩ := hQ53
      have N53 := Fr.app N50 N53q
      have E_b51_53 : Exa Z T53.heap b51 "com/example/libreconf/libreconf/pattern/Junction$State" := A51.keep Kc53
      have K53 : Keep h0 T53.heap [] := K51.trans Kc53 (allS (Or.inr sz_b51) all0)
      have F_b51_left_53c : Fld Z T53.heap b51 "com/example/libreconf/libreconf/pattern/Junction$State" "left" "Ljava/lang/Object;" (.ref w48) := P53_0
      have F_b51_right_53c : Fld Z T53.heap b51 "com/example/libreconf/libreconf/pattern/Junction$State" "right" "Ljava/lang/Object;" (.ref w50) := P53_1
      refine Goes.step (T2 := T53) (g2 := (mkF m 65 #[iv p1, iv p2, iv p3, iv 0, iv 0, rv w48, rv w50, .unset, .unset, .unset, .unset] [(.ref b51)])) (fun _ hr => st53.trans hr) ?_
      refine Goes.step (T2 := T53) (g2 := (mkF m 67 #[iv p1, iv p2, iv p3, iv 0, iv 0, rv w48, rv w50, rv b51, .unset, .unset, .unset] [])) (fun _ hr => XS.astore X53.here hx rfl (hb hby at_65) rfl rfl (l' := #[iv p1, iv p2, iv p3, iv 0, iv 0, rv w48, rv w50, rv b51, .unset, .unset, .unset]) rfl hr) ?_
      refine Goes.step (T2 := T53) (g2 := (mkF m 68 #[iv p1, iv p2, iv p3, iv 0, iv 0, rv w48, rv w50, rv b51, .unset, .unset, .unset] [(.int (0 : Int32))])) (fun _ hr => XS.iloadN X53.here hx rfl (hb hby at_67) rfl  hr) ?_
      refine Goes.step (T2 := T53) (g2 := (mkF m 80 #[iv p1, iv p2, iv p3, iv 0, iv 0, rv w48, rv w50, rv b51, .unset, .unset, .unset] [])) (fun _ hr => XS.ifYes X53.here hx rfl (pc0 := 68) (pc' := 80) rfl (hb hby at_68) rfl ((if0 _ _).trans (teq (by decide : (0 : Int32) = (0 : Int32))).1) (by decide) (by decide) hr) ?_
      refine Goes.step (T2 := T53) (g2 := (mkF m 81 #[iv p1, iv p2, iv p3, iv 0, iv 0, rv w48, rv w50, rv b51, .unset, .unset, .unset] [(.int (0 : Int32))])) (fun _ hr => XS.iconst X53.here hx rfl (hb hby at_80) hr) ?_
      refine Goes.step (T2 := T53) (g2 := (mkF m 83 #[iv p1, iv p2, iv p3, iv 0, iv 0, rv w48, rv w50, rv b51, iv 0, .unset, .unset] [])) (fun _ hr => XS.istore X53.here hx rfl (hb hby at_81) rfl (l' := #[iv p1, iv p2, iv p3, iv 0, iv 0, rv w48, rv w50, rv b51, iv 0, .unset, .unset]) rfl hr) ?_
      refine Goes.step (T2 := T53) (g2 := (mkF m 85 #[iv p1, iv p2, iv p3, iv 0, iv 0, rv w48, rv w50, rv b51, iv 0, .unset, .unset] [(.ref b51)])) (fun _ hr => XS.aload X53.here hx rfl (hb hby at_83) rfl rfl hr) ?_
      have Zs54 : n0 ≤ T53.heap.size := Nat.le_trans Z0 K53.1
      obtain ⟨cq55, kq55, q55a, q55b, q55c⟩ := isOf hZ rfl E_b51_53
      obtain ⟨_, _, ⟨T55, L55, k55, n55⟩, -, X55, ⟨Lc55, hQ55, l55, y55, z55⟩, st55⟩ := X53.virtualBack hx (y := Y5) (z := Y5) hown (mvT hZ (tw hw 25 rfl)) (mvT hZ (tw hw 26 rfl)) (notFace_of_selects (args := #[]) (mvT hZ (tw hw 28 rfl))) (mvT hZ (tw hw 28 rfl)) (mvT hZ (tw hw 27 rfl)) (by decide) (backOf (W := 0) (rm_setRR l Z a0 hw [] b51 w48 w50 T53.heap n0 Zs54 (Old.keep O0 K53 hws) F_b51_left_53c F_b51_right_53c) hZ (tw hw 29 rfl) (tw hw 9 rfl) (by decide) (by decide)) q55a q55c (g := (mkF m 85 #[iv p1, iv p2, iv p3, iv 0, iv 0, rv w48, rv w50, rv b51, iv 0, .unset, .unset] [(.ref b51)])) rfl (by rw [hml]; rfl) (Steps.refl _) (argsL := []) (rest := []) (lenOf pd_4 rfl) rfl (by show 2 * 0 + _ ≤ _; exact Nat.le_of_eq rfl) (hb hby at_85) (fun _ _ => ⟨rfl, rfl, (by decide : 3 + 0 ≤ _), (by decide : 4 + 0 ≤ _)⟩)
      dsimp only [Pt.U, Pt.locs, Pt.cells, Pt.slots] at X55 l55 y55 z55 st55 hQ55
      subst l55 y55 z55
      obtain ⟨rfl, N55q, e55⟩ := hQ55
      have N55 := Fr.app N53 N55q
      refine Goes.step (T2 := T55) (g2 := (mkF m 88 #[iv p1, iv p2, iv p3, iv 0, iv 0, rv w48, rv w50, rv b51, iv 0, .unset, .unset] [(.int (0 : Int32))])) (fun _ hr => st55.trans hr) ?_
      refine Goes.step (T2 := T55) (g2 := (mkF m 90 #[iv p1, iv p2, iv p3, iv 0, iv 0, rv w48, rv w50, rv b51, iv 0, iv 0, .unset] [])) (fun _ hr => XS.istore X55.here hx rfl (hb hby at_88) rfl (l' := #[iv p1, iv p2, iv p3, iv 0, iv 0, rv w48, rv w50, rv b51, iv 0, iv 0, .unset]) rfl hr) ?_
      refine Goes.step (T2 := T55) (g2 := (mkF m 92 #[iv p1, iv p2, iv p3, iv 0, iv 0, rv w48, rv w50, rv b51, iv 0, iv 0, .unset] [(.ref b51)])) (fun _ hr => XS.aload X55.here hx rfl (hb hby at_90) rfl rfl hr) ?_
      have Zs56 : n0 ≤ T53.heap.size := Nat.le_trans Z0 K53.1
      obtain ⟨cq57, kq57, q57a, q57b, q57c⟩ := isOf hZ e55 E_b51_53
      obtain ⟨_, _, ⟨T57, L57, k57, n57⟩, -, X57, ⟨Lc57, hQ57, l57, y57, z57⟩, st57⟩ := X55.virtualBack hx (y := Y5) (z := Y5) hown (mvT hZ (tw hw 25 rfl)) (mvT hZ (tw hw 26 rfl)) (notFace_of_selects (args := #[]) (mvT hZ (tw hw 28 rfl))) (mvT hZ (tw hw 28 rfl)) (mvT hZ (tw hw 27 rfl)) (by decide) (backOf (W := 0) (rm_setRR l Z a0 hw [] b51 w48 w50 T53.heap n0 Zs56 (Old.keep O0 K53 hws) F_b51_left_53c F_b51_right_53c) hZ (tw hw 29 rfl) (tw hw 9 rfl) (by decide) (by decide)) q57a q57c (g := (mkF m 92 #[iv p1, iv p2, iv p3, iv 0, iv 0, rv w48, rv w50, rv b51, iv 0, iv 0, .unset] [(.ref b51)])) rfl (by rw [hml]; rfl) (Steps.refl _) (argsL := []) (rest := []) (lenOf pd_4 rfl) rfl (by show 2 * 0 + _ ≤ _; exact Nat.le_of_eq rfl) (hb hby at_92) (fun _ _ => ⟨rfl, e55, (by decide : 3 + 0 ≤ _), (by decide : 4 + 0 ≤ _)⟩)
      dsimp only [Pt.U, Pt.locs, Pt.cells, Pt.slots] at X57 l57 y57 z57 st57 hQ57
      subst l57 y57 z57
      obtain ⟨rfl, N57q, e57⟩ := hQ57
      have N57 := Fr.app N55 N57q
      refine Goes.step (T2 := T57) (g2 := (mkF m 95 #[iv p1, iv p2, iv p3, iv 0, iv 0, rv w48, rv w50, rv b51, iv 0, iv 0, .unset] [(.int (0 : Int32))])) (fun _ hr => st57.trans hr) ?_
      refine Goes.step (T2 := T57) (g2 := (mkF m 97 #[iv p1, iv p2, iv p3, iv 0, iv 0, rv w48, rv w50, rv b51, iv 0, iv 0, iv 0] [])) (fun _ hr => XS.istore X57.here hx rfl (hb hby at_95) rfl (l' := #[iv p1, iv p2, iv p3, iv 0, iv 0, rv w48, rv w50, rv b51, iv 0, iv 0, iv 0]) rfl hr) ?_
      refine Goes.step (T2 := T57) (g2 := (mkF m 99 #[iv p1, iv p2, iv p3, iv 0, iv 0, rv w48, rv w50, rv b51, iv 0, iv 0, iv 0] [(.int (0 : Int32))])) (fun _ hr => XS.iload X57.here hx rfl (hb hby at_97) rfl  hr) ?_
      refine Goes.step (T2 := T57) (g2 := (mkF m 101 #[iv p1, iv p2, iv p3, iv 0, iv 0, rv w48, rv w50, rv b51, iv 0, iv 0, iv 0] [(.int (0 : Int32)), (.int (0 : Int32))])) (fun _ hr => XS.iload X57.here hx rfl (hb hby at_99) rfl  hr) ?_
      refine Goes.step (T2 := T57) (g2 := (mkF m 104 #[iv p1, iv p2, iv p3, iv 0, iv 0, rv w48, rv w50, rv b51, iv 0, iv 0, iv 0] [])) (fun _ hr => XS.icmpNo X57.here hx rfl (hb hby at_101) rfl (teq (by decide : (0 : Int32) = (0 : Int32))).2 hr) ?_
      refine Goes.step (T2 := T57) (g2 := (mkF m 106 #[iv p1, iv p2, iv p3, iv 0, iv 0, rv w48, rv w50, rv b51, iv 0, iv 0, iv 0] [(.int (0 : Int32))])) (fun _ hr => XS.iload X57.here hx rfl (hb hby at_104) rfl  hr) ?_
      refine Goes.step (T2 := T57) (g2 := (mkF m 108 #[iv p1, iv p2, iv p3, iv 0, iv 0, rv w48, rv w50, rv b51, iv 0, iv 0, iv 0] [(.int (0 : Int32)), (.int (0 : Int32))])) (fun _ hr => XS.iload X57.here hx rfl (hb hby at_106) rfl  hr) ?_
      refine Goes.step (T2 := T57) (g2 := (mkF m 111 #[iv p1, iv p2, iv p3, iv 0, iv 0, rv w48, rv w50, rv b51, iv 0, iv 0, iv 0] [])) (fun _ hr => XS.icmpNo X57.here hx rfl (hb hby at_108) rfl (teq (by decide : (0 : Int32) = (0 : Int32))).2 hr) ?_
      refine Goes.step (T2 := T57) (g2 := (mkF m 113 #[iv p1, iv p2, iv p3, iv 0, iv 0, rv w48, rv w50, rv b51, iv 0, iv 0, iv 0] [(.ref b51)])) (fun _ hr => XS.aload X57.here hx rfl (hb hby at_111) rfl rfl hr) ?_
      have Zs58 : n0 ≤ T53.heap.size := Nat.le_trans Z0 K53.1
      obtain ⟨cq59, kq59, q59a, q59b, q59c⟩ := isOf hZ e57 E_b51_53
      obtain ⟨_, _, ⟨T59, L59, k59, n59⟩, -, X59, ⟨Lc59, hQ59, l59, y59, z59⟩, st59⟩ := X57.virtualBack hx (y := Y6) (z := Y6) hown (mvT hZ (tw hw 30 rfl)) (mvT hZ (tw hw 31 rfl)) (notFace_of_selects (args := #[]) (mvT hZ (tw hw 33 rfl))) (mvT hZ (tw hw 33 rfl)) (mvT hZ (tw hw 32 rfl)) (by decide) (backOf (W := 0) (rm_leftR l Z a0 hw [] b51 w48 T53.heap n0 Zs58 (Old.keep O0 K53 hws) F_b51_left_53c) hZ (tw hw 34 rfl) (tw hw 9 rfl) (by decide) (by decide)) q59a q59c (g := (mkF m 113 #[iv p1, iv p2, iv p3, iv 0, iv 0, rv w48, rv w50, rv b51, iv 0, iv 0, iv 0] [(.ref b51)])) rfl (by rw [hml]; rfl) (Steps.refl _) (argsL := []) (rest := []) (lenOf pd_5 rfl) rfl (by show 2 * 0 + _ ≤ _; exact Nat.le_of_eq rfl) (hb hby at_113) (fun _ _ => ⟨rfl, e57, (by decide : 3 + 0 ≤ _), (by decide : 4 + 0 ≤ _)⟩)
      dsimp only [Pt.U, Pt.locs, Pt.cells, Pt.slots] at X59 l59 y59 z59 st59 hQ59
      subst l59 y59 z59
      obtain ⟨rfl, N59q, e59⟩ := hQ59
      have N59 := Fr.app N57 N59q
      refine Goes.step (T2 := T59) (g2 := (mkF m 116 #[iv p1, iv p2, iv p3, iv 0, iv 0, rv w48, rv w50, rv b51, iv 0, iv 0, iv 0] [(.ref w48)])) (fun _ hr => st59.trans hr) ?_
      refine Goes.step (T2 := T59) (g2 := (mkF m 118 #[iv p1, iv p2, iv p3, iv 0, iv 0, rv w48, rv w50, rv b51, iv 0, iv 0, iv 0] [(.ref w48), (.ref w48)])) (fun _ hr => XS.aload X59.here hx rfl (hb hby at_116) rfl rfl hr) ?_
      refine Goes.step (T2 := T59) (g2 := (mkF m 121 #[iv p1, iv p2, iv p3, iv 0, iv 0, rv w48, rv w50, rv b51, iv 0, iv 0, iv 0] [])) (fun _ hr => Jvm.RoadKit.acmp (g := (mkF m 118 #[iv p1, iv p2, iv p3, iv 0, iv 0, rv w48, rv w50, rv b51, iv 0, iv 0, iv 0] [(.ref w48), (.ref w48)])) X59 hx rfl rfl rfl (pc0 := 118) (pc' := 121) (same := true) rfl (hb hby at_118) rfl (decide_eq_true rfl) (by decide) (by decide) hr) ?_
      refine Goes.step (T2 := T59) (g2 := (mkF m 123 #[iv p1, iv p2, iv p3, iv 0, iv 0, rv w48, rv w50, rv b51, iv 0, iv 0, iv 0] [(.ref b51)])) (fun _ hr => XS.aload X59.here hx rfl (hb hby at_121) rfl rfl hr) ?_
      have Zs60 : n0 ≤ T53.heap.size := Nat.le_trans Z0 K53.1
      obtain ⟨cq61, kq61, q61a, q61b, q61c⟩ := isOf hZ e59 E_b51_53
      obtain ⟨_, _, ⟨T61, L61, k61, n61⟩, -, X61, ⟨Lc61, hQ61, l61, y61, z61⟩, st61⟩ := X59.virtualBack hx (y := Y7) (z := Y7) hown (mvT hZ (tw hw 35 rfl)) (mvT hZ (tw hw 36 rfl)) (notFace_of_selects (args := #[]) (mvT hZ (tw hw 38 rfl))) (mvT hZ (tw hw 38 rfl)) (mvT hZ (tw hw 37 rfl)) (by decide) (backOf (W := 0) (rm_rightR l Z a0 hw [] b51 w50 T53.heap n0 Zs60 (Old.keep O0 K53 hws) F_b51_right_53c) hZ (tw hw 39 rfl) (tw hw 9 rfl) (by decide) (by decide)) q61a q61c (g := (mkF m 123 #[iv p1, iv p2, iv p3, iv 0, iv 0, rv w48, rv w50, rv b51, iv 0, iv 0, iv 0] [(.ref b51)])) rfl (by rw [hml]; rfl) (Steps.refl _) (argsL := []) (rest := []) (lenOf pd_5 rfl) rfl (by show 2 * 0 + _ ≤ _; exact Nat.le_of_eq rfl) (hb hby at_123) (fun _ _ => ⟨rfl, e59, (by decide : 3 + 0 ≤ _), (by decide : 4 + 0 ≤ _)⟩)
      dsimp only [Pt.U, Pt.locs, Pt.cells, Pt.slots] at X61 l61 y61 z61 st61 hQ61
      subst l61 y61 z61
      obtain ⟨rfl, N61q, e61⟩ := hQ61
      have N61 := Fr.app N59 N61q
      refine Goes.step (T2 := T61) (g2 := (mkF m 126 #[iv p1, iv p2, iv p3, iv 0, iv 0, rv w48, rv w50, rv b51, iv 0, iv 0, iv 0] [(.ref w50)])) (fun _ hr => st61.trans hr) ?_
      refine Goes.step (T2 := T61) (g2 := (mkF m 128 #[iv p1, iv p2, iv p3, iv 0, iv 0, rv w48, rv w50, rv b51, iv 0, iv 0, iv 0] [(.ref w50), (.ref w50)])) (fun _ hr => XS.aload X61.here hx rfl (hb hby at_126) rfl rfl hr) ?_
      refine Goes.step (T2 := T61) (g2 := (mkF m 131 #[iv p1, iv p2, iv p3, iv 0, iv 0, rv w48, rv w50, rv b51, iv 0, iv 0, iv 0] [])) (fun _ hr => Jvm.RoadKit.acmp (g := (mkF m 128 #[iv p1, iv p2, iv p3, iv 0, iv 0, rv w48, rv w50, rv b51, iv 0, iv 0, iv 0] [(.ref w50), (.ref w50)])) X61 hx rfl rfl rfl (pc0 := 128) (pc' := 131) (same := true) rfl (hb hby at_128) rfl (decide_eq_true rfl) (by decide) (by decide) hr) ?_
      refine Goes.step (T2 := T61) (g2 := (mkF m 132 #[iv p1, iv p2, iv p3, iv 0, iv 0, rv w48, rv w50, rv b51, iv 0, iv 0, iv 0] [(.int (1 : Int32))])) (fun _ hr => XS.iconst X61.here hx rfl (hb hby at_131) hr) ?_
      refine Goes.step (T2 := T61) (g2 := (mkF m 136 #[iv p1, iv p2, iv p3, iv 0, iv 0, rv w48, rv w50, rv b51, iv 0, iv 0, iv 0] [(.int (1 : Int32))])) (fun _ hr => XS.goto X61.here hx rfl (pc0 := 132) (pc' := 136) rfl (hb hby at_132) (by decide) (by decide) hr) ?_
      exact Goes.ret (v := some (.int (1 : Int32))) X61 (by decide) (by decide) (fun h => by rw [Bd.returns] at h; cases h) ⟨rfl, N61⟩ (fun fs hr => retN X61 hx (t := .boolean) Bd.returns (by simp) (hb hby at_136) hr)
    · refine Goes.step (T2 := s₁) (g2 := (mkF m 18 #[iv p1, iv p2, iv p3, iv 0, .unset, .unset, .unset, .unset, .unset, .unset, .unset] [])) (fun _ hr => XS.ifNo X0.here hx rfl (hb hby at_15) rfl ((if0 _ _).trans (feq hc15_46).1) hr) ?_
      refine Goes.step (T2 := s₁) (g2 := (mkF m 19 #[iv p1, iv p2, iv p3, iv 0, .unset, .unset, .unset, .unset, .unset, .unset, .unset] [(.int (1 : Int32))])) (fun _ hr => XS.iconst X0.here hx rfl (hb hby at_18) hr) ?_
      refine Goes.step (T2 := s₁) (g2 := (mkF m 23 #[iv p1, iv p2, iv p3, iv 0, .unset, .unset, .unset, .unset, .unset, .unset, .unset] [(.int (1 : Int32))])) (fun _ hr => XS.goto X0.here hx rfl (pc0 := 19) (pc' := 23) rfl (hb hby at_19) (by decide) (by decide) hr) ?_
      refine Goes.step (T2 := s₁) (g2 := (mkF m 25 #[iv p1, iv p2, iv p3, iv 0, iv 1, .unset, .unset, .unset, .unset, .unset, .unset] [])) (fun _ hr => XS.istore X0.here hx rfl (hb hby at_23) rfl (l' := #[iv p1, iv p2, iv p3, iv 0, iv 1, .unset, .unset, .unset, .unset, .unset, .unset]) rfl hr) ?_
      refine Goes.step (T2 := s₁) (g2 := (mkF m 26 #[iv p1, iv p2, iv p3, iv 0, iv 1, .unset, .unset, .unset, .unset, .unset, .unset] [(.int (0 : Int32))])) (fun _ hr => XS.iloadN X0.here hx rfl (hb hby at_25) rfl  hr) ?_
      refine Goes.step (T2 := s₁) (g2 := (mkF m 33 #[iv p1, iv p2, iv p3, iv 0, iv 1, .unset, .unset, .unset, .unset, .unset, .unset] [])) (fun _ hr => XS.ifYes X0.here hx rfl (pc0 := 26) (pc' := 33) rfl (hb hby at_26) rfl ((if0 _ _).trans (teq (by decide : (0 : Int32) = (0 : Int32))).1) (by decide) (by decide) hr) ?_
      refine Goes.step (T2 := s₁) (g2 := (mkF m 34 #[iv p1, iv p2, iv p3, iv 0, iv 1, .unset, .unset, .unset, .unset, .unset, .unset] [(.int p2)])) (fun _ hr => XS.iloadN X0.here hx rfl (hb hby at_33) rfl  hr) ?_
      have Zs62 : n0 ≤ h0.size := Nat.le_trans Z0 K0.1
      obtain ⟨_, _, ⟨T63, L63, k63, n63⟩, -, X63, ⟨Lc63, hQ63, l63, y63, z63⟩, st63⟩ := Jvm.LawKit.callS X0 hx (y := Y3) hown (mvT hZ (tw hw 0 rfl)) (mvT hZ (tw hw 1 rfl)) (mvT hZ (tw hw 2 rfl)) (mvT hZ (tw hw 3 rfl)) (by decide) (backOf (W := 0) (rm_vo l Z a0 hw [] p2 ca cl h0 n0 Zs62 (Old.keep O0 K0 hws) S_Integer_IntegerCache_high_old S_Integer_IntegerCache_cache_old Ar_ca sz_cl el_cl) hZ (tw hw 3 rfl) (tw hw 2 rfl) (by decide) (by decide)) (g := (mkF m 34 #[iv p1, iv p2, iv p3, iv 0, iv 1, .unset, .unset, .unset, .unset, .unset, .unset] [(.int p2)])) rfl (by rw [hml]; rfl) (argsL := [(.int p2)]) (rest := []) (lenOf pd_2 rfl) rfl (by show 2 * 0 + _ ≤ _; exact Nat.le_of_eq rfl) (hb hby at_34) (fun _ _ => ⟨rfl, e0, (by decide : 0 + 1 ≤ _), (by decide : 0 + 1 ≤ _)⟩)
      dsimp only [Pt.U, Pt.locs, Pt.cells, Pt.slots] at X63 l63 y63 z63 st63 hQ63
      subst l63 y63 z63
      obtain ⟨w63, rfl, N63q, Kc63⟩ := hQ63
      have N63 := Fr.app N0 N63q
      have K63 : Keep h0 T63.heap [] := K0.trans Kc63 all0
      refine Goes.step (T2 := T63) (g2 := (mkF m 37 #[iv p1, iv p2, iv p3, iv 0, iv 1, .unset, .unset, .unset, .unset, .unset, .unset] [(.ref w63)])) st63 ?_
      refine Goes.step (T2 := T63) (g2 := (mkF m 39 #[iv p1, iv p2, iv p3, iv 0, iv 1, rv w63, .unset, .unset, .unset, .unset, .unset] [])) (fun _ hr => XS.astore X63.here hx rfl (hb hby at_37) rfl rfl (l' := #[iv p1, iv p2, iv p3, iv 0, iv 1, rv w63, .unset, .unset, .unset, .unset, .unset]) rfl hr) ?_
      refine Goes.step (T2 := T63) (g2 := (mkF m 41 #[iv p1, iv p2, iv p3, iv 0, iv 1, rv w63, .unset, .unset, .unset, .unset, .unset] [(.int (1 : Int32))])) (fun _ hr => XS.iload X63.here hx rfl (hb hby at_39) rfl  hr) ?_
      refine Goes.step (T2 := T63) (g2 := (mkF m 44 #[iv p1, iv p2, iv p3, iv 0, iv 1, rv w63, .unset, .unset, .unset, .unset, .unset] [])) (fun _ hr => XS.ifNo X63.here hx rfl (hb hby at_41) rfl ((if0 _ _).trans (feq (by decide : ¬ ((1 : Int32) = (0 : Int32)))).1) hr) ?_
      refine Goes.step (T2 := T63) (g2 := (mkF m 45 #[iv p1, iv p2, iv p3, iv 0, iv 1, rv w63, .unset, .unset, .unset, .unset, .unset] [.null])) (fun _ hr => XS.aconstNull X63.here hx rfl (hb hby at_44) hr) ?_
      refine Goes.step (T2 := T63) (g2 := (mkF m 52 #[iv p1, iv p2, iv p3, iv 0, iv 1, rv w63, .unset, .unset, .unset, .unset, .unset] [.null])) (fun _ hr => XS.goto X63.here hx rfl (pc0 := 45) (pc' := 52) rfl (hb hby at_45) (by decide) (by decide) hr) ?_
      refine Goes.step (T2 := T63) (g2 := (mkF m 54 #[iv p1, iv p2, iv p3, iv 0, iv 1, rv w63, .val .null, .unset, .unset, .unset, .unset] [])) (fun _ hr => XS.astore X63.here hx rfl (hb hby at_52) rfl rfl (l' := #[iv p1, iv p2, iv p3, iv 0, iv 1, rv w63, .val .null, .unset, .unset, .unset, .unset]) rfl hr) ?_
      obtain ⟨T64, h64, X64, e64, E64, A64, D64, -, st64⟩ := newO X63 hx hZ hown (tw hw 7 rfl) (tw hw 8 rfl) (tw hw 9 rfl) rfl (g := (mkF m 54 #[iv p1, iv p2, iv p3, iv 0, iv 1, rv w63, .val .null, .unset, .unset, .unset, .unset] [])) rfl (hb hby at_54) (by decide) (by decide)
      obtain ⟨b64, g64⟩ : ∃ z, z = T63.heap.size := ⟨_, rfl⟩
      rw [← g64] at A64 D64 st64
      have sz_b64 : h0.size ≤ b64 := Nat.le_trans K63.1 (Nat.le_of_eq g64.symm)
      have ge_b64 : n0 ≤ b64 := Nat.le_trans Z0 sz_b64
      have K64 : Keep h0 h64 [] := K63.ext E64
      have F_b64_left_64 : Fld Z h64 b64 "com/example/libreconf/libreconf/pattern/Junction$State" "left" "Ljava/lang/Object;" .null := D64 (Or.inr (tw hw 22 rfl)) (ty := (.object "java/lang/Object")) (by decide)
      have F_b64_right_64 : Fld Z h64 b64 "com/example/libreconf/libreconf/pattern/Junction$State" "right" "Ljava/lang/Object;" .null := D64 (Or.inr (tw hw 24 rfl)) (ty := (.object "java/lang/Object")) (by decide)
      refine Goes.step (T2 := T64) (g2 := (mkF m 57 #[iv p1, iv p2, iv p3, iv 0, iv 1, rv w63, .val .null, .unset, .unset, .unset, .unset] [(.ref b64)])) st64 ?_
      refine Goes.step (T2 := T64) (g2 := (mkF m 58 #[iv p1, iv p2, iv p3, iv 0, iv 1, rv w63, .val .null, .unset, .unset, .unset, .unset] [(.ref b64), (.ref b64)])) (fun _ hr => XS.dup X64.here hx rfl (hb hby at_57) rfl rfl hr) ?_
      refine Goes.step (T2 := T64) (g2 := (mkF m 60 #[iv p1, iv p2, iv p3, iv 0, iv 1, rv w63, .val .null, .unset, .unset, .unset, .unset] [(.ref w63), (.ref b64), (.ref b64)])) (fun _ hr => XS.aload X64.here hx rfl (hb hby at_58) rfl rfl hr) ?_
      refine Goes.step (T2 := T64) (g2 := (mkF m 62 #[iv p1, iv p2, iv p3, iv 0, iv 1, rv w63, .val .null, .unset, .unset, .unset, .unset] [.null, (.ref w63), (.ref b64), (.ref b64)])) (fun _ hr => XS.aload X64.here hx rfl (hb hby at_60) rfl rfl hr) ?_
      have Zs65 : n0 ≤ h64.size := Nat.le_trans Z0 K64.1
      obtain ⟨_, _, ⟨T66, L66, k66, n66⟩, -, X66, ⟨Lc66, hQ66, l66, y66, z66⟩, st66⟩ := X64.specialBack hx (y := Y4) rfl hown (mvT hZ (tw hw 10 rfl)) (mvT hZ (tw hw 11 rfl)) (mvT hZ (tw hw 12 rfl)) (by decide) (backOf (W := 1) (rm_stRN l Z a0 hw [] b64 w63 h64 n0 Zs65 (Old.keep O0 K64 hws) A64 F_b64_left_64 F_b64_right_64 ge_b64) hZ (tw hw 12 rfl) (tw hw 9 rfl) (by decide) (by decide)) (g := (mkF m 62 #[iv p1, iv p2, iv p3, iv 0, iv 1, rv w63, .val .null, .unset, .unset, .unset, .unset] [.null, (.ref w63), (.ref b64), (.ref b64)])) rfl (by rw [hml]; rfl) (Steps.refl _) (a := b64) (argsL := [(.ref w63), .null]) (rest := [(.ref b64)]) (lenOf pd_3 rfl) rfl (by show 2 * 0 + _ ≤ _; exact Nat.le_of_eq rfl) (hb hby at_62) (fun _ _ => ⟨rfl, e64, (by decide : 2 + 0 ≤ _), (by decide : 3 + 0 ≤ _)⟩)
      dsimp only [Pt.U, Pt.locs, Pt.cells, Pt.slots] at X66 l66 y66 z66 st66 hQ66
      subst l66 y66 z66
      obtain ⟨rfl, N66q, Kc66, P66_0, P66_1⟩ := hQ66
      have N66 := Fr.app N63 N66q
      have E_b64_66 : Exa Z T66.heap b64 "com/example/libreconf/libreconf/pattern/Junction$State" := A64.keep Kc66
      have K66 : Keep h0 T66.heap [] := K64.trans Kc66 (allS (Or.inr sz_b64) all0)
      have F_b64_left_66c : Fld Z T66.heap b64 "com/example/libreconf/libreconf/pattern/Junction$State" "left" "Ljava/lang/Object;" (.ref w63) := P66_0
      have F_b64_right_66c : Fld Z T66.heap b64 "com/example/libreconf/libreconf/pattern/Junction$State" "right" "Ljava/lang/Object;" .null := P66_1
      refine Goes.step (T2 := T66) (g2 := (mkF m 65 #[iv p1, iv p2, iv p3, iv 0, iv 1, rv w63, .val .null, .unset, .unset, .unset, .unset] [(.ref b64)])) (fun _ hr => st66.trans hr) ?_
      refine Goes.step (T2 := T66) (g2 := (mkF m 67 #[iv p1, iv p2, iv p3, iv 0, iv 1, rv w63, .val .null, rv b64, .unset, .unset, .unset] [])) (fun _ hr => XS.astore X66.here hx rfl (hb hby at_65) rfl rfl (l' := #[iv p1, iv p2, iv p3, iv 0, iv 1, rv w63, .val .null, rv b64, .unset, .unset, .unset]) rfl hr) ?_
      refine Goes.step (T2 := T66) (g2 := (mkF m 68 #[iv p1, iv p2, iv p3, iv 0, iv 1, rv w63, .val .null, rv b64, .unset, .unset, .unset] [(.int (0 : Int32))])) (fun _ hr => XS.iloadN X66.here hx rfl (hb hby at_67) rfl  hr) ?_
      refine Goes.step (T2 := T66) (g2 := (mkF m 80 #[iv p1, iv p2, iv p3, iv 0, iv 1, rv w63, .val .null, rv b64, .unset, .unset, .unset] [])) (fun _ hr => XS.ifYes X66.here hx rfl (pc0 := 68) (pc' := 80) rfl (hb hby at_68) rfl ((if0 _ _).trans (teq (by decide : (0 : Int32) = (0 : Int32))).1) (by decide) (by decide) hr) ?_
      refine Goes.step (T2 := T66) (g2 := (mkF m 81 #[iv p1, iv p2, iv p3, iv 0, iv 1, rv w63, .val .null, rv b64, .unset, .unset, .unset] [(.int (0 : Int32))])) (fun _ hr => XS.iconst X66.here hx rfl (hb hby at_80) hr) ?_
      refine Goes.step (T2 := T66) (g2 := (mkF m 83 #[iv p1, iv p2, iv p3, iv 0, iv 1, rv w63, .val .null, rv b64, iv 0, .unset, .unset] [])) (fun _ hr => XS.istore X66.here hx rfl (hb hby at_81) rfl (l' := #[iv p1, iv p2, iv p3, iv 0, iv 1, rv w63, .val .null, rv b64, iv 0, .unset, .unset]) rfl hr) ?_
      refine Goes.step (T2 := T66) (g2 := (mkF m 85 #[iv p1, iv p2, iv p3, iv 0, iv 1, rv w63, .val .null, rv b64, iv 0, .unset, .unset] [(.ref b64)])) (fun _ hr => XS.aload X66.here hx rfl (hb hby at_83) rfl rfl hr) ?_
      have Zs67 : n0 ≤ T66.heap.size := Nat.le_trans Z0 K66.1
      obtain ⟨cq68, kq68, q68a, q68b, q68c⟩ := isOf hZ rfl E_b64_66
      obtain ⟨_, _, ⟨T68, L68, k68, n68⟩, -, X68, ⟨Lc68, hQ68, l68, y68, z68⟩, st68⟩ := X66.virtualBack hx (y := Y5) (z := Y5) hown (mvT hZ (tw hw 25 rfl)) (mvT hZ (tw hw 26 rfl)) (notFace_of_selects (args := #[]) (mvT hZ (tw hw 28 rfl))) (mvT hZ (tw hw 28 rfl)) (mvT hZ (tw hw 27 rfl)) (by decide) (backOf (W := 0) (rm_setRN l Z a0 hw [] b64 w63 T66.heap n0 Zs67 (Old.keep O0 K66 hws) F_b64_left_66c F_b64_right_66c) hZ (tw hw 29 rfl) (tw hw 9 rfl) (by decide) (by decide)) q68a q68c (g := (mkF m 85 #[iv p1, iv p2, iv p3, iv 0, iv 1, rv w63, .val .null, rv b64, iv 0, .unset, .unset] [(.ref b64)])) rfl (by rw [hml]; rfl) (Steps.refl _) (argsL := []) (rest := []) (lenOf pd_4 rfl) rfl (by show 2 * 0 + _ ≤ _; exact Nat.le_of_eq rfl) (hb hby at_85) (fun _ _ => ⟨rfl, rfl, (by decide : 2 + 0 ≤ _), (by decide : 3 + 0 ≤ _)⟩)
      dsimp only [Pt.U, Pt.locs, Pt.cells, Pt.slots] at X68 l68 y68 z68 st68 hQ68
      subst l68 y68 z68
      obtain ⟨rfl, N68q, e68⟩ := hQ68
      have N68 := Fr.app N66 N68q
      refine Goes.step (T2 := T68) (g2 := (mkF m 88 #[iv p1, iv p2, iv p3, iv 0, iv 1, rv w63, .val .null, rv b64, iv 0, .unset, .unset] [(.int (0 : Int32))])) (fun _ hr => st68.trans hr) ?_
      refine Goes.step (T2 := T68) (g2 := (mkF m 90 #[iv p1, iv p2, iv p3, iv 0, iv 1, rv w63, .val .null, rv b64, iv 0, iv 0, .unset] [])) (fun _ hr => XS.istore X68.here hx rfl (hb hby at_88) rfl (l' := #[iv p1, iv p2, iv p3, iv 0, iv 1, rv w63, .val .null, rv b64, iv 0, iv 0, .unset]) rfl hr) ?_
      refine Goes.step (T2 := T68) (g2 := (mkF m 92 #[iv p1, iv p2, iv p3, iv 0, iv 1, rv w63, .val .null, rv b64, iv 0, iv 0, .unset] [(.ref b64)])) (fun _ hr => XS.aload X68.here hx rfl (hb hby at_90) rfl rfl hr) ?_
      have Zs69 : n0 ≤ T66.heap.size := Nat.le_trans Z0 K66.1
      obtain ⟨cq70, kq70, q70a, q70b, q70c⟩ := isOf hZ e68 E_b64_66
      obtain ⟨_, _, ⟨T70, L70, k70, n70⟩, -, X70, ⟨Lc70, hQ70, l70, y70, z70⟩, st70⟩ := X68.virtualBack hx (y := Y5) (z := Y5) hown (mvT hZ (tw hw 25 rfl)) (mvT hZ (tw hw 26 rfl)) (notFace_of_selects (args := #[]) (mvT hZ (tw hw 28 rfl))) (mvT hZ (tw hw 28 rfl)) (mvT hZ (tw hw 27 rfl)) (by decide) (backOf (W := 0) (rm_setRN l Z a0 hw [] b64 w63 T66.heap n0 Zs69 (Old.keep O0 K66 hws) F_b64_left_66c F_b64_right_66c) hZ (tw hw 29 rfl) (tw hw 9 rfl) (by decide) (by decide)) q70a q70c (g := (mkF m 92 #[iv p1, iv p2, iv p3, iv 0, iv 1, rv w63, .val .null, rv b64, iv 0, iv 0, .unset] [(.ref b64)])) rfl (by rw [hml]; rfl) (Steps.refl _) (argsL := []) (rest := []) (lenOf pd_4 rfl) rfl (by show 2 * 0 + _ ≤ _; exact Nat.le_of_eq rfl) (hb hby at_92) (fun _ _ => ⟨rfl, e68, (by decide : 2 + 0 ≤ _), (by decide : 3 + 0 ≤ _)⟩)
      dsimp only [Pt.U, Pt.locs, Pt.cells, Pt.slots] at X70 l70 y70 z70 st70 hQ70
      subst l70 y70 z70
      obtain ⟨rfl, N70q, e70⟩ := hQ70
      have N70 := Fr.app N68 N70q
      refine Goes.step (T2 := T70) (g2 := (mkF m 95 #[iv p1, iv p2, iv p3, iv 0, iv 1, rv w63, .val .null, rv b64, iv 0, iv 0, .unset] [(.int (0 : Int32))])) (fun _ hr => st70.trans hr) ?_
      refine Goes.step (T2 := T70) (g2 := (mkF m 97 #[iv p1, iv p2, iv p3, iv 0, iv 1, rv w63, .val .null, rv b64, iv 0, iv 0, iv 0] [])) (fun _ hr => XS.istore X70.here hx rfl (hb hby at_95) rfl (l' := #[iv p1, iv p2, iv p3, iv 0, iv 1, rv w63, .val .null, rv b64, iv 0, iv 0, iv 0]) rfl hr) ?_
      refine Goes.step (T2 := T70) (g2 := (mkF m 99 #[iv p1, iv p2, iv p3, iv 0, iv 1, rv w63, .val .null, rv b64, iv 0, iv 0, iv 0] [(.int (0 : Int32))])) (fun _ hr => XS.iload X70.here hx rfl (hb hby at_97) rfl  hr) ?_
      refine Goes.step (T2 := T70) (g2 := (mkF m 101 #[iv p1, iv p2, iv p3, iv 0, iv 1, rv w63, .val .null, rv b64, iv 0, iv 0, iv 0] [(.int (0 : Int32)), (.int (0 : Int32))])) (fun _ hr => XS.iload X70.here hx rfl (hb hby at_99) rfl  hr) ?_
      refine Goes.step (T2 := T70) (g2 := (mkF m 104 #[iv p1, iv p2, iv p3, iv 0, iv 1, rv w63, .val .null, rv b64, iv 0, iv 0, iv 0] [])) (fun _ hr => XS.icmpNo X70.here hx rfl (hb hby at_101) rfl (teq (by decide : (0 : Int32) = (0 : Int32))).2 hr) ?_
      refine Goes.step (T2 := T70) (g2 := (mkF m 106 #[iv p1, iv p2, iv p3, iv 0, iv 1, rv w63, .val .null, rv b64, iv 0, iv 0, iv 0] [(.int (0 : Int32))])) (fun _ hr => XS.iload X70.here hx rfl (hb hby at_104) rfl  hr) ?_
      refine Goes.step (T2 := T70) (g2 := (mkF m 108 #[iv p1, iv p2, iv p3, iv 0, iv 1, rv w63, .val .null, rv b64, iv 0, iv 0, iv 0] [(.int (0 : Int32)), (.int (0 : Int32))])) (fun _ hr => XS.iload X70.here hx rfl (hb hby at_106) rfl  hr) ?_
      refine Goes.step (T2 := T70) (g2 := (mkF m 111 #[iv p1, iv p2, iv p3, iv 0, iv 1, rv w63, .val .null, rv b64, iv 0, iv 0, iv 0] [])) (fun _ hr => XS.icmpNo X70.here hx rfl (hb hby at_108) rfl (teq (by decide : (0 : Int32) = (0 : Int32))).2 hr) ?_
      refine Goes.step (T2 := T70) (g2 := (mkF m 113 #[iv p1, iv p2, iv p3, iv 0, iv 1, rv w63, .val .null, rv b64, iv 0, iv 0, iv 0] [(.ref b64)])) (fun _ hr => XS.aload X70.here hx rfl (hb hby at_111) rfl rfl hr) ?_
      have Zs71 : n0 ≤ T66.heap.size := Nat.le_trans Z0 K66.1
      obtain ⟨cq72, kq72, q72a, q72b, q72c⟩ := isOf hZ e70 E_b64_66
      obtain ⟨_, _, ⟨T72, L72, k72, n72⟩, -, X72, ⟨Lc72, hQ72, l72, y72, z72⟩, st72⟩ := X70.virtualBack hx (y := Y6) (z := Y6) hown (mvT hZ (tw hw 30 rfl)) (mvT hZ (tw hw 31 rfl)) (notFace_of_selects (args := #[]) (mvT hZ (tw hw 33 rfl))) (mvT hZ (tw hw 33 rfl)) (mvT hZ (tw hw 32 rfl)) (by decide) (backOf (W := 0) (rm_leftR l Z a0 hw [] b64 w63 T66.heap n0 Zs71 (Old.keep O0 K66 hws) F_b64_left_66c) hZ (tw hw 34 rfl) (tw hw 9 rfl) (by decide) (by decide)) q72a q72c (g := (mkF m 113 #[iv p1, iv p2, iv p3, iv 0, iv 1, rv w63, .val .null, rv b64, iv 0, iv 0, iv 0] [(.ref b64)])) rfl (by rw [hml]; rfl) (Steps.refl _) (argsL := []) (rest := []) (lenOf pd_5 rfl) rfl (by show 2 * 0 + _ ≤ _; exact Nat.le_of_eq rfl) (hb hby at_113) (fun _ _ => ⟨rfl, e70, (by decide : 2 + 0 ≤ _), (by decide : 3 + 0 ≤ _)⟩)
      dsimp only [Pt.U, Pt.locs, Pt.cells, Pt.slots] at X72 l72 y72 z72 st72 hQ72
      subst l72 y72 z72
      obtain ⟨rfl, N72q, e72⟩ := hQ72
      have N72 := Fr.app N70 N72q
      refine Goes.step (T2 := T72) (g2 := (mkF m 116 #[iv p1, iv p2, iv p3, iv 0, iv 1, rv w63, .val .null, rv b64, iv 0, iv 0, iv 0] [(.ref w63)])) (fun _ hr => st72.trans hr) ?_
      refine Goes.step (T2 := T72) (g2 := (mkF m 118 #[iv p1, iv p2, iv p3, iv 0, iv 1, rv w63, .val .null, rv b64, iv 0, iv 0, iv 0] [(.ref w63), (.ref w63)])) (fun _ hr => XS.aload X72.here hx rfl (hb hby at_116) rfl rfl hr) ?_
      refine Goes.step (T2 := T72) (g2 := (mkF m 121 #[iv p1, iv p2, iv p3, iv 0, iv 1, rv w63, .val .null, rv b64, iv 0, iv 0, iv 0] [])) (fun _ hr => Jvm.RoadKit.acmp (g := (mkF m 118 #[iv p1, iv p2, iv p3, iv 0, iv 1, rv w63, .val .null, rv b64, iv 0, iv 0, iv 0] [(.ref w63), (.ref w63)])) X72 hx rfl rfl rfl (pc0 := 118) (pc' := 121) (same := true) rfl (hb hby at_118) rfl (decide_eq_true rfl) (by decide) (by decide) hr) ?_
      refine Goes.step (T2 := T72) (g2 := (mkF m 123 #[iv p1, iv p2, iv p3, iv 0, iv 1, rv w63, .val .null, rv b64, iv 0, iv 0, iv 0] [(.ref b64)])) (fun _ hr => XS.aload X72.here hx rfl (hb hby at_121) rfl rfl hr) ?_
      have Zs73 : n0 ≤ T66.heap.size := Nat.le_trans Z0 K66.1
      obtain ⟨cq74, kq74, q74a, q74b, q74c⟩ := isOf hZ e72 E_b64_66
      obtain ⟨_, _, ⟨T74, L74, k74, n74⟩, -, X74, ⟨Lc74, hQ74, l74, y74, z74⟩, st74⟩ := X72.virtualBack hx (y := Y7) (z := Y7) hown (mvT hZ (tw hw 35 rfl)) (mvT hZ (tw hw 36 rfl)) (notFace_of_selects (args := #[]) (mvT hZ (tw hw 38 rfl))) (mvT hZ (tw hw 38 rfl)) (mvT hZ (tw hw 37 rfl)) (by decide) (backOf (W := 0) (rm_rightN l Z a0 hw [] b64 T66.heap n0 Zs73 (Old.keep O0 K66 hws) F_b64_right_66c) hZ (tw hw 39 rfl) (tw hw 9 rfl) (by decide) (by decide)) q74a q74c (g := (mkF m 123 #[iv p1, iv p2, iv p3, iv 0, iv 1, rv w63, .val .null, rv b64, iv 0, iv 0, iv 0] [(.ref b64)])) rfl (by rw [hml]; rfl) (Steps.refl _) (argsL := []) (rest := []) (lenOf pd_5 rfl) rfl (by show 2 * 0 + _ ≤ _; exact Nat.le_of_eq rfl) (hb hby at_123) (fun _ _ => ⟨rfl, e72, (by decide : 2 + 0 ≤ _), (by decide : 3 + 0 ≤ _)⟩)
      dsimp only [Pt.U, Pt.locs, Pt.cells, Pt.slots] at X74 l74 y74 z74 st74 hQ74
      subst l74 y74 z74
      obtain ⟨rfl, N74q, e74⟩ := hQ74
      have N74 := Fr.app N72 N74q
      refine Goes.step (T2 := T74) (g2 := (mkF m 126 #[iv p1, iv p2, iv p3, iv 0, iv 1, rv w63, .val .null, rv b64, iv 0, iv 0, iv 0] [.null])) (fun _ hr => st74.trans hr) ?_
      refine Goes.step (T2 := T74) (g2 := (mkF m 128 #[iv p1, iv p2, iv p3, iv 0, iv 1, rv w63, .val .null, rv b64, iv 0, iv 0, iv 0] [.null, .null])) (fun _ hr => XS.aload X74.here hx rfl (hb hby at_126) rfl rfl hr) ?_
      refine Goes.step (T2 := T74) (g2 := (mkF m 131 #[iv p1, iv p2, iv p3, iv 0, iv 1, rv w63, .val .null, rv b64, iv 0, iv 0, iv 0] [])) (fun _ hr => Jvm.RoadKit.acmp (g := (mkF m 128 #[iv p1, iv p2, iv p3, iv 0, iv 1, rv w63, .val .null, rv b64, iv 0, iv 0, iv 0] [.null, .null])) X74 hx rfl rfl rfl (pc0 := 128) (pc' := 131) (same := true) rfl (hb hby at_128) rfl (decide_eq_true rfl) (by decide) (by decide) hr) ?_
      refine Goes.step (T2 := T74) (g2 := (mkF m 132 #[iv p1, iv p2, iv p3, iv 0, iv 1, rv w63, .val .null, rv b64, iv 0, iv 0, iv 0] [(.int (1 : Int32))])) (fun _ hr => XS.iconst X74.here hx rfl (hb hby at_131) hr) ?_
      refine Goes.step (T2 := T74) (g2 := (mkF m 136 #[iv p1, iv p2, iv p3, iv 0, iv 1, rv w63, .val .null, rv b64, iv 0, iv 0, iv 0] [(.int (1 : Int32))])) (fun _ hr => XS.goto X74.here hx rfl (pc0 := 132) (pc' := 136) rfl (hb hby at_132) (by decide) (by decide) hr) ?_
      exact Goes.ret (v := some (.int (1 : Int32))) X74 (by decide) (by decide) (fun h => by rw [Bd.returns] at h; cases h) ⟨rfl, N74⟩ (fun fs hr => retN X74 hx (t := .boolean) Bd.returns (by simp) (hb hby at_136) hr)
  · refine Goes.step (T2 := s₁) (g2 := (mkF m 6 #[iv p1, iv p2, iv p3, .unset, .unset, .unset, .unset, .unset, .unset, .unset, .unset] [])) (fun _ hr => XS.ifNo X0.here hx rfl (hb hby at_3) rfl ((if0 _ _).trans (feq hc3_45).1) hr) ?_
    refine Goes.step (T2 := s₁) (g2 := (mkF m 7 #[iv p1, iv p2, iv p3, .unset, .unset, .unset, .unset, .unset, .unset, .unset, .unset] [(.int (1 : Int32))])) (fun _ hr => XS.iconst X0.here hx rfl (hb hby at_6) hr) ?_
    refine Goes.step (T2 := s₁) (g2 := (mkF m 11 #[iv p1, iv p2, iv p3, .unset, .unset, .unset, .unset, .unset, .unset, .unset, .unset] [(.int (1 : Int32))])) (fun _ hr => XS.goto X0.here hx rfl (pc0 := 7) (pc' := 11) rfl (hb hby at_7) (by decide) (by decide) hr) ?_
    refine Goes.step (T2 := s₁) (g2 := (mkF m 12 #[iv p1, iv p2, iv p3, iv 1, .unset, .unset, .unset, .unset, .unset, .unset, .unset] [])) (fun _ hr => XS.istoreN X0.here hx rfl (hb hby at_11) rfl (l' := #[iv p1, iv p2, iv p3, iv 1, .unset, .unset, .unset, .unset, .unset, .unset, .unset]) rfl hr) ?_
    refine Goes.step (T2 := s₁) (g2 := (mkF m 13 #[iv p1, iv p2, iv p3, iv 1, .unset, .unset, .unset, .unset, .unset, .unset, .unset] [(.int p1)])) (fun _ hr => XS.iloadN X0.here hx rfl (hb hby at_12) rfl  hr) ?_
    refine Goes.step (T2 := s₁) (g2 := (mkF m 14 #[iv p1, iv p2, iv p3, iv 1, .unset, .unset, .unset, .unset, .unset, .unset, .unset] [(.int (2 : Int32)), (.int p1)])) (fun _ hr => XS.iconst X0.here hx rfl (hb hby at_13) hr) ?_
    refine Goes.step (T2 := s₁) (g2 := (mkF m 15 #[iv p1, iv p2, iv p3, iv 1, .unset, .unset, .unset, .unset, .unset, .unset, .unset] [(.int (p1 &&& (2 : Int32)))])) (fun _ hr => XS.iand X0.here hx rfl (hb hby at_14) rfl hr) ?_
    by_cases hc15_75 : (p1 &&& (2 : Int32)) = (0 : Int32)
    · refine Goes.step (T2 := s₁) (g2 := (mkF m 22 #[iv p1, iv p2, iv p3, iv 1, .unset, .unset, .unset, .unset, .unset, .unset, .unset] [])) (fun _ hr => XS.ifYes X0.here hx rfl (pc0 := 15) (pc' := 22) rfl (hb hby at_15) rfl ((if0 _ _).trans (teq hc15_75).1) (by decide) (by decide) hr) ?_
      refine Goes.step (T2 := s₁) (g2 := (mkF m 23 #[iv p1, iv p2, iv p3, iv 1, .unset, .unset, .unset, .unset, .unset, .unset, .unset] [(.int (0 : Int32))])) (fun _ hr => XS.iconst X0.here hx rfl (hb hby at_22) hr) ?_
      refine Goes.step (T2 := s₁) (g2 := (mkF m 25 #[iv p1, iv p2, iv p3, iv 1, iv 0, .unset, .unset, .unset, .unset, .unset, .unset] [])) (fun _ hr => XS.istore X0.here hx rfl (hb hby at_23) rfl (l' := #[iv p1, iv p2, iv p3, iv 1, iv 0, .unset, .unset, .unset, .unset, .unset, .unset]) rfl hr) ?_
      refine Goes.step (T2 := s₁) (g2 := (mkF m 26 #[iv p1, iv p2, iv p3, iv 1, iv 0, .unset, .unset, .unset, .unset, .unset, .unset] [(.int (1 : Int32))])) (fun _ hr => XS.iloadN X0.here hx rfl (hb hby at_25) rfl  hr) ?_
      refine Goes.step (T2 := s₁) (g2 := (mkF m 29 #[iv p1, iv p2, iv p3, iv 1, iv 0, .unset, .unset, .unset, .unset, .unset, .unset] [])) (fun _ hr => XS.ifNo X0.here hx rfl (hb hby at_26) rfl ((if0 _ _).trans (feq (by decide : ¬ ((1 : Int32) = (0 : Int32)))).1) hr) ?_
      refine Goes.step (T2 := s₁) (g2 := (mkF m 30 #[iv p1, iv p2, iv p3, iv 1, iv 0, .unset, .unset, .unset, .unset, .unset, .unset] [.null])) (fun _ hr => XS.aconstNull X0.here hx rfl (hb hby at_29) hr) ?_
      refine Goes.step (T2 := s₁) (g2 := (mkF m 37 #[iv p1, iv p2, iv p3, iv 1, iv 0, .unset, .unset, .unset, .unset, .unset, .unset] [.null])) (fun _ hr => XS.goto X0.here hx rfl (pc0 := 30) (pc' := 37) rfl (hb hby at_30) (by decide) (by decide) hr) ?_
      refine Goes.step (T2 := s₁) (g2 := (mkF m 39 #[iv p1, iv p2, iv p3, iv 1, iv 0, .val .null, .unset, .unset, .unset, .unset, .unset] [])) (fun _ hr => XS.astore X0.here hx rfl (hb hby at_37) rfl rfl (l' := #[iv p1, iv p2, iv p3, iv 1, iv 0, .val .null, .unset, .unset, .unset, .unset, .unset]) rfl hr) ?_
      refine Goes.step (T2 := s₁) (g2 := (mkF m 41 #[iv p1, iv p2, iv p3, iv 1, iv 0, .val .null, .unset, .unset, .unset, .unset, .unset] [(.int (0 : Int32))])) (fun _ hr => XS.iload X0.here hx rfl (hb hby at_39) rfl  hr) ?_
      refine Goes.step (T2 := s₁) (g2 := (mkF m 48 #[iv p1, iv p2, iv p3, iv 1, iv 0, .val .null, .unset, .unset, .unset, .unset, .unset] [])) (fun _ hr => XS.ifYes X0.here hx rfl (pc0 := 41) (pc' := 48) rfl (hb hby at_41) rfl ((if0 _ _).trans (teq (by decide : (0 : Int32) = (0 : Int32))).1) (by decide) (by decide) hr) ?_
      refine Goes.step (T2 := s₁) (g2 := (mkF m 49 #[iv p1, iv p2, iv p3, iv 1, iv 0, .val .null, .unset, .unset, .unset, .unset, .unset] [(.int p3)])) (fun _ hr => XS.iloadN X0.here hx rfl (hb hby at_48) rfl  hr) ?_
      have Zs76 : n0 ≤ h0.size := Nat.le_trans Z0 K0.1
      obtain ⟨_, _, ⟨T77, L77, k77, n77⟩, -, X77, ⟨Lc77, hQ77, l77, y77, z77⟩, st77⟩ := Jvm.LawKit.callS X0 hx (y := Y3) hown (mvT hZ (tw hw 0 rfl)) (mvT hZ (tw hw 1 rfl)) (mvT hZ (tw hw 2 rfl)) (mvT hZ (tw hw 3 rfl)) (by decide) (backOf (W := 0) (rm_vo l Z a0 hw [] p3 ca cl h0 n0 Zs76 (Old.keep O0 K0 hws) S_Integer_IntegerCache_high_old S_Integer_IntegerCache_cache_old Ar_ca sz_cl el_cl) hZ (tw hw 3 rfl) (tw hw 2 rfl) (by decide) (by decide)) (g := (mkF m 49 #[iv p1, iv p2, iv p3, iv 1, iv 0, .val .null, .unset, .unset, .unset, .unset, .unset] [(.int p3)])) rfl (by rw [hml]; rfl) (argsL := [(.int p3)]) (rest := []) (lenOf pd_2 rfl) rfl (by show 2 * 0 + _ ≤ _; exact Nat.le_of_eq rfl) (hb hby at_49) (fun _ _ => ⟨rfl, e0, (by decide : 0 + 1 ≤ _), (by decide : 0 + 1 ≤ _)⟩)
      dsimp only [Pt.U, Pt.locs, Pt.cells, Pt.slots] at X77 l77 y77 z77 st77 hQ77
      subst l77 y77 z77
      obtain ⟨w77, rfl, N77q, Kc77⟩ := hQ77
      have N77 := Fr.app N0 N77q
      have K77 : Keep h0 T77.heap [] := K0.trans Kc77 all0
      refine Goes.step (T2 := T77) (g2 := (mkF m 52 #[iv p1, iv p2, iv p3, iv 1, iv 0, .val .null, .unset, .unset, .unset, .unset, .unset] [(.ref w77)])) st77 ?_
      refine Goes.step (T2 := T77) (g2 := (mkF m 54 #[iv p1, iv p2, iv p3, iv 1, iv 0, .val .null, rv w77, .unset, .unset, .unset, .unset] [])) (fun _ hr => XS.astore X77.here hx rfl (hb hby at_52) rfl rfl (l' := #[iv p1, iv p2, iv p3, iv 1, iv 0, .val .null, rv w77, .unset, .unset, .unset, .unset]) rfl hr) ?_
      obtain ⟨T78, h78, X78, e78, E78, A78, D78, -, st78⟩ := newO X77 hx hZ hown (tw hw 7 rfl) (tw hw 8 rfl) (tw hw 9 rfl) rfl (g := (mkF m 54 #[iv p1, iv p2, iv p3, iv 1, iv 0, .val .null, rv w77, .unset, .unset, .unset, .unset] [])) rfl (hb hby at_54) (by decide) (by decide)
      obtain ⟨b78, g78⟩ : ∃ z, z = T77.heap.size := ⟨_, rfl⟩
      rw [← g78] at A78 D78 st78
      have sz_b78 : h0.size ≤ b78 := Nat.le_trans K77.1 (Nat.le_of_eq g78.symm)
      have ge_b78 : n0 ≤ b78 := Nat.le_trans Z0 sz_b78
      have K78 : Keep h0 h78 [] := K77.ext E78
      have F_b78_left_78 : Fld Z h78 b78 "com/example/libreconf/libreconf/pattern/Junction$State" "left" "Ljava/lang/Object;" .null := D78 (Or.inr (tw hw 22 rfl)) (ty := (.object "java/lang/Object")) (by decide)
      have F_b78_right_78 : Fld Z h78 b78 "com/example/libreconf/libreconf/pattern/Junction$State" "right" "Ljava/lang/Object;" .null := D78 (Or.inr (tw hw 24 rfl)) (ty := (.object "java/lang/Object")) (by decide)
      refine Goes.step (T2 := T78) (g2 := (mkF m 57 #[iv p1, iv p2, iv p3, iv 1, iv 0, .val .null, rv w77, .unset, .unset, .unset, .unset] [(.ref b78)])) st78 ?_
      refine Goes.step (T2 := T78) (g2 := (mkF m 58 #[iv p1, iv p2, iv p3, iv 1, iv 0, .val .null, rv w77, .unset, .unset, .unset, .unset] [(.ref b78), (.ref b78)])) (fun _ hr => XS.dup X78.here hx rfl (hb hby at_57) rfl rfl hr) ?_
      refine Goes.step (T2 := T78) (g2 := (mkF m 60 #[iv p1, iv p2, iv p3, iv 1, iv 0, .val .null, rv w77, .unset, .unset, .unset, .unset] [.null, (.ref b78), (.ref b78)])) (fun _ hr => XS.aload X78.here hx rfl (hb hby at_58) rfl rfl hr) ?_
      refine Goes.step (T2 := T78) (g2 := (mkF m 62 #[iv p1, iv p2, iv p3, iv 1, iv 0, .val .null, rv w77, .unset, .unset, .unset, .unset] [(.ref w77), .null, (.ref b78), (.ref b78)])) (fun _ hr => XS.aload X78.here hx rfl (hb hby at_60) rfl rfl hr) ?_
      have Zs79 : n0 ≤ h78.size := Nat.le_trans Z0 K78.1
      obtain ⟨_, _, ⟨T80, L80, k80, n80⟩, -, X80, ⟨Lc80, hQ80, l80, y80, z80⟩, st80⟩ := X78.specialBack hx (y := Y4) rfl hown (mvT hZ (tw hw 10 rfl)) (mvT hZ (tw hw 11 rfl)) (mvT hZ (tw hw 12 rfl)) (by decide) (backOf (W := 1) (rm_stNR l Z a0 hw [] b78 w77 h78 n0 Zs79 (Old.keep O0 K78 hws) A78 F_b78_left_78 F_b78_right_78 ge_b78) hZ (tw hw 12 rfl) (tw hw 9 rfl) (by decide) (by decide)) (g := (mkF m 62 #[iv p1, iv p2, iv p3, iv 1, iv 0, .val .null, rv w77, .unset, .unset, .unset, .unset] [(.ref w77), .null, (.ref b78), (.ref b78)])) rfl (by rw [hml]; rfl) (Steps.refl _) (a := b78) (argsL := [.null, (.ref w77)]) (rest := [(.ref b78)]) (lenOf pd_3 rfl) rfl (by show 2 * 0 + _ ≤ _; exact Nat.le_of_eq rfl) (hb hby at_62) (fun _ _ => ⟨rfl, e78, (by decide : 2 + 0 ≤ _), (by decide : 3 + 0 ≤ _)⟩)
      dsimp only [Pt.U, Pt.locs, Pt.cells, Pt.slots] at X80 l80 y80 z80 st80 hQ80
      subst l80 y80 z80
      obtain ⟨rfl, N80q, Kc80, P80_0, P80_1⟩ := hQ80
      have N80 := Fr.app N77 N80q
      have E_b78_80 : Exa Z T80.heap b78 "com/example/libreconf/libreconf/pattern/Junction$State" := A78.keep Kc80
      have K80 : Keep h0 T80.heap [] := K78.trans Kc80 (allS (Or.inr sz_b78) all0)
      have F_b78_left_80c : Fld Z T80.heap b78 "com/example/libreconf/libreconf/pattern/Junction$State" "left" "Ljava/lang/Object;" .null := P80_0
      have F_b78_right_80c : Fld Z T80.heap b78 "com/example/libreconf/libreconf/pattern/Junction$State" "right" "Ljava/lang/Object;" (.ref w77) := P80_1
      refine Goes.step (T2 := T80) (g2 := (mkF m 65 #[iv p1, iv p2, iv p3, iv 1, iv 0, .val .null, rv w77, .unset, .unset, .unset, .unset] [(.ref b78)])) (fun _ hr => st80.trans hr) ?_
      refine Goes.step (T2 := T80) (g2 := (mkF m 67 #[iv p1, iv p2, iv p3, iv 1, iv 0, .val .null, rv w77, rv b78, .unset, .unset, .unset] [])) (fun _ hr => XS.astore X80.here hx rfl (hb hby at_65) rfl rfl (l' := #[iv p1, iv p2, iv p3, iv 1, iv 0, .val .null, rv w77, rv b78, .unset, .unset, .unset]) rfl hr) ?_
      refine Goes.step (T2 := T80) (g2 := (mkF m 68 #[iv p1, iv p2, iv p3, iv 1, iv 0, .val .null, rv w77, rv b78, .unset, .unset, .unset] [(.int (1 : Int32))])) (fun _ hr => XS.iloadN X80.here hx rfl (hb hby at_67) rfl  hr) ?_
      refine Goes.step (T2 := T80) (g2 := (mkF m 71 #[iv p1, iv p2, iv p3, iv 1, iv 0, .val .null, rv w77, rv b78, .unset, .unset, .unset] [])) (fun _ hr => XS.ifNo X80.here hx rfl (hb hby at_68) rfl ((if0 _ _).trans (feq (by decide : ¬ ((1 : Int32) = (0 : Int32)))).1) hr) ?_
      refine Goes.step (T2 := T80) (g2 := (mkF m 73 #[iv p1, iv p2, iv p3, iv 1, iv 0, .val .null, rv w77, rv b78, .unset, .unset, .unset] [(.int (0 : Int32))])) (fun _ hr => XS.iload X80.here hx rfl (hb hby at_71) rfl  hr) ?_
      refine Goes.step (T2 := T80) (g2 := (mkF m 80 #[iv p1, iv p2, iv p3, iv 1, iv 0, .val .null, rv w77, rv b78, .unset, .unset, .unset] [])) (fun _ hr => XS.ifYes X80.here hx rfl (pc0 := 73) (pc' := 80) rfl (hb hby at_73) rfl ((if0 _ _).trans (teq (by decide : (0 : Int32) = (0 : Int32))).1) (by decide) (by decide) hr) ?_
      refine Goes.step (T2 := T80) (g2 := (mkF m 81 #[iv p1, iv p2, iv p3, iv 1, iv 0, .val .null, rv w77, rv b78, .unset, .unset, .unset] [(.int (0 : Int32))])) (fun _ hr => XS.iconst X80.here hx rfl (hb hby at_80) hr) ?_
      refine Goes.step (T2 := T80) (g2 := (mkF m 83 #[iv p1, iv p2, iv p3, iv 1, iv 0, .val .null, rv w77, rv b78, iv 0, .unset, .unset] [])) (fun _ hr => XS.istore X80.here hx rfl (hb hby at_81) rfl (l' := #[iv p1, iv p2, iv p3, iv 1, iv 0, .val .null, rv w77, rv b78, iv 0, .unset, .unset]) rfl hr) ?_
      refine Goes.step (T2 := T80) (g2 := (mkF m 85 #[iv p1, iv p2, iv p3, iv 1, iv 0, .val .null, rv w77, rv b78, iv 0, .unset, .unset] [(.ref b78)])) (fun _ hr => XS.aload X80.here hx rfl (hb hby at_83) rfl rfl hr) ?_
      have Zs81 : n0 ≤ T80.heap.size := Nat.le_trans Z0 K80.1
      obtain ⟨cq82, kq82, q82a, q82b, q82c⟩ := isOf hZ rfl E_b78_80
      obtain ⟨_, _, ⟨T82, L82, k82, n82⟩, -, X82, ⟨Lc82, hQ82, l82, y82, z82⟩, st82⟩ := X80.virtualBack hx (y := Y5) (z := Y5) hown (mvT hZ (tw hw 25 rfl)) (mvT hZ (tw hw 26 rfl)) (notFace_of_selects (args := #[]) (mvT hZ (tw hw 28 rfl))) (mvT hZ (tw hw 28 rfl)) (mvT hZ (tw hw 27 rfl)) (by decide) (backOf (W := 0) (rm_setNR l Z a0 hw [] b78 w77 T80.heap n0 Zs81 (Old.keep O0 K80 hws) F_b78_left_80c F_b78_right_80c) hZ (tw hw 29 rfl) (tw hw 9 rfl) (by decide) (by decide)) q82a q82c (g := (mkF m 85 #[iv p1, iv p2, iv p3, iv 1, iv 0, .val .null, rv w77, rv b78, iv 0, .unset, .unset] [(.ref b78)])) rfl (by rw [hml]; rfl) (Steps.refl _) (argsL := []) (rest := []) (lenOf pd_4 rfl) rfl (by show 2 * 0 + _ ≤ _; exact Nat.le_of_eq rfl) (hb hby at_85) (fun _ _ => ⟨rfl, rfl, (by decide : 2 + 0 ≤ _), (by decide : 3 + 0 ≤ _)⟩)
      dsimp only [Pt.U, Pt.locs, Pt.cells, Pt.slots] at X82 l82 y82 z82 st82 hQ82
      subst l82 y82 z82
      obtain ⟨rfl, N82q, e82⟩ := hQ82
      have N82 := Fr.app N80 N82q
      refine Goes.step (T2 := T82) (g2 := (mkF m 88 #[iv p1, iv p2, iv p3, iv 1, iv 0, .val .null, rv w77, rv b78, iv 0, .unset, .unset] [(.int (0 : Int32))])) (fun _ hr => st82.trans hr) ?_
      refine Goes.step (T2 := T82) (g2 := (mkF m 90 #[iv p1, iv p2, iv p3, iv 1, iv 0, .val .null, rv w77, rv b78, iv 0, iv 0, .unset] [])) (fun _ hr => XS.istore X82.here hx rfl (hb hby at_88) rfl (l' := #[iv p1, iv p2, iv p3, iv 1, iv 0, .val .null, rv w77, rv b78, iv 0, iv 0, .unset]) rfl hr) ?_
      refine Goes.step (T2 := T82) (g2 := (mkF m 92 #[iv p1, iv p2, iv p3, iv 1, iv 0, .val .null, rv w77, rv b78, iv 0, iv 0, .unset] [(.ref b78)])) (fun _ hr => XS.aload X82.here hx rfl (hb hby at_90) rfl rfl hr) ?_
      have Zs83 : n0 ≤ T80.heap.size := Nat.le_trans Z0 K80.1
      obtain ⟨cq84, kq84, q84a, q84b, q84c⟩ := isOf hZ e82 E_b78_80
      obtain ⟨_, _, ⟨T84, L84, k84, n84⟩, -, X84, ⟨Lc84, hQ84, l84, y84, z84⟩, st84⟩ := X82.virtualBack hx (y := Y5) (z := Y5) hown (mvT hZ (tw hw 25 rfl)) (mvT hZ (tw hw 26 rfl)) (notFace_of_selects (args := #[]) (mvT hZ (tw hw 28 rfl))) (mvT hZ (tw hw 28 rfl)) (mvT hZ (tw hw 27 rfl)) (by decide) (backOf (W := 0) (rm_setNR l Z a0 hw [] b78 w77 T80.heap n0 Zs83 (Old.keep O0 K80 hws) F_b78_left_80c F_b78_right_80c) hZ (tw hw 29 rfl) (tw hw 9 rfl) (by decide) (by decide)) q84a q84c (g := (mkF m 92 #[iv p1, iv p2, iv p3, iv 1, iv 0, .val .null, rv w77, rv b78, iv 0, iv 0, .unset] [(.ref b78)])) rfl (by rw [hml]; rfl) (Steps.refl _) (argsL := []) (rest := []) (lenOf pd_4 rfl) rfl (by show 2 * 0 + _ ≤ _; exact Nat.le_of_eq rfl) (hb hby at_92) (fun _ _ => ⟨rfl, e82, (by decide : 2 + 0 ≤ _), (by decide : 3 + 0 ≤ _)⟩)
      dsimp only [Pt.U, Pt.locs, Pt.cells, Pt.slots] at X84 l84 y84 z84 st84 hQ84
      subst l84 y84 z84
      obtain ⟨rfl, N84q, e84⟩ := hQ84
      have N84 := Fr.app N82 N84q
      refine Goes.step (T2 := T84) (g2 := (mkF m 95 #[iv p1, iv p2, iv p3, iv 1, iv 0, .val .null, rv w77, rv b78, iv 0, iv 0, .unset] [(.int (0 : Int32))])) (fun _ hr => st84.trans hr) ?_
      refine Goes.step (T2 := T84) (g2 := (mkF m 97 #[iv p1, iv p2, iv p3, iv 1, iv 0, .val .null, rv w77, rv b78, iv 0, iv 0, iv 0] [])) (fun _ hr => XS.istore X84.here hx rfl (hb hby at_95) rfl (l' := #[iv p1, iv p2, iv p3, iv 1, iv 0, .val .null, rv w77, rv b78, iv 0, iv 0, iv 0]) rfl hr) ?_
      refine Goes.step (T2 := T84) (g2 := (mkF m 99 #[iv p1, iv p2, iv p3, iv 1, iv 0, .val .null, rv w77, rv b78, iv 0, iv 0, iv 0] [(.int (0 : Int32))])) (fun _ hr => XS.iload X84.here hx rfl (hb hby at_97) rfl  hr) ?_
      refine Goes.step (T2 := T84) (g2 := (mkF m 101 #[iv p1, iv p2, iv p3, iv 1, iv 0, .val .null, rv w77, rv b78, iv 0, iv 0, iv 0] [(.int (0 : Int32)), (.int (0 : Int32))])) (fun _ hr => XS.iload X84.here hx rfl (hb hby at_99) rfl  hr) ?_
      refine Goes.step (T2 := T84) (g2 := (mkF m 104 #[iv p1, iv p2, iv p3, iv 1, iv 0, .val .null, rv w77, rv b78, iv 0, iv 0, iv 0] [])) (fun _ hr => XS.icmpNo X84.here hx rfl (hb hby at_101) rfl (teq (by decide : (0 : Int32) = (0 : Int32))).2 hr) ?_
      refine Goes.step (T2 := T84) (g2 := (mkF m 106 #[iv p1, iv p2, iv p3, iv 1, iv 0, .val .null, rv w77, rv b78, iv 0, iv 0, iv 0] [(.int (0 : Int32))])) (fun _ hr => XS.iload X84.here hx rfl (hb hby at_104) rfl  hr) ?_
      refine Goes.step (T2 := T84) (g2 := (mkF m 108 #[iv p1, iv p2, iv p3, iv 1, iv 0, .val .null, rv w77, rv b78, iv 0, iv 0, iv 0] [(.int (0 : Int32)), (.int (0 : Int32))])) (fun _ hr => XS.iload X84.here hx rfl (hb hby at_106) rfl  hr) ?_
      refine Goes.step (T2 := T84) (g2 := (mkF m 111 #[iv p1, iv p2, iv p3, iv 1, iv 0, .val .null, rv w77, rv b78, iv 0, iv 0, iv 0] [])) (fun _ hr => XS.icmpNo X84.here hx rfl (hb hby at_108) rfl (teq (by decide : (0 : Int32) = (0 : Int32))).2 hr) ?_
      refine Goes.step (T2 := T84) (g2 := (mkF m 113 #[iv p1, iv p2, iv p3, iv 1, iv 0, .val .null, rv w77, rv b78, iv 0, iv 0, iv 0] [(.ref b78)])) (fun _ hr => XS.aload X84.here hx rfl (hb hby at_111) rfl rfl hr) ?_
      have Zs85 : n0 ≤ T80.heap.size := Nat.le_trans Z0 K80.1
      obtain ⟨cq86, kq86, q86a, q86b, q86c⟩ := isOf hZ e84 E_b78_80
      obtain ⟨_, _, ⟨T86, L86, k86, n86⟩, -, X86, ⟨Lc86, hQ86, l86, y86, z86⟩, st86⟩ := X84.virtualBack hx (y := Y6) (z := Y6) hown (mvT hZ (tw hw 30 rfl)) (mvT hZ (tw hw 31 rfl)) (notFace_of_selects (args := #[]) (mvT hZ (tw hw 33 rfl))) (mvT hZ (tw hw 33 rfl)) (mvT hZ (tw hw 32 rfl)) (by decide) (backOf (W := 0) (rm_leftN l Z a0 hw [] b78 T80.heap n0 Zs85 (Old.keep O0 K80 hws) F_b78_left_80c) hZ (tw hw 34 rfl) (tw hw 9 rfl) (by decide) (by decide)) q86a q86c (g := (mkF m 113 #[iv p1, iv p2, iv p3, iv 1, iv 0, .val .null, rv w77, rv b78, iv 0, iv 0, iv 0] [(.ref b78)])) rfl (by rw [hml]; rfl) (Steps.refl _) (argsL := []) (rest := []) (lenOf pd_5 rfl) rfl (by show 2 * 0 + _ ≤ _; exact Nat.le_of_eq rfl) (hb hby at_113) (fun _ _ => ⟨rfl, e84, (by decide : 2 + 0 ≤ _), (by decide : 3 + 0 ≤ _)⟩)
      dsimp only [Pt.U, Pt.locs, Pt.cells, Pt.slots] at X86 l86 y86 z86 st86 hQ86
      subst l86 y86 z86
      obtain ⟨rfl, N86q, e86⟩ := hQ86
      have N86 := Fr.app N84 N86q
      refine Goes.step (T2 := T86) (g2 := (mkF m 116 #[iv p1, iv p2, iv p3, iv 1, iv 0, .val .null, rv w77, rv b78, iv 0, iv 0, iv 0] [.null])) (fun _ hr => st86.trans hr) ?_
      refine Goes.step (T2 := T86) (g2 := (mkF m 118 #[iv p1, iv p2, iv p3, iv 1, iv 0, .val .null, rv w77, rv b78, iv 0, iv 0, iv 0] [.null, .null])) (fun _ hr => XS.aload X86.here hx rfl (hb hby at_116) rfl rfl hr) ?_
      refine Goes.step (T2 := T86) (g2 := (mkF m 121 #[iv p1, iv p2, iv p3, iv 1, iv 0, .val .null, rv w77, rv b78, iv 0, iv 0, iv 0] [])) (fun _ hr => Jvm.RoadKit.acmp (g := (mkF m 118 #[iv p1, iv p2, iv p3, iv 1, iv 0, .val .null, rv w77, rv b78, iv 0, iv 0, iv 0] [.null, .null])) X86 hx rfl rfl rfl (pc0 := 118) (pc' := 121) (same := true) rfl (hb hby at_118) rfl (decide_eq_true rfl) (by decide) (by decide) hr) ?_
      refine Goes.step (T2 := T86) (g2 := (mkF m 123 #[iv p1, iv p2, iv p3, iv 1, iv 0, .val .null, rv w77, rv b78, iv 0, iv 0, iv 0] [(.ref b78)])) (fun _ hr => XS.aload X86.here hx rfl (hb hby at_121) rfl rfl hr) ?_
      have Zs87 : n0 ≤ T80.heap.size := Nat.le_trans Z0 K80.1
      obtain ⟨cq88, kq88, q88a, q88b, q88c⟩ := isOf hZ e86 E_b78_80
      obtain ⟨_, _, ⟨T88, L88, k88, n88⟩, -, X88, ⟨Lc88, hQ88, l88, y88, z88⟩, st88⟩ := X86.virtualBack hx (y := Y7) (z := Y7) hown (mvT hZ (tw hw 35 rfl)) (mvT hZ (tw hw 36 rfl)) (notFace_of_selects (args := #[]) (mvT hZ (tw hw 38 rfl))) (mvT hZ (tw hw 38 rfl)) (mvT hZ (tw hw 37 rfl)) (by decide) (backOf (W := 0) (rm_rightR l Z a0 hw [] b78 w77 T80.heap n0 Zs87 (Old.keep O0 K80 hws) F_b78_right_80c) hZ (tw hw 39 rfl) (tw hw 9 rfl) (by decide) (by decide)) q88a q88c (g := (mkF m 123 #[iv p1, iv p2, iv p3, iv 1, iv 0, .val .null, rv w77, rv b78, iv 0, iv 0, iv 0] [(.ref b78)])) rfl (by rw [hml]; rfl) (Steps.refl _) (argsL := []) (rest := []) (lenOf pd_5 rfl) rfl (by show 2 * 0 + _ ≤ _; exact Nat.le_of_eq rfl) (hb hby at_123) (fun _ _ => ⟨rfl, e86, (by decide : 2 + 0 ≤ _), (by decide : 3 + 0 ≤ _)⟩)
      dsimp only [Pt.U, Pt.locs, Pt.cells, Pt.slots] at X88 l88 y88 z88 st88 hQ88
      subst l88 y88 z88
      obtain ⟨rfl, N88q, e88⟩ := hQ88
      have N88 := Fr.app N86 N88q
      refine Goes.step (T2 := T88) (g2 := (mkF m 126 #[iv p1, iv p2, iv p3, iv 1, iv 0, .val .null, rv w77, rv b78, iv 0, iv 0, iv 0] [(.ref w77)])) (fun _ hr => st88.trans hr) ?_
      refine Goes.step (T2 := T88) (g2 := (mkF m 128 #[iv p1, iv p2, iv p3, iv 1, iv 0, .val .null, rv w77, rv b78, iv 0, iv 0, iv 0] [(.ref w77), (.ref w77)])) (fun _ hr => XS.aload X88.here hx rfl (hb hby at_126) rfl rfl hr) ?_
      refine Goes.step (T2 := T88) (g2 := (mkF m 131 #[iv p1, iv p2, iv p3, iv 1, iv 0, .val .null, rv w77, rv b78, iv 0, iv 0, iv 0] [])) (fun _ hr => Jvm.RoadKit.acmp (g := (mkF m 128 #[iv p1, iv p2, iv p3, iv 1, iv 0, .val .null, rv w77, rv b78, iv 0, iv 0, iv 0] [(.ref w77), (.ref w77)])) X88 hx rfl rfl rfl (pc0 := 128) (pc' := 131) (same := true) rfl (hb hby at_128) rfl (decide_eq_true rfl) (by decide) (by decide) hr) ?_
      refine Goes.step (T2 := T88) (g2 := (mkF m 132 #[iv p1, iv p2, iv p3, iv 1, iv 0, .val .null, rv w77, rv b78, iv 0, iv 0, iv 0] [(.int (1 : Int32))])) (fun _ hr => XS.iconst X88.here hx rfl (hb hby at_131) hr) ?_
      refine Goes.step (T2 := T88) (g2 := (mkF m 136 #[iv p1, iv p2, iv p3, iv 1, iv 0, .val .null, rv w77, rv b78, iv 0, iv 0, iv 0] [(.int (1 : Int32))])) (fun _ hr => XS.goto X88.here hx rfl (pc0 := 132) (pc' := 136) rfl (hb hby at_132) (by decide) (by decide) hr) ?_
      exact Goes.ret (v := some (.int (1 : Int32))) X88 (by decide) (by decide) (fun h => by rw [Bd.returns] at h; cases h) ⟨rfl, N88⟩ (fun fs hr => retN X88 hx (t := .boolean) Bd.returns (by simp) (hb hby at_136) hr)
    · refine Goes.step (T2 := s₁) (g2 := (mkF m 18 #[iv p1, iv p2, iv p3, iv 1, .unset, .unset, .unset, .unset, .unset, .unset, .unset] [])) (fun _ hr => XS.ifNo X0.here hx rfl (hb hby at_15) rfl ((if0 _ _).trans (feq hc15_75).1) hr) ?_
      refine Goes.step (T2 := s₁) (g2 := (mkF m 19 #[iv p1, iv p2, iv p3, iv 1, .unset, .unset, .unset, .unset, .unset, .unset, .unset] [(.int (1 : Int32))])) (fun _ hr => XS.iconst X0.here hx rfl (hb hby at_18) hr) ?_
      refine Goes.step (T2 := s₁) (g2 := (mkF m 23 #[iv p1, iv p2, iv p3, iv 1, .unset, .unset, .unset, .unset, .unset, .unset, .unset] [(.int (1 : Int32))])) (fun _ hr => XS.goto X0.here hx rfl (pc0 := 19) (pc' := 23) rfl (hb hby at_19) (by decide) (by decide) hr) ?_
      refine Goes.step (T2 := s₁) (g2 := (mkF m 25 #[iv p1, iv p2, iv p3, iv 1, iv 1, .unset, .unset, .unset, .unset, .unset, .unset] [])) (fun _ hr => XS.istore X0.here hx rfl (hb hby at_23) rfl (l' := #[iv p1, iv p2, iv p3, iv 1, iv 1, .unset, .unset, .unset, .unset, .unset, .unset]) rfl hr) ?_
      refine Goes.step (T2 := s₁) (g2 := (mkF m 26 #[iv p1, iv p2, iv p3, iv 1, iv 1, .unset, .unset, .unset, .unset, .unset, .unset] [(.int (1 : Int32))])) (fun _ hr => XS.iloadN X0.here hx rfl (hb hby at_25) rfl  hr) ?_
      refine Goes.step (T2 := s₁) (g2 := (mkF m 29 #[iv p1, iv p2, iv p3, iv 1, iv 1, .unset, .unset, .unset, .unset, .unset, .unset] [])) (fun _ hr => XS.ifNo X0.here hx rfl (hb hby at_26) rfl ((if0 _ _).trans (feq (by decide : ¬ ((1 : Int32) = (0 : Int32)))).1) hr) ?_
      refine Goes.step (T2 := s₁) (g2 := (mkF m 30 #[iv p1, iv p2, iv p3, iv 1, iv 1, .unset, .unset, .unset, .unset, .unset, .unset] [.null])) (fun _ hr => XS.aconstNull X0.here hx rfl (hb hby at_29) hr) ?_
      refine Goes.step (T2 := s₁) (g2 := (mkF m 37 #[iv p1, iv p2, iv p3, iv 1, iv 1, .unset, .unset, .unset, .unset, .unset, .unset] [.null])) (fun _ hr => XS.goto X0.here hx rfl (pc0 := 30) (pc' := 37) rfl (hb hby at_30) (by decide) (by decide) hr) ?_
      refine Goes.step (T2 := s₁) (g2 := (mkF m 39 #[iv p1, iv p2, iv p3, iv 1, iv 1, .val .null, .unset, .unset, .unset, .unset, .unset] [])) (fun _ hr => XS.astore X0.here hx rfl (hb hby at_37) rfl rfl (l' := #[iv p1, iv p2, iv p3, iv 1, iv 1, .val .null, .unset, .unset, .unset, .unset, .unset]) rfl hr) ?_
      refine Goes.step (T2 := s₁) (g2 := (mkF m 41 #[iv p1, iv p2, iv p3, iv 1, iv 1, .val .null, .unset, .unset, .unset, .unset, .unset] [(.int (1 : Int32))])) (fun _ hr => XS.iload X0.here hx rfl (hb hby at_39) rfl  hr) ?_
      refine Goes.step (T2 := s₁) (g2 := (mkF m 44 #[iv p1, iv p2, iv p3, iv 1, iv 1, .val .null, .unset, .unset, .unset, .unset, .unset] [])) (fun _ hr => XS.ifNo X0.here hx rfl (hb hby at_41) rfl ((if0 _ _).trans (feq (by decide : ¬ ((1 : Int32) = (0 : Int32)))).1) hr) ?_
      refine Goes.step (T2 := s₁) (g2 := (mkF m 45 #[iv p1, iv p2, iv p3, iv 1, iv 1, .val .null, .unset, .unset, .unset, .unset, .unset] [.null])) (fun _ hr => XS.aconstNull X0.here hx rfl (hb hby at_44) hr) ?_
      refine Goes.step (T2 := s₁) (g2 := (mkF m 52 #[iv p1, iv p2, iv p3, iv 1, iv 1, .val .null, .unset, .unset, .unset, .unset, .unset] [.null])) (fun _ hr => XS.goto X0.here hx rfl (pc0 := 45) (pc' := 52) rfl (hb hby at_45) (by decide) (by decide) hr) ?_
      refine Goes.step (T2 := s₁) (g2 := (mkF m 54 #[iv p1, iv p2, iv p3, iv 1, iv 1, .val .null, .val .null, .unset, .unset, .unset, .unset] [])) (fun _ hr => XS.astore X0.here hx rfl (hb hby at_52) rfl rfl (l' := #[iv p1, iv p2, iv p3, iv 1, iv 1, .val .null, .val .null, .unset, .unset, .unset, .unset]) rfl hr) ?_
      obtain ⟨T89, h89, X89, e89, E89, A89, D89, -, st89⟩ := newO X0 hx hZ hown (tw hw 7 rfl) (tw hw 8 rfl) (tw hw 9 rfl) e0 (g := (mkF m 54 #[iv p1, iv p2, iv p3, iv 1, iv 1, .val .null, .val .null, .unset, .unset, .unset, .unset] [])) rfl (hb hby at_54) (by decide) (by decide)
      obtain ⟨b89, g89⟩ : ∃ z, z = h0.size := ⟨_, rfl⟩
      rw [← g89] at A89 D89 st89
      have sz_b89 : h0.size ≤ b89 := Nat.le_trans K0.1 (Nat.le_of_eq g89.symm)
      have ge_b89 : n0 ≤ b89 := Nat.le_trans Z0 sz_b89
      have K89 : Keep h0 h89 [] := K0.ext E89
      have F_b89_left_89 : Fld Z h89 b89 "com/example/libreconf/libreconf/pattern/Junction$State" "left" "Ljava/lang/Object;" .null := D89 (Or.inr (tw hw 22 rfl)) (ty := (.object "java/lang/Object")) (by decide)
      have F_b89_right_89 : Fld Z h89 b89 "com/example/libreconf/libreconf/pattern/Junction$State" "right" "Ljava/lang/Object;" .null := D89 (Or.inr (tw hw 24 rfl)) (ty := (.object "java/lang/Object")) (by decide)
      refine Goes.step (T2 := T89) (g2 := (mkF m 57 #[iv p1, iv p2, iv p3, iv 1, iv 1, .val .null, .val .null, .unset, .unset, .unset, .unset] [(.ref b89)])) st89 ?_
      refine Goes.step (T2 := T89) (g2 := (mkF m 58 #[iv p1, iv p2, iv p3, iv 1, iv 1, .val .null, .val .null, .unset, .unset, .unset, .unset] [(.ref b89), (.ref b89)])) (fun _ hr => XS.dup X89.here hx rfl (hb hby at_57) rfl rfl hr) ?_
      refine Goes.step (T2 := T89) (g2 := (mkF m 60 #[iv p1, iv p2, iv p3, iv 1, iv 1, .val .null, .val .null, .unset, .unset, .unset, .unset] [.null, (.ref b89), (.ref b89)])) (fun _ hr => XS.aload X89.here hx rfl (hb hby at_58) rfl rfl hr) ?_
      refine Goes.step (T2 := T89) (g2 := (mkF m 62 #[iv p1, iv p2, iv p3, iv 1, iv 1, .val .null, .val .null, .unset, .unset, .unset, .unset] [.null, .null, (.ref b89), (.ref b89)])) (fun _ hr => XS.aload X89.here hx rfl (hb hby at_60) rfl rfl hr) ?_
      have Zs90 : n0 ≤ h89.size := Nat.le_trans Z0 K89.1
      obtain ⟨_, _, ⟨T91, L91, k91, n91⟩, -, X91, ⟨Lc91, hQ91, l91, y91, z91⟩, st91⟩ := X89.specialBack hx (y := Y4) rfl hown (mvT hZ (tw hw 10 rfl)) (mvT hZ (tw hw 11 rfl)) (mvT hZ (tw hw 12 rfl)) (by decide) (backOf (W := 1) (rm_stNN l Z a0 hw [] b89 h89 n0 Zs90 (Old.keep O0 K89 hws) A89 F_b89_left_89 F_b89_right_89 ge_b89) hZ (tw hw 12 rfl) (tw hw 9 rfl) (by decide) (by decide)) (g := (mkF m 62 #[iv p1, iv p2, iv p3, iv 1, iv 1, .val .null, .val .null, .unset, .unset, .unset, .unset] [.null, .null, (.ref b89), (.ref b89)])) rfl (by rw [hml]; rfl) (Steps.refl _) (a := b89) (argsL := [.null, .null]) (rest := [(.ref b89)]) (lenOf pd_3 rfl) rfl (by show 2 * 0 + _ ≤ _; exact Nat.le_of_eq rfl) (hb hby at_62) (fun _ _ => ⟨rfl, e89, (by decide : 1 + 0 ≤ _), (by decide : 2 + 0 ≤ _)⟩)
      dsimp only [Pt.U, Pt.locs, Pt.cells, Pt.slots] at X91 l91 y91 z91 st91 hQ91
      subst l91 y91 z91
      obtain ⟨rfl, N91q, Kc91, P91_0, P91_1⟩ := hQ91
      have N91 := Fr.app N0 N91q
      have E_b89_91 : Exa Z T91.heap b89 "com/example/libreconf/libreconf/pattern/Junction$State" := A89.keep Kc91
      have K91 : Keep h0 T91.heap [] := K89.trans Kc91 (allS (Or.inr sz_b89) all0)
      have F_b89_left_91c : Fld Z T91.heap b89 "com/example/libreconf/libreconf/pattern/Junction$State" "left" "Ljava/lang/Object;" .null := P91_0
      have F_b89_right_91c : Fld Z T91.heap b89 "com/example/libreconf/libreconf/pattern/Junction$State" "right" "Ljava/lang/Object;" .null := P91_1
      refine Goes.step (T2 := T91) (g2 := (mkF m 65 #[iv p1, iv p2, iv p3, iv 1, iv 1, .val .null, .val .null, .unset, .unset, .unset, .unset] [(.ref b89)])) (fun _ hr => st91.trans hr) ?_
      refine Goes.step (T2 := T91) (g2 := (mkF m 67 #[iv p1, iv p2, iv p3, iv 1, iv 1, .val .null, .val .null, rv b89, .unset, .unset, .unset] [])) (fun _ hr => XS.astore X91.here hx rfl (hb hby at_65) rfl rfl (l' := #[iv p1, iv p2, iv p3, iv 1, iv 1, .val .null, .val .null, rv b89, .unset, .unset, .unset]) rfl hr) ?_
      refine Goes.step (T2 := T91) (g2 := (mkF m 68 #[iv p1, iv p2, iv p3, iv 1, iv 1, .val .null, .val .null, rv b89, .unset, .unset, .unset] [(.int (1 : Int32))])) (fun _ hr => XS.iloadN X91.here hx rfl (hb hby at_67) rfl  hr) ?_
      refine Goes.step (T2 := T91) (g2 := (mkF m 71 #[iv p1, iv p2, iv p3, iv 1, iv 1, .val .null, .val .null, rv b89, .unset, .unset, .unset] [])) (fun _ hr => XS.ifNo X91.here hx rfl (hb hby at_68) rfl ((if0 _ _).trans (feq (by decide : ¬ ((1 : Int32) = (0 : Int32)))).1) hr) ?_
      refine Goes.step (T2 := T91) (g2 := (mkF m 73 #[iv p1, iv p2, iv p3, iv 1, iv 1, .val .null, .val .null, rv b89, .unset, .unset, .unset] [(.int (1 : Int32))])) (fun _ hr => XS.iload X91.here hx rfl (hb hby at_71) rfl  hr) ?_
      refine Goes.step (T2 := T91) (g2 := (mkF m 76 #[iv p1, iv p2, iv p3, iv 1, iv 1, .val .null, .val .null, rv b89, .unset, .unset, .unset] [])) (fun _ hr => XS.ifNo X91.here hx rfl (hb hby at_73) rfl ((if0 _ _).trans (feq (by decide : ¬ ((1 : Int32) = (0 : Int32)))).1) hr) ?_
      refine Goes.step (T2 := T91) (g2 := (mkF m 77 #[iv p1, iv p2, iv p3, iv 1, iv 1, .val .null, .val .null, rv b89, .unset, .unset, .unset] [(.int (1 : Int32))])) (fun _ hr => XS.iconst X91.here hx rfl (hb hby at_76) hr) ?_
      refine Goes.step (T2 := T91) (g2 := (mkF m 81 #[iv p1, iv p2, iv p3, iv 1, iv 1, .val .null, .val .null, rv b89, .unset, .unset, .unset] [(.int (1 : Int32))])) (fun _ hr => XS.goto X91.here hx rfl (pc0 := 77) (pc' := 81) rfl (hb hby at_77) (by decide) (by decide) hr) ?_
      refine Goes.step (T2 := T91) (g2 := (mkF m 83 #[iv p1, iv p2, iv p3, iv 1, iv 1, .val .null, .val .null, rv b89, iv 1, .unset, .unset] [])) (fun _ hr => XS.istore X91.here hx rfl (hb hby at_81) rfl (l' := #[iv p1, iv p2, iv p3, iv 1, iv 1, .val .null, .val .null, rv b89, iv 1, .unset, .unset]) rfl hr) ?_
      refine Goes.step (T2 := T91) (g2 := (mkF m 85 #[iv p1, iv p2, iv p3, iv 1, iv 1, .val .null, .val .null, rv b89, iv 1, .unset, .unset] [(.ref b89)])) (fun _ hr => XS.aload X91.here hx rfl (hb hby at_83) rfl rfl hr) ?_
      have Zs92 : n0 ≤ T91.heap.size := Nat.le_trans Z0 K91.1
      obtain ⟨cq93, kq93, q93a, q93b, q93c⟩ := isOf hZ rfl E_b89_91
      obtain ⟨_, _, ⟨T93, L93, k93, n93⟩, -, X93, ⟨Lc93, hQ93, l93, y93, z93⟩, st93⟩ := X91.virtualBack hx (y := Y5) (z := Y5) hown (mvT hZ (tw hw 25 rfl)) (mvT hZ (tw hw 26 rfl)) (notFace_of_selects (args := #[]) (mvT hZ (tw hw 28 rfl))) (mvT hZ (tw hw 28 rfl)) (mvT hZ (tw hw 27 rfl)) (by decide) (backOf (W := 0) (rm_setNN l Z a0 hw [] b89 T91.heap n0 Zs92 (Old.keep O0 K91 hws) F_b89_left_91c F_b89_right_91c) hZ (tw hw 29 rfl) (tw hw 9 rfl) (by decide) (by decide)) q93a q93c (g := (mkF m 85 #[iv p1, iv p2, iv p3, iv 1, iv 1, .val .null, .val .null, rv b89, iv 1, .unset, .unset] [(.ref b89)])) rfl (by rw [hml]; rfl) (Steps.refl _) (argsL := []) (rest := []) (lenOf pd_4 rfl) rfl (by show 2 * 0 + _ ≤ _; exact Nat.le_of_eq rfl) (hb hby at_85) (fun _ _ => ⟨rfl, rfl, (by decide : 1 + 0 ≤ _), (by decide : 2 + 0 ≤ _)⟩)
      dsimp only [Pt.U, Pt.locs, Pt.cells, Pt.slots] at X93 l93 y93 z93 st93 hQ93
      subst l93 y93 z93
      obtain ⟨rfl, N93q, e93⟩ := hQ93
      have N93 := Fr.app N91 N93q
      refine Goes.step (T2 := T93) (g2 := (mkF m 88 #[iv p1, iv p2, iv p3, iv 1, iv 1, .val .null, .val .null, rv b89, iv 1, .unset, .unset] [(.int (1 : Int32))])) (fun _ hr => st93.trans hr) ?_
      refine Goes.step (T2 := T93) (g2 := (mkF m 90 #[iv p1, iv p2, iv p3, iv 1, iv 1, .val .null, .val .null, rv b89, iv 1, iv 1, .unset] [])) (fun _ hr => XS.istore X93.here hx rfl (hb hby at_88) rfl (l' := #[iv p1, iv p2, iv p3, iv 1, iv 1, .val .null, .val .null, rv b89, iv 1, iv 1, .unset]) rfl hr) ?_
      refine Goes.step (T2 := T93) (g2 := (mkF m 92 #[iv p1, iv p2, iv p3, iv 1, iv 1, .val .null, .val .null, rv b89, iv 1, iv 1, .unset] [(.ref b89)])) (fun _ hr => XS.aload X93.here hx rfl (hb hby at_90) rfl rfl hr) ?_
      have Zs94 : n0 ≤ T91.heap.size := Nat.le_trans Z0 K91.1
      obtain ⟨cq95, kq95, q95a, q95b, q95c⟩ := isOf hZ e93 E_b89_91
      obtain ⟨_, _, ⟨T95, L95, k95, n95⟩, -, X95, ⟨Lc95, hQ95, l95, y95, z95⟩, st95⟩ := X93.virtualBack hx (y := Y5) (z := Y5) hown (mvT hZ (tw hw 25 rfl)) (mvT hZ (tw hw 26 rfl)) (notFace_of_selects (args := #[]) (mvT hZ (tw hw 28 rfl))) (mvT hZ (tw hw 28 rfl)) (mvT hZ (tw hw 27 rfl)) (by decide) (backOf (W := 0) (rm_setNN l Z a0 hw [] b89 T91.heap n0 Zs94 (Old.keep O0 K91 hws) F_b89_left_91c F_b89_right_91c) hZ (tw hw 29 rfl) (tw hw 9 rfl) (by decide) (by decide)) q95a q95c (g := (mkF m 92 #[iv p1, iv p2, iv p3, iv 1, iv 1, .val .null, .val .null, rv b89, iv 1, iv 1, .unset] [(.ref b89)])) rfl (by rw [hml]; rfl) (Steps.refl _) (argsL := []) (rest := []) (lenOf pd_4 rfl) rfl (by show 2 * 0 + _ ≤ _; exact Nat.le_of_eq rfl) (hb hby at_92) (fun _ _ => ⟨rfl, e93, (by decide : 1 + 0 ≤ _), (by decide : 2 + 0 ≤ _)⟩)
      dsimp only [Pt.U, Pt.locs, Pt.cells, Pt.slots] at X95 l95 y95 z95 st95 hQ95
      subst l95 y95 z95
      obtain ⟨rfl, N95q, e95⟩ := hQ95
      have N95 := Fr.app N93 N95q
      refine Goes.step (T2 := T95) (g2 := (mkF m 95 #[iv p1, iv p2, iv p3, iv 1, iv 1, .val .null, .val .null, rv b89, iv 1, iv 1, .unset] [(.int (1 : Int32))])) (fun _ hr => st95.trans hr) ?_
      refine Goes.step (T2 := T95) (g2 := (mkF m 97 #[iv p1, iv p2, iv p3, iv 1, iv 1, .val .null, .val .null, rv b89, iv 1, iv 1, iv 1] [])) (fun _ hr => XS.istore X95.here hx rfl (hb hby at_95) rfl (l' := #[iv p1, iv p2, iv p3, iv 1, iv 1, .val .null, .val .null, rv b89, iv 1, iv 1, iv 1]) rfl hr) ?_
      refine Goes.step (T2 := T95) (g2 := (mkF m 99 #[iv p1, iv p2, iv p3, iv 1, iv 1, .val .null, .val .null, rv b89, iv 1, iv 1, iv 1] [(.int (1 : Int32))])) (fun _ hr => XS.iload X95.here hx rfl (hb hby at_97) rfl  hr) ?_
      refine Goes.step (T2 := T95) (g2 := (mkF m 101 #[iv p1, iv p2, iv p3, iv 1, iv 1, .val .null, .val .null, rv b89, iv 1, iv 1, iv 1] [(.int (1 : Int32)), (.int (1 : Int32))])) (fun _ hr => XS.iload X95.here hx rfl (hb hby at_99) rfl  hr) ?_
      refine Goes.step (T2 := T95) (g2 := (mkF m 104 #[iv p1, iv p2, iv p3, iv 1, iv 1, .val .null, .val .null, rv b89, iv 1, iv 1, iv 1] [])) (fun _ hr => XS.icmpNo X95.here hx rfl (hb hby at_101) rfl (teq (by decide : (1 : Int32) = (1 : Int32))).2 hr) ?_
      refine Goes.step (T2 := T95) (g2 := (mkF m 106 #[iv p1, iv p2, iv p3, iv 1, iv 1, .val .null, .val .null, rv b89, iv 1, iv 1, iv 1] [(.int (1 : Int32))])) (fun _ hr => XS.iload X95.here hx rfl (hb hby at_104) rfl  hr) ?_
      refine Goes.step (T2 := T95) (g2 := (mkF m 108 #[iv p1, iv p2, iv p3, iv 1, iv 1, .val .null, .val .null, rv b89, iv 1, iv 1, iv 1] [(.int (1 : Int32)), (.int (1 : Int32))])) (fun _ hr => XS.iload X95.here hx rfl (hb hby at_106) rfl  hr) ?_
      refine Goes.step (T2 := T95) (g2 := (mkF m 111 #[iv p1, iv p2, iv p3, iv 1, iv 1, .val .null, .val .null, rv b89, iv 1, iv 1, iv 1] [])) (fun _ hr => XS.icmpNo X95.here hx rfl (hb hby at_108) rfl (teq (by decide : (1 : Int32) = (1 : Int32))).2 hr) ?_
      refine Goes.step (T2 := T95) (g2 := (mkF m 113 #[iv p1, iv p2, iv p3, iv 1, iv 1, .val .null, .val .null, rv b89, iv 1, iv 1, iv 1] [(.ref b89)])) (fun _ hr => XS.aload X95.here hx rfl (hb hby at_111) rfl rfl hr) ?_
      have Zs96 : n0 ≤ T91.heap.size := Nat.le_trans Z0 K91.1
      obtain ⟨cq97, kq97, q97a, q97b, q97c⟩ := isOf hZ e95 E_b89_91
      obtain ⟨_, _, ⟨T97, L97, k97, n97⟩, -, X97, ⟨Lc97, hQ97, l97, y97, z97⟩, st97⟩ := X95.virtualBack hx (y := Y6) (z := Y6) hown (mvT hZ (tw hw 30 rfl)) (mvT hZ (tw hw 31 rfl)) (notFace_of_selects (args := #[]) (mvT hZ (tw hw 33 rfl))) (mvT hZ (tw hw 33 rfl)) (mvT hZ (tw hw 32 rfl)) (by decide) (backOf (W := 0) (rm_leftN l Z a0 hw [] b89 T91.heap n0 Zs96 (Old.keep O0 K91 hws) F_b89_left_91c) hZ (tw hw 34 rfl) (tw hw 9 rfl) (by decide) (by decide)) q97a q97c (g := (mkF m 113 #[iv p1, iv p2, iv p3, iv 1, iv 1, .val .null, .val .null, rv b89, iv 1, iv 1, iv 1] [(.ref b89)])) rfl (by rw [hml]; rfl) (Steps.refl _) (argsL := []) (rest := []) (lenOf pd_5 rfl) rfl (by show 2 * 0 + _ ≤ _; exact Nat.le_of_eq rfl) (hb hby at_113) (fun _ _ => ⟨rfl, e95, (by decide : 1 + 0 ≤ _), (by decide : 2 + 0 ≤ _)⟩)
      dsimp only [Pt.U, Pt.locs, Pt.cells, Pt.slots] at X97 l97 y97 z97 st97 hQ97
      subst l97 y97 z97
      obtain ⟨rfl, N97q, e97⟩ := hQ97
      have N97 := Fr.app N95 N97q
      refine Goes.step (T2 := T97) (g2 := (mkF m 116 #[iv p1, iv p2, iv p3, iv 1, iv 1, .val .null, .val .null, rv b89, iv 1, iv 1, iv 1] [.null])) (fun _ hr => st97.trans hr) ?_
      refine Goes.step (T2 := T97) (g2 := (mkF m 118 #[iv p1, iv p2, iv p3, iv 1, iv 1, .val .null, .val .null, rv b89, iv 1, iv 1, iv 1] [.null, .null])) (fun _ hr => XS.aload X97.here hx rfl (hb hby at_116) rfl rfl hr) ?_
      refine Goes.step (T2 := T97) (g2 := (mkF m 121 #[iv p1, iv p2, iv p3, iv 1, iv 1, .val .null, .val .null, rv b89, iv 1, iv 1, iv 1] [])) (fun _ hr => Jvm.RoadKit.acmp (g := (mkF m 118 #[iv p1, iv p2, iv p3, iv 1, iv 1, .val .null, .val .null, rv b89, iv 1, iv 1, iv 1] [.null, .null])) X97 hx rfl rfl rfl (pc0 := 118) (pc' := 121) (same := true) rfl (hb hby at_118) rfl (decide_eq_true rfl) (by decide) (by decide) hr) ?_
      refine Goes.step (T2 := T97) (g2 := (mkF m 123 #[iv p1, iv p2, iv p3, iv 1, iv 1, .val .null, .val .null, rv b89, iv 1, iv 1, iv 1] [(.ref b89)])) (fun _ hr => XS.aload X97.here hx rfl (hb hby at_121) rfl rfl hr) ?_
      have Zs98 : n0 ≤ T91.heap.size := Nat.le_trans Z0 K91.1
      obtain ⟨cq99, kq99, q99a, q99b, q99c⟩ := isOf hZ e97 E_b89_91
      obtain ⟨_, _, ⟨T99, L99, k99, n99⟩, -, X99, ⟨Lc99, hQ99, l99, y99, z99⟩, st99⟩ := X97.virtualBack hx (y := Y7) (z := Y7) hown (mvT hZ (tw hw 35 rfl)) (mvT hZ (tw hw 36 rfl)) (notFace_of_selects (args := #[]) (mvT hZ (tw hw 38 rfl))) (mvT hZ (tw hw 38 rfl)) (mvT hZ (tw hw 37 rfl)) (by decide) (backOf (W := 0) (rm_rightN l Z a0 hw [] b89 T91.heap n0 Zs98 (Old.keep O0 K91 hws) F_b89_right_91c) hZ (tw hw 39 rfl) (tw hw 9 rfl) (by decide) (by decide)) q99a q99c (g := (mkF m 123 #[iv p1, iv p2, iv p3, iv 1, iv 1, .val .null, .val .null, rv b89, iv 1, iv 1, iv 1] [(.ref b89)])) rfl (by rw [hml]; rfl) (Steps.refl _) (argsL := []) (rest := []) (lenOf pd_5 rfl) rfl (by show 2 * 0 + _ ≤ _; exact Nat.le_of_eq rfl) (hb hby at_123) (fun _ _ => ⟨rfl, e97, (by decide : 1 + 0 ≤ _), (by decide : 2 + 0 ≤ _)⟩)
      dsimp only [Pt.U, Pt.locs, Pt.cells, Pt.slots] at X99 l99 y99 z99 st99 hQ99
      subst l99 y99 z99
      obtain ⟨rfl, N99q, e99⟩ := hQ99
      have N99 := Fr.app N97 N99q
      refine Goes.step (T2 := T99) (g2 := (mkF m 126 #[iv p1, iv p2, iv p3, iv 1, iv 1, .val .null, .val .null, rv b89, iv 1, iv 1, iv 1] [.null])) (fun _ hr => st99.trans hr) ?_
      refine Goes.step (T2 := T99) (g2 := (mkF m 128 #[iv p1, iv p2, iv p3, iv 1, iv 1, .val .null, .val .null, rv b89, iv 1, iv 1, iv 1] [.null, .null])) (fun _ hr => XS.aload X99.here hx rfl (hb hby at_126) rfl rfl hr) ?_
      refine Goes.step (T2 := T99) (g2 := (mkF m 131 #[iv p1, iv p2, iv p3, iv 1, iv 1, .val .null, .val .null, rv b89, iv 1, iv 1, iv 1] [])) (fun _ hr => Jvm.RoadKit.acmp (g := (mkF m 128 #[iv p1, iv p2, iv p3, iv 1, iv 1, .val .null, .val .null, rv b89, iv 1, iv 1, iv 1] [.null, .null])) X99 hx rfl rfl rfl (pc0 := 128) (pc' := 131) (same := true) rfl (hb hby at_128) rfl (decide_eq_true rfl) (by decide) (by decide) hr) ?_
      refine Goes.step (T2 := T99) (g2 := (mkF m 132 #[iv p1, iv p2, iv p3, iv 1, iv 1, .val .null, .val .null, rv b89, iv 1, iv 1, iv 1] [(.int (1 : Int32))])) (fun _ hr => XS.iconst X99.here hx rfl (hb hby at_131) hr) ?_
      refine Goes.step (T2 := T99) (g2 := (mkF m 136 #[iv p1, iv p2, iv p3, iv 1, iv 1, .val .null, .val .null, rv b89, iv 1, iv 1, iv 1] [(.int (1 : Int32))])) (fun _ hr => XS.goto X99.here hx rfl (pc0 := 132) (pc' := 136) rfl (hb hby at_132) (by decide) (by decide) hr) ?_
      exact Goes.ret (v := some (.int (1 : Int32))) X99 (by decide) (by decide) (fun h => by rw [Bd.returns] at h; cases h) ⟨rfl, N99⟩ (fun fs hr => retN X99 hx (t := .boolean) Bd.returns (by simp) (hb hby at_136) hr)
set_option maxRecDepth 65536 in
set_option maxHeartbeats 40000000 in
theorem comes_1 {Post : Tables → Env → Array Value → State → Outcome → State → Prop} (hpost : ∀ tb e args s v u, (limb_1_1.after args s (.returned v) u = true ∧ limb_1_2.after args s (.returned v) u = true ∧ True) → FrameEnd s (.returned v) u (Jvm.fieldLocs frame_1_writes args s ++ Jvm.arrayLocs frame_1_arrays args s ++ Jvm.staticLocs frame_1_statics s) 16 128 → Post tb e args s (.returned v) u) :
    ArmFor flags0 classFile x code maxLocals ret World_1 tables_1 room_1 Calls_1 rest_1 Pre_1 Post := by
  intro l hfl _ _ p e ha hc hk s m args below hf hA hF happ hP
  obtain ⟨hcalls, hrest, hpre⟩ := hP
  obtain ⟨-, -, -, hnamed, -, -, -, hat⟩ := (Spec.applies_iff hf).mp happ
  obtain ⟨hg, hn⟩ := and_e (Cond.before_iff.mp (show (Jvm.Cond.and given_1 narrow_1).before args s = true from hpre))
  obtain ⟨g1, g2⟩ := and_e hg
  obtain ⟨g3, g4⟩ := and_e g2
  obtain ⟨g5, g6⟩ := and_e g4
  obtain ⟨w0, w1, w2, rfl⟩ : ∃ w0 w1 w2 : Value, args = #[w0, w1, w2] := by
    have hs : args.size = 3 := by simpa [Cond.value, given_1] using g1
    obtain ⟨L⟩ := args
    match L, hs with
    | [w0, w1, w2], _ => exact ⟨w0, w1, w2, rfl⟩
  have hw := fun d (hd : d ∈ tables_1) => atoms_spec (ws := Jvm.Cond.code x code maxLocals ret :: tables_1) hat d (List.mem_cons_of_mem _ hd)
  have hfit : Fit s := fun {y c} hc i hi => by
    obtain ⟨ha, rfl⟩ := Array.getElem?_eq_some_iff.mp hc
    have q := List.all_eq_true.mp ((Array.all_eq_true_iff_forall_mem.mp hF) _ (Array.getElem_mem ha)) i (List.mem_range.mpr hi)
    simpa [Array.getElem?_eq_getElem hi] using q
  obtain ⟨hsets, hown0⟩ := atoms_of _ (rest_1_c_eq ▸ (show rest_1_c.before _ s = true from hrest))
  have hr0 := Cond.before_iff.mp hown0
  obtain ⟨i0, ei0⟩ := is_v g3
  obtain rfl : w0 = (.int i0) := Option.some.inj ei0
  obtain ⟨i1, ei1⟩ := is_v g5
  obtain rfl : w1 = (.int i1) := Option.some.inj ei1
  obtain ⟨i2, ei2⟩ := is_v g6
  obtain rfl : w2 = (.int i2) := Option.some.inj ei2
  have ev_h := own_stat (Cond.before_iff.mp (hsets _ (List.mem_of_getElem? (i := 3) rfl)))
  have S_h := Sta.start ev_h (Or.inl (hsets _ (List.mem_of_getElem? (i := 1) rfl)))
  obtain ⟨ca, ev_c⟩ := exa_v (Cond.before_iff.mp (hsets _ (List.mem_of_getElem? (i := 5) rfl)))
  have S_c := Sta.start ev_c (Or.inr ⟨(tw hw 5 rfl), hsets _ (List.mem_of_getElem? (i := 2) rfl)⟩)
  obtain ⟨cl, Ar_ca⟩ := Arr.start ev_c (Cond.before_iff.mp (hsets _ (List.mem_of_getElem? (i := 4) rfl)))
  obtain ⟨sz_cl, at_cl⟩ := own_cell ev_c Ar_ca (Cond.before_iff.mp (hsets _ (List.mem_of_getElem? (i := 6) rfl)))
  have el_cl := own_elems ev_c (fun i => by simpa [Term.eval] using ev_c) at_cl sz_cl (Cond.before_iff.mp (hsets _ (List.mem_of_getElem? (i := 7) rfl)))
  obtain ⟨n, o, h1, h2, h3, _, L, rfl, ⟨rfl, N⟩, hq⟩ := rm_law l s _ hw tables_1 i0 i1 i2 ca cl s.heap s.heap.size (Nat.le_refl _) (Old.start s) S_h S_c Ar_ca sz_cl el_cl p e ha hc hk s m _ below hf ((Spec.applies_iff_loose hf).mp happ).1 ⟨rfl, State.Warmed39.refl s, rfl⟩ trivial
  refine ⟨n, _, h1, h2, h3, hpost _ _ _ _ _ _ ⟨Cond.after_iff.mpr rfl, Cond.after_iff.mpr (eq_i res_at (Term.int_eval (1)) rfl), trivial⟩ ⟨hq.1, hq.2.1, (hq.2.2.sift fun y hy => Or.inr (N y hy)).mono (by decide) (by decide)⟩⟩
theorem main_1_1 : Claimed_1_1 := comes_1 fun _ _ _ _ _ _ h hF => ⟨h.1, hF⟩
theorem main_1_2 : Claimed_1_2 := comes_1 fun _ _ _ _ _ _ h hF => ⟨h.2.1, hF⟩
end Jvm.Pilot.@@N@@
namespace Jvm.Pilot.@@N@@
open Jvm Jvm.ClassFile Sem Op Lib Jvm.Free Jvm.Stand Jvm.Pilot.@@N@@.Jvm.D
/-! MADE BY PROGRAM (witnessworld.py) out of the Statement's table words and the real class files: 15 classes; the members and pool entries that the words name. The judged class is class 1, her method 1. -/
namespace start1
open Jvm.ClassFile
def u (s : String) : CpInfo := .utf8 (stringToUtf16 s)
/-- a pool by its gaps: so many unusable entries, then the entry; so many at the end -/
def gap : Nat → List CpInfo → List CpInfo
  | 0, r => r
  | n + 1, r => .unusable :: gap n r
def poolList (es : List (Nat × CpInfo)) (last : Nat) : List CpInfo := es.foldr (fun e r => gap e.1 (e.2 :: r)) (gap last [])
def pool (es : List (Nat × CpInfo)) (last : Nat) : Array CpInfo := ⟨poolList es last⟩
def fileOf (pool : Array CpInfo) (this : Nat) (attrs : Array Attribute := #[]) (ms : Array MethodInfo := #[]) (fl : Nat := 33) (sup : Nat := 0) (ifs : Array Nat := #[]) (fds : Array FieldInfo := #[]) : ClassFile where
  minorVersion := 0
  majorVersion := 65
  constantPool := pool
  accessFlags := fl
  thisClass := this
  superClass := sup
  interfaces := ifs
  fields := fds
  methods := ms
  attributes := attrs
def plain (name : String) (sup : Option ClassId) : Class where
  name := name
  kind := .ordinary
  loader := none
  accessFlags := 33
  super := sup
  interfaces := #[]
  cf := none
  fields := #[]
  methods := #[]
  instanceTypes := #[]
  staticTypes := #[]
  resolved := #[]
  callSites := []
  init := .initialized
  statics := none
  mirror := none

def pool0 : Array CpInfo := pool [(5, u "<init>"), (0, u "()V"), (1, .class_ 10), (1, u "java/lang/Object")] 113

def k0c0 : Code := { maxStack := 0, maxLocals := 1, code := object_method_1_code, exceptionTable := #[], attributes := #[] }
def k0m0 : Method := { name := "<init>", desc := "()V", sig := { parameters := [], returnType := none }, accessFlags := 1, code := some k0c0 }
/-- java/lang/Object -/
def k0 : Class := { plain "java/lang/Object" none with
  accessFlags := 33
  interfaces := #[]
  cf := some (fileOf pool0 8 #[] #[{ accessFlags := 1, nameIndex := 5, descriptorIndex := 6, attributes := #[] }] 33 0 #[] #[])
  fields := #[]
  methods := #[k0m0]
  instanceTypes := #[]
  staticTypes := #[]
  resolved := Array.replicate 124 none
  statics := none }

def pool1 : Array CpInfo := pool [(2, .class_ 4), (1, u "java/lang/Object"), (0, u "<init>"), (0, u "()V"), (0, .methodref 8 9), (0, .class_ 10), (0, .nameAndType 11 12), (0, u "java/lang/Integer"), (0, u "valueOf"), (0, u "(I)Ljava/lang/Integer;"), (0, .class_ 14), (0, u "com/example/libreconf/libreconf/pattern/Junction$State"), (0, .methodref 13 16), (0, .nameAndType 5 17), (0, u "(Ljava/lang/Object;Ljava/lang/Object;)V"), (0, .methodref 13 19), (0, .nameAndType 20 21), (0, u "settled"), (0, u "()Z"), (0, .methodref 13 23), (0, .nameAndType 24 25), (0, u "left"), (0, u "()Ljava/lang/Object;"), (0, .methodref 13 27), (0, .nameAndType 28 25), (0, u "right"), (0, .class_ 30), (0, u "com/example/libreconf/libreconf/pattern/StateSettledPinLaw"), (2, u "law"), (0, u "(III)Z")] 7

def k1m0 : Method := { name := "<init>", desc := "()V", sig := { parameters := [], returnType := none }, accessFlags := 1, code := none }
def k1c1 : Code := { maxStack := 4, maxLocals := 11, code := code, exceptionTable := #[], attributes := #[] }
def k1m1 : Method := { name := "law", desc := "(III)Z", sig := { parameters := [.int, .int, .int], returnType := some .boolean }, accessFlags := 9, code := some k1c1 }
/-- com/example/libreconf/libreconf/pattern/StateSettledPinLaw -/
def k1 : Class := { plain "com/example/libreconf/libreconf/pattern/StateSettledPinLaw" (some 0) with
  accessFlags := 49
  interfaces := #[]
  cf := some (fileOf pool1 29 #[] #[{ accessFlags := 1, nameIndex := 5, descriptorIndex := 6, attributes := #[] }, { accessFlags := 9, nameIndex := 33, descriptorIndex := 34, attributes := #[] }] 49 2 #[] #[])
  fields := #[]
  methods := #[k1m0, k1m1]
  instanceTypes := #[]
  staticTypes := #[]
  resolved := Array.replicate 42 none
  statics := none }

def pool2 : Array CpInfo := pool [(1, .class_ 2), (0, u "java/io/Serializable"), (0, .class_ 4), (0, u "java/lang/Object")] 2

/-- java/io/Serializable -/
def k2 : Class := { plain "java/io/Serializable" (some 0) with
  accessFlags := 1537
  interfaces := #[]
  cf := some (fileOf pool2 1 #[] #[] 1537 3 #[] #[])
  fields := #[]
  methods := #[]
  instanceTypes := #[]
  staticTypes := #[]
  resolved := Array.replicate 7 none
  statics := none }

def pool3 : Array CpInfo := pool [(1, .methodref 2 3), (0, .class_ 4), (0, .nameAndType 5 6), (0, u "java/lang/Object"), (0, u "<init>"), (0, u "()V"), (1, .class_ 10), (1, u "java/lang/Number"), (2, .class_ 14), (0, u "java/io/Serializable"), (0, u "serialVersionUID"), (0, u "J")] 20

def k3c0 : Code := { maxStack := 1, maxLocals := 1, code := jdk_18_method_1_code, exceptionTable := #[], attributes := #[] }
def k3m0 : Method := { name := "<init>", desc := "()V", sig := { parameters := [], returnType := none }, accessFlags := 1, code := some k3c0 }
/-- java/lang/Number -/
def k3 : Class := { plain "java/lang/Number" (some 0) with
  accessFlags := 1057
  interfaces := #[2]
  cf := some (fileOf pool3 8 #[] #[{ accessFlags := 1, nameIndex := 5, descriptorIndex := 6, attributes := #[] }] 1057 2 #[13] #[{ accessFlags := 26, nameIndex := 15, descriptorIndex := 16, attributes := #[] }])
  fields := #[{ name := "serialVersionUID", type := .long, accessFlags := 26, slot := 0, constantValue := 0 }]
  methods := #[k3m0]
  instanceTypes := #[]
  staticTypes := #[.long]
  resolved := Array.replicate 37 none
  statics := none }

def pool4 : Array CpInfo := pool [(1, .class_ 2), (0, u "java/lang/Comparable"), (0, .class_ 4), (0, u "java/lang/Object")] 7

/-- java/lang/Comparable -/
def k4 : Class := { plain "java/lang/Comparable" (some 0) with
  accessFlags := 1537
  interfaces := #[]
  cf := some (fileOf pool4 1 #[] #[] 1537 3 #[] #[])
  fields := #[]
  methods := #[]
  instanceTypes := #[]
  staticTypes := #[]
  resolved := Array.replicate 12 none
  statics := none }

def pool5 : Array CpInfo := pool [(1, .class_ 2), (0, u "java/lang/constant/Constable"), (0, .class_ 4), (0, u "java/lang/Object")] 6

/-- java/lang/constant/Constable -/
def k5 : Class := { plain "java/lang/constant/Constable" (some 0) with
  accessFlags := 1537
  interfaces := #[]
  cf := some (fileOf pool5 1 #[] #[] 1537 3 #[] #[])
  fields := #[]
  methods := #[]
  instanceTypes := #[]
  staticTypes := #[]
  resolved := Array.replicate 11 none
  statics := none }

def pool6 : Array CpInfo := pool [(1, .class_ 2), (0, u "java/lang/constant/ConstantDesc"), (0, .class_ 4), (0, u "java/lang/Object")] 32

/-- java/lang/constant/ConstantDesc -/
def k6 : Class := { plain "java/lang/constant/ConstantDesc" (some 0) with
  accessFlags := 1537
  interfaces := #[]
  cf := some (fileOf pool6 1 #[] #[] 1537 3 #[] #[])
  fields := #[]
  methods := #[]
  instanceTypes := #[]
  staticTypes := #[]
  resolved := Array.replicate 37 none
  statics := none }

def pool7 : Array CpInfo := pool [(1, .class_ 2), (0, u "java/lang/Integer"), (16, u "digits"), (0, u "[C"), (46, u "<init>"), (17, u "DigitOnes"), (0, u "[B"), (2, u "DigitTens"), (10, .nameAndType 67 101), (0, u "()V"), (85, u "valueOf"), (0, u "(I)Ljava/lang/Integer;"), (0, .class_ 190), (0, u "java/lang/Integer$IntegerCache"), (0, .fieldref 189 192), (0, .nameAndType 193 194), (0, u "high"), (0, u "I"), (0, .fieldref 189 196), (0, .nameAndType 197 198), (0, u "cache"), (0, u "[Ljava/lang/Integer;"), (0, .methodref 1 200), (0, .nameAndType 67 201), (0, u "(I)V"), (0, .methodref 203 100), (0, .class_ 204), (0, u "java/lang/Number"), (0, .fieldref 1 206), (0, .nameAndType 207 194), (0, u "value"), (94, u "TYPE"), (0, u "Ljava/lang/Class;"), (0, .class_ 305), (0, u "java/lang/Comparable"), (0, .class_ 307), (0, u "java/lang/constant/Constable"), (0, .class_ 309), (0, u "java/lang/constant/ConstantDesc"), (0, u "MIN_VALUE"), (1, u "MAX_VALUE"), (3, u "SIZE"), (1, u "BYTES"), (1, u "serialVersionUID"), (0, u "J")] 131

def k7c0 : Code := { maxStack := 3, maxLocals := 1, code := jdk_33_method_22_code, exceptionTable := #[], attributes := #[] }
def k7m0 : Method := { name := "valueOf", desc := "(I)Ljava/lang/Integer;", sig := { parameters := [.int], returnType := some (.object "java/lang/Integer") }, accessFlags := 9, code := some k7c0 }
def k7c1 : Code := { maxStack := 2, maxLocals := 2, code := jdk_33_method_23_code, exceptionTable := #[], attributes := #[] }
def k7m1 : Method := { name := "<init>", desc := "(I)V", sig := { parameters := [.int], returnType := none }, accessFlags := 1, code := some k7c1 }
/-- java/lang/Integer -/
def k7 : Class := { plain "java/lang/Integer" (some 3) with
  accessFlags := 49
  interfaces := #[4, 5, 6]
  cf := some (fileOf pool7 1 #[.nestMembers #[189]] #[{ accessFlags := 9, nameIndex := 187, descriptorIndex := 188, attributes := #[] }, { accessFlags := 1, nameIndex := 67, descriptorIndex := 201, attributes := #[] }] 49 203 #[304, 306, 308] #[{ accessFlags := 25, nameIndex := 310, descriptorIndex := 194, attributes := #[] }, { accessFlags := 25, nameIndex := 312, descriptorIndex := 194, attributes := #[] }, { accessFlags := 25, nameIndex := 302, descriptorIndex := 303, attributes := #[] }, { accessFlags := 24, nameIndex := 19, descriptorIndex := 20, attributes := #[] }, { accessFlags := 24, nameIndex := 89, descriptorIndex := 86, attributes := #[] }, { accessFlags := 24, nameIndex := 85, descriptorIndex := 86, attributes := #[] }, { accessFlags := 18, nameIndex := 207, descriptorIndex := 194, attributes := #[] }, { accessFlags := 25, nameIndex := 316, descriptorIndex := 194, attributes := #[] }, { accessFlags := 25, nameIndex := 318, descriptorIndex := 194, attributes := #[] }, { accessFlags := 26, nameIndex := 320, descriptorIndex := 321, attributes := #[] }])
  fields := #[{ name := "MIN_VALUE", type := .int, accessFlags := 25, slot := 0, constantValue := 0 }, { name := "MAX_VALUE", type := .int, accessFlags := 25, slot := 1, constantValue := 0 }, { name := "TYPE", type := (.object "java/lang/Class"), accessFlags := 25, slot := 2, constantValue := 0 }, { name := "digits", type := (.array .char), accessFlags := 24, slot := 3, constantValue := 0 }, { name := "DigitTens", type := (.array .byte), accessFlags := 24, slot := 4, constantValue := 0 }, { name := "DigitOnes", type := (.array .byte), accessFlags := 24, slot := 5, constantValue := 0 }, { name := "value", type := .int, accessFlags := 18, slot := 0, constantValue := 0 }, { name := "SIZE", type := .int, accessFlags := 25, slot := 6, constantValue := 0 }, { name := "BYTES", type := .int, accessFlags := 25, slot := 7, constantValue := 0 }, { name := "serialVersionUID", type := .long, accessFlags := 26, slot := 8, constantValue := 0 }]
  methods := #[k7m0, k7m1]
  instanceTypes := #[.int]
  staticTypes := #[.int, .int, (.object "java/lang/Class"), (.array .char), (.array .byte), (.array .byte), .int, .int, .long]
  resolved := Array.replicate 453 none
  statics := none }

def pool8 : Array CpInfo := pool [(2, .class_ 4), (1, u "java/lang/Object"), (0, u "<init>"), (0, u "()V"), (0, .class_ 8), (0, u "java/lang/Integer"), (7, .class_ 18), (1, u "java/lang/Integer$IntegerCache"), (0, u "$assertionsDisabled"), (0, u "Z"), (26, u "high"), (0, u "I"), (8, u "archivedCache"), (0, u "[Ljava/lang/Integer;"), (12, u "cache"), (0, u "low")] 27

def k8m0 : Method := { name := "<init>", desc := "()V", sig := { parameters := [], returnType := none }, accessFlags := 2, code := none }
/-- java/lang/Integer$IntegerCache -/
def k8 : Class := { plain "java/lang/Integer$IntegerCache" (some 0) with
  accessFlags := 48
  interfaces := #[]
  cf := some (fileOf pool8 16 #[.nestHost 7] #[{ accessFlags := 2, nameIndex := 5, descriptorIndex := 6, attributes := #[] }] 48 2 #[] #[{ accessFlags := 24, nameIndex := 72, descriptorIndex := 48, attributes := #[] }, { accessFlags := 24, nameIndex := 47, descriptorIndex := 48, attributes := #[] }, { accessFlags := 24, nameIndex := 71, descriptorIndex := 58, attributes := #[] }, { accessFlags := 8, nameIndex := 57, descriptorIndex := 58, attributes := #[] }, { accessFlags := 4120, nameIndex := 19, descriptorIndex := 20, attributes := #[] }])
  fields := #[{ name := "low", type := .int, accessFlags := 24, slot := 0, constantValue := 0 }, { name := "high", type := .int, accessFlags := 24, slot := 1, constantValue := 0 }, { name := "cache", type := (.array (.object "java/lang/Integer")), accessFlags := 24, slot := 2, constantValue := 0 }, { name := "archivedCache", type := (.array (.object "java/lang/Integer")), accessFlags := 8, slot := 3, constantValue := 0 }, { name := "$assertionsDisabled", type := .boolean, accessFlags := 4120, slot := 4, constantValue := 0 }]
  methods := #[k8m0]
  instanceTypes := #[]
  staticTypes := #[.int, .int, (.array (.object "java/lang/Integer")), (.array (.object "java/lang/Integer")), .boolean]
  resolved := Array.replicate 100 none
  statics := some 0 }

def pool9 : Array CpInfo := pool [(1, .methodref 2 3), (0, .class_ 4), (0, .nameAndType 5 6), (0, u "java/lang/Object"), (0, u "<init>"), (0, u "()V"), (0, .class_ 8), (0, u "java/lang/Record")] 13

def k9c0 : Code := { maxStack := 1, maxLocals := 1, code := jdk_30_method_1_code, exceptionTable := #[], attributes := #[] }
def k9m0 : Method := { name := "<init>", desc := "()V", sig := { parameters := [], returnType := none }, accessFlags := 4, code := some k9c0 }
/-- java/lang/Record -/
def k9 : Class := { plain "java/lang/Record" (some 0) with
  accessFlags := 1057
  interfaces := #[]
  cf := some (fileOf pool9 7 #[] #[{ accessFlags := 4, nameIndex := 5, descriptorIndex := 6, attributes := #[] }] 1057 2 #[] #[])
  fields := #[]
  methods := #[k9m0]
  instanceTypes := #[]
  staticTypes := #[]
  resolved := Array.replicate 22 none
  statics := none }

def pool10 : Array CpInfo := pool [(1, .methodref 2 3), (0, .class_ 4), (0, .nameAndType 5 6), (0, u "java/lang/Record"), (0, u "<init>"), (0, u "()V"), (0, .fieldref 8 9), (0, .class_ 10), (0, .nameAndType 11 12), (0, u "com/example/libreconf/libreconf/pattern/Junction$State"), (0, u "left"), (0, u "Ljava/lang/Object;"), (0, .fieldref 8 14), (0, .nameAndType 15 12), (0, u "right"), (15, u "(Ljava/lang/Object;Ljava/lang/Object;)V"), (4, u "settled"), (0, u "()Z"), (4, u "()Ljava/lang/Object;"), (6, .class_ 50), (0, u "com/example/libreconf/libreconf/pattern/Junction")] 20

def k10c0 : Code := { maxStack := 2, maxLocals := 3, code := prog_91_method_1_code, exceptionTable := #[], attributes := #[] }
def k10m0 : Method := { name := "<init>", desc := "(Ljava/lang/Object;Ljava/lang/Object;)V", sig := { parameters := [(.object "java/lang/Object"), (.object "java/lang/Object")], returnType := none }, accessFlags := 1, code := some k10c0 }
def k10c1 : Code := { maxStack := 1, maxLocals := 1, code := prog_91_method_2_code, exceptionTable := #[], attributes := #[] }
def k10m1 : Method := { name := "settled", desc := "()Z", sig := { parameters := [], returnType := some .boolean }, accessFlags := 1, code := some k10c1 }
def k10c2 : Code := { maxStack := 1, maxLocals := 1, code := prog_91_method_6_code, exceptionTable := #[], attributes := #[] }
def k10m2 : Method := { name := "left", desc := "()Ljava/lang/Object;", sig := { parameters := [], returnType := some (.object "java/lang/Object") }, accessFlags := 1, code := some k10c2 }
def k10c3 : Code := { maxStack := 1, maxLocals := 1, code := prog_91_method_7_code, exceptionTable := #[], attributes := #[] }
def k10m3 : Method := { name := "right", desc := "()Ljava/lang/Object;", sig := { parameters := [], returnType := some (.object "java/lang/Object") }, accessFlags := 1, code := some k10c3 }
/-- com/example/libreconf/libreconf/pattern/Junction$State -/
def k10 : Class := { plain "com/example/libreconf/libreconf/pattern/Junction$State" (some 9) with
  accessFlags := 49
  interfaces := #[]
  cf := some (fileOf pool10 8 #[.nestHost 49] #[{ accessFlags := 1, nameIndex := 5, descriptorIndex := 31, attributes := #[] }, { accessFlags := 1, nameIndex := 36, descriptorIndex := 37, attributes := #[] }, { accessFlags := 1, nameIndex := 11, descriptorIndex := 42, attributes := #[] }, { accessFlags := 1, nameIndex := 15, descriptorIndex := 42, attributes := #[] }] 49 2 #[] #[{ accessFlags := 18, nameIndex := 11, descriptorIndex := 12, attributes := #[] }, { accessFlags := 18, nameIndex := 15, descriptorIndex := 12, attributes := #[] }])
  fields := #[{ name := "left", type := (.object "java/lang/Object"), accessFlags := 18, slot := 0, constantValue := 0 }, { name := "right", type := (.object "java/lang/Object"), accessFlags := 18, slot := 1, constantValue := 0 }]
  methods := #[k10m0, k10m1, k10m2, k10m3]
  instanceTypes := #[(.object "java/lang/Object"), (.object "java/lang/Object")]
  staticTypes := #[]
  resolved := Array.replicate 71 none
  statics := none }

def pool11 : Array CpInfo := pool [(1, u "java/lang/Cloneable"), (0, .class_ 1), (0, u "java/lang/Object"), (0, .class_ 3)] 3

/-- java/lang/Cloneable -/
def k11 : Class := { plain "java/lang/Cloneable" (some 0) with
  accessFlags := 1537
  interfaces := #[]
  cf := some (fileOf pool11 2 #[] #[] 1537 4 #[] #[])
  fields := #[]
  methods := #[]
  instanceTypes := #[]
  staticTypes := #[]
  resolved := Array.replicate 8 none
  statics := none }

/-- the primitive byte -/
def k12 : Class := { plain "byte" none with kind := .primitive 'B', accessFlags := 0x411 }
/-- [B -/
def k13 : Class := { plain "[B" (some 0) with kind := .array 12 .byte, interfaces := #[11, 2], accessFlags := 1041 }

/-- [Ljava/lang/Integer; -/
def k14 : Class := { plain "[Ljava/lang/Integer;" (some 0) with kind := .array 7 (.object "java/lang/Integer"), interfaces := #[11, 2], accessFlags := 1041 }

def heap : Heap := #[{ cls := 8, slots := #[.int 0, .int 127, .ref 1, .null, .int 0], vm := .statics 8 },
  { cls := 14, slots := #[.ref 2, .ref 3, .ref 4, .ref 5, .ref 6, .ref 7, .ref 8, .ref 9, .ref 10, .ref 11, .ref 12, .ref 13, .ref 14, .ref 15, .ref 16, .ref 17, .ref 18, .ref 19, .ref 20, .ref 21, .ref 22, .ref 23, .ref 24, .ref 25, .ref 26, .ref 27, .ref 28, .ref 29, .ref 30, .ref 31, .ref 32, .ref 33, .ref 34, .ref 35, .ref 36, .ref 37, .ref 38, .ref 39, .ref 40, .ref 41, .ref 42, .ref 43, .ref 44, .ref 45, .ref 46, .ref 47, .ref 48, .ref 49, .ref 50, .ref 51, .ref 52, .ref 53, .ref 54, .ref 55, .ref 56, .ref 57, .ref 58, .ref 59, .ref 60, .ref 61, .ref 62, .ref 63, .ref 64, .ref 65, .ref 66, .ref 67, .ref 68, .ref 69, .ref 70, .ref 71, .ref 72, .ref 73, .ref 74, .ref 75, .ref 76, .ref 77, .ref 78, .ref 79, .ref 80, .ref 81, .ref 82, .ref 83, .ref 84, .ref 85, .ref 86, .ref 87, .ref 88, .ref 89, .ref 90, .ref 91, .ref 92, .ref 93, .ref 94, .ref 95, .ref 96, .ref 97, .ref 98, .ref 99, .ref 100, .ref 101, .ref 102, .ref 103, .ref 104, .ref 105, .ref 106, .ref 107, .ref 108, .ref 109, .ref 110, .ref 111, .ref 112, .ref 113, .ref 114, .ref 115, .ref 116, .ref 117, .ref 118, .ref 119, .ref 120, .ref 121, .ref 122, .ref 123, .ref 124, .ref 125, .ref 126, .ref 127, .ref 128, .ref 129, .ref 130, .ref 131, .ref 132, .ref 133, .ref 134, .ref 135, .ref 136, .ref 137, .ref 138, .ref 139, .ref 140, .ref 141, .ref 142, .ref 143, .ref 144, .ref 145, .ref 146, .ref 147, .ref 148, .ref 149, .ref 150, .ref 151, .ref 152, .ref 153, .ref 154, .ref 155, .ref 156, .ref 157, .ref 158, .ref 159, .ref 160, .ref 161, .ref 162, .ref 163, .ref 164, .ref 165, .ref 166, .ref 167, .ref 168, .ref 169, .ref 170, .ref 171, .ref 172, .ref 173, .ref 174, .ref 175, .ref 176, .ref 177, .ref 178, .ref 179, .ref 180, .ref 181, .ref 182, .ref 183, .ref 184, .ref 185, .ref 186, .ref 187, .ref 188, .ref 189, .ref 190, .ref 191, .ref 192, .ref 193, .ref 194, .ref 195, .ref 196, .ref 197, .ref 198, .ref 199, .ref 200, .ref 201, .ref 202, .ref 203, .ref 204, .ref 205, .ref 206, .ref 207, .ref 208, .ref 209, .ref 210, .ref 211, .ref 212, .ref 213, .ref 214, .ref 215, .ref 216, .ref 217, .ref 218, .ref 219, .ref 220, .ref 221, .ref 222, .ref 223, .ref 224, .ref 225, .ref 226, .ref 227, .ref 228, .ref 229, .ref 230, .ref 231, .ref 232, .ref 233, .ref 234, .ref 235, .ref 236, .ref 237, .ref 238, .ref 239, .ref 240, .ref 241, .ref 242, .ref 243, .ref 244, .ref 245, .ref 246, .ref 247, .ref 248, .ref 249, .ref 250, .ref 251, .ref 252, .ref 253, .ref 254, .ref 255, .ref 256, .ref 257], vm := .none },
  { cls := 7, slots := #[.int (-128)], vm := .none },
  { cls := 7, slots := #[.int (-127)], vm := .none },
  { cls := 7, slots := #[.int (-126)], vm := .none },
  { cls := 7, slots := #[.int (-125)], vm := .none },
  { cls := 7, slots := #[.int (-124)], vm := .none },
  { cls := 7, slots := #[.int (-123)], vm := .none },
  { cls := 7, slots := #[.int (-122)], vm := .none },
  { cls := 7, slots := #[.int (-121)], vm := .none },
  { cls := 7, slots := #[.int (-120)], vm := .none },
  { cls := 7, slots := #[.int (-119)], vm := .none },
  { cls := 7, slots := #[.int (-118)], vm := .none },
  { cls := 7, slots := #[.int (-117)], vm := .none },
  { cls := 7, slots := #[.int (-116)], vm := .none },
  { cls := 7, slots := #[.int (-115)], vm := .none },
  { cls := 7, slots := #[.int (-114)], vm := .none },
  { cls := 7, slots := #[.int (-113)], vm := .none },
  { cls := 7, slots := #[.int (-112)], vm := .none },
  { cls := 7, slots := #[.int (-111)], vm := .none },
  { cls := 7, slots := #[.int (-110)], vm := .none },
  { cls := 7, slots := #[.int (-109)], vm := .none },
  { cls := 7, slots := #[.int (-108)], vm := .none },
  { cls := 7, slots := #[.int (-107)], vm := .none },
  { cls := 7, slots := #[.int (-106)], vm := .none },
  { cls := 7, slots := #[.int (-105)], vm := .none },
  { cls := 7, slots := #[.int (-104)], vm := .none },
  { cls := 7, slots := #[.int (-103)], vm := .none },
  { cls := 7, slots := #[.int (-102)], vm := .none },
  { cls := 7, slots := #[.int (-101)], vm := .none },
  { cls := 7, slots := #[.int (-100)], vm := .none },
  { cls := 7, slots := #[.int (-99)], vm := .none },
  { cls := 7, slots := #[.int (-98)], vm := .none },
  { cls := 7, slots := #[.int (-97)], vm := .none },
  { cls := 7, slots := #[.int (-96)], vm := .none },
  { cls := 7, slots := #[.int (-95)], vm := .none },
  { cls := 7, slots := #[.int (-94)], vm := .none },
  { cls := 7, slots := #[.int (-93)], vm := .none },
  { cls := 7, slots := #[.int (-92)], vm := .none },
  { cls := 7, slots := #[.int (-91)], vm := .none },
  { cls := 7, slots := #[.int (-90)], vm := .none },
  { cls := 7, slots := #[.int (-89)], vm := .none },
  { cls := 7, slots := #[.int (-88)], vm := .none },
  { cls := 7, slots := #[.int (-87)], vm := .none },
  { cls := 7, slots := #[.int (-86)], vm := .none },
  { cls := 7, slots := #[.int (-85)], vm := .none },
  { cls := 7, slots := #[.int (-84)], vm := .none },
  { cls := 7, slots := #[.int (-83)], vm := .none },
  { cls := 7, slots := #[.int (-82)], vm := .none },
  { cls := 7, slots := #[.int (-81)], vm := .none },
  { cls := 7, slots := #[.int (-80)], vm := .none },
  { cls := 7, slots := #[.int (-79)], vm := .none },
  { cls := 7, slots := #[.int (-78)], vm := .none },
  { cls := 7, slots := #[.int (-77)], vm := .none },
  { cls := 7, slots := #[.int (-76)], vm := .none },
  { cls := 7, slots := #[.int (-75)], vm := .none },
  { cls := 7, slots := #[.int (-74)], vm := .none },
  { cls := 7, slots := #[.int (-73)], vm := .none },
  { cls := 7, slots := #[.int (-72)], vm := .none },
  { cls := 7, slots := #[.int (-71)], vm := .none },
  { cls := 7, slots := #[.int (-70)], vm := .none },
  { cls := 7, slots := #[.int (-69)], vm := .none },
  { cls := 7, slots := #[.int (-68)], vm := .none },
  { cls := 7, slots := #[.int (-67)], vm := .none },
  { cls := 7, slots := #[.int (-66)], vm := .none },
  { cls := 7, slots := #[.int (-65)], vm := .none },
  { cls := 7, slots := #[.int (-64)], vm := .none },
  { cls := 7, slots := #[.int (-63)], vm := .none },
  { cls := 7, slots := #[.int (-62)], vm := .none },
  { cls := 7, slots := #[.int (-61)], vm := .none },
  { cls := 7, slots := #[.int (-60)], vm := .none },
  { cls := 7, slots := #[.int (-59)], vm := .none },
  { cls := 7, slots := #[.int (-58)], vm := .none },
  { cls := 7, slots := #[.int (-57)], vm := .none },
  { cls := 7, slots := #[.int (-56)], vm := .none },
  { cls := 7, slots := #[.int (-55)], vm := .none },
  { cls := 7, slots := #[.int (-54)], vm := .none },
  { cls := 7, slots := #[.int (-53)], vm := .none },
  { cls := 7, slots := #[.int (-52)], vm := .none },
  { cls := 7, slots := #[.int (-51)], vm := .none },
  { cls := 7, slots := #[.int (-50)], vm := .none },
  { cls := 7, slots := #[.int (-49)], vm := .none },
  { cls := 7, slots := #[.int (-48)], vm := .none },
  { cls := 7, slots := #[.int (-47)], vm := .none },
  { cls := 7, slots := #[.int (-46)], vm := .none },
  { cls := 7, slots := #[.int (-45)], vm := .none },
  { cls := 7, slots := #[.int (-44)], vm := .none },
  { cls := 7, slots := #[.int (-43)], vm := .none },
  { cls := 7, slots := #[.int (-42)], vm := .none },
  { cls := 7, slots := #[.int (-41)], vm := .none },
  { cls := 7, slots := #[.int (-40)], vm := .none },
  { cls := 7, slots := #[.int (-39)], vm := .none },
  { cls := 7, slots := #[.int (-38)], vm := .none },
  { cls := 7, slots := #[.int (-37)], vm := .none },
  { cls := 7, slots := #[.int (-36)], vm := .none },
  { cls := 7, slots := #[.int (-35)], vm := .none },
  { cls := 7, slots := #[.int (-34)], vm := .none },
  { cls := 7, slots := #[.int (-33)], vm := .none },
  { cls := 7, slots := #[.int (-32)], vm := .none },
  { cls := 7, slots := #[.int (-31)], vm := .none },
  { cls := 7, slots := #[.int (-30)], vm := .none },
  { cls := 7, slots := #[.int (-29)], vm := .none },
  { cls := 7, slots := #[.int (-28)], vm := .none },
  { cls := 7, slots := #[.int (-27)], vm := .none },
  { cls := 7, slots := #[.int (-26)], vm := .none },
  { cls := 7, slots := #[.int (-25)], vm := .none },
  { cls := 7, slots := #[.int (-24)], vm := .none },
  { cls := 7, slots := #[.int (-23)], vm := .none },
  { cls := 7, slots := #[.int (-22)], vm := .none },
  { cls := 7, slots := #[.int (-21)], vm := .none },
  { cls := 7, slots := #[.int (-20)], vm := .none },
  { cls := 7, slots := #[.int (-19)], vm := .none },
  { cls := 7, slots := #[.int (-18)], vm := .none },
  { cls := 7, slots := #[.int (-17)], vm := .none },
  { cls := 7, slots := #[.int (-16)], vm := .none },
  { cls := 7, slots := #[.int (-15)], vm := .none },
  { cls := 7, slots := #[.int (-14)], vm := .none },
  { cls := 7, slots := #[.int (-13)], vm := .none },
  { cls := 7, slots := #[.int (-12)], vm := .none },
  { cls := 7, slots := #[.int (-11)], vm := .none },
  { cls := 7, slots := #[.int (-10)], vm := .none },
  { cls := 7, slots := #[.int (-9)], vm := .none },
  { cls := 7, slots := #[.int (-8)], vm := .none },
  { cls := 7, slots := #[.int (-7)], vm := .none },
  { cls := 7, slots := #[.int (-6)], vm := .none },
  { cls := 7, slots := #[.int (-5)], vm := .none },
  { cls := 7, slots := #[.int (-4)], vm := .none },
  { cls := 7, slots := #[.int (-3)], vm := .none },
  { cls := 7, slots := #[.int (-2)], vm := .none },
  { cls := 7, slots := #[.int (-1)], vm := .none },
  { cls := 7, slots := #[.int 0], vm := .none },
  { cls := 7, slots := #[.int 1], vm := .none },
  { cls := 7, slots := #[.int 2], vm := .none },
  { cls := 7, slots := #[.int 3], vm := .none },
  { cls := 7, slots := #[.int 4], vm := .none },
  { cls := 7, slots := #[.int 5], vm := .none },
  { cls := 7, slots := #[.int 6], vm := .none },
  { cls := 7, slots := #[.int 7], vm := .none },
  { cls := 7, slots := #[.int 8], vm := .none },
  { cls := 7, slots := #[.int 9], vm := .none },
  { cls := 7, slots := #[.int 10], vm := .none },
  { cls := 7, slots := #[.int 11], vm := .none },
  { cls := 7, slots := #[.int 12], vm := .none },
  { cls := 7, slots := #[.int 13], vm := .none },
  { cls := 7, slots := #[.int 14], vm := .none },
  { cls := 7, slots := #[.int 15], vm := .none },
  { cls := 7, slots := #[.int 16], vm := .none },
  { cls := 7, slots := #[.int 17], vm := .none },
  { cls := 7, slots := #[.int 18], vm := .none },
  { cls := 7, slots := #[.int 19], vm := .none },
  { cls := 7, slots := #[.int 20], vm := .none },
  { cls := 7, slots := #[.int 21], vm := .none },
  { cls := 7, slots := #[.int 22], vm := .none },
  { cls := 7, slots := #[.int 23], vm := .none },
  { cls := 7, slots := #[.int 24], vm := .none },
  { cls := 7, slots := #[.int 25], vm := .none },
  { cls := 7, slots := #[.int 26], vm := .none },
  { cls := 7, slots := #[.int 27], vm := .none },
  { cls := 7, slots := #[.int 28], vm := .none },
  { cls := 7, slots := #[.int 29], vm := .none },
  { cls := 7, slots := #[.int 30], vm := .none },
  { cls := 7, slots := #[.int 31], vm := .none },
  { cls := 7, slots := #[.int 32], vm := .none },
  { cls := 7, slots := #[.int 33], vm := .none },
  { cls := 7, slots := #[.int 34], vm := .none },
  { cls := 7, slots := #[.int 35], vm := .none },
  { cls := 7, slots := #[.int 36], vm := .none },
  { cls := 7, slots := #[.int 37], vm := .none },
  { cls := 7, slots := #[.int 38], vm := .none },
  { cls := 7, slots := #[.int 39], vm := .none },
  { cls := 7, slots := #[.int 40], vm := .none },
  { cls := 7, slots := #[.int 41], vm := .none },
  { cls := 7, slots := #[.int 42], vm := .none },
  { cls := 7, slots := #[.int 43], vm := .none },
  { cls := 7, slots := #[.int 44], vm := .none },
  { cls := 7, slots := #[.int 45], vm := .none },
  { cls := 7, slots := #[.int 46], vm := .none },
  { cls := 7, slots := #[.int 47], vm := .none },
  { cls := 7, slots := #[.int 48], vm := .none },
  { cls := 7, slots := #[.int 49], vm := .none },
  { cls := 7, slots := #[.int 50], vm := .none },
  { cls := 7, slots := #[.int 51], vm := .none },
  { cls := 7, slots := #[.int 52], vm := .none },
  { cls := 7, slots := #[.int 53], vm := .none },
  { cls := 7, slots := #[.int 54], vm := .none },
  { cls := 7, slots := #[.int 55], vm := .none },
  { cls := 7, slots := #[.int 56], vm := .none },
  { cls := 7, slots := #[.int 57], vm := .none },
  { cls := 7, slots := #[.int 58], vm := .none },
  { cls := 7, slots := #[.int 59], vm := .none },
  { cls := 7, slots := #[.int 60], vm := .none },
  { cls := 7, slots := #[.int 61], vm := .none },
  { cls := 7, slots := #[.int 62], vm := .none },
  { cls := 7, slots := #[.int 63], vm := .none },
  { cls := 7, slots := #[.int 64], vm := .none },
  { cls := 7, slots := #[.int 65], vm := .none },
  { cls := 7, slots := #[.int 66], vm := .none },
  { cls := 7, slots := #[.int 67], vm := .none },
  { cls := 7, slots := #[.int 68], vm := .none },
  { cls := 7, slots := #[.int 69], vm := .none },
  { cls := 7, slots := #[.int 70], vm := .none },
  { cls := 7, slots := #[.int 71], vm := .none },
  { cls := 7, slots := #[.int 72], vm := .none },
  { cls := 7, slots := #[.int 73], vm := .none },
  { cls := 7, slots := #[.int 74], vm := .none },
  { cls := 7, slots := #[.int 75], vm := .none },
  { cls := 7, slots := #[.int 76], vm := .none },
  { cls := 7, slots := #[.int 77], vm := .none },
  { cls := 7, slots := #[.int 78], vm := .none },
  { cls := 7, slots := #[.int 79], vm := .none },
  { cls := 7, slots := #[.int 80], vm := .none },
  { cls := 7, slots := #[.int 81], vm := .none },
  { cls := 7, slots := #[.int 82], vm := .none },
  { cls := 7, slots := #[.int 83], vm := .none },
  { cls := 7, slots := #[.int 84], vm := .none },
  { cls := 7, slots := #[.int 85], vm := .none },
  { cls := 7, slots := #[.int 86], vm := .none },
  { cls := 7, slots := #[.int 87], vm := .none },
  { cls := 7, slots := #[.int 88], vm := .none },
  { cls := 7, slots := #[.int 89], vm := .none },
  { cls := 7, slots := #[.int 90], vm := .none },
  { cls := 7, slots := #[.int 91], vm := .none },
  { cls := 7, slots := #[.int 92], vm := .none },
  { cls := 7, slots := #[.int 93], vm := .none },
  { cls := 7, slots := #[.int 94], vm := .none },
  { cls := 7, slots := #[.int 95], vm := .none },
  { cls := 7, slots := #[.int 96], vm := .none },
  { cls := 7, slots := #[.int 97], vm := .none },
  { cls := 7, slots := #[.int 98], vm := .none },
  { cls := 7, slots := #[.int 99], vm := .none },
  { cls := 7, slots := #[.int 100], vm := .none },
  { cls := 7, slots := #[.int 101], vm := .none },
  { cls := 7, slots := #[.int 102], vm := .none },
  { cls := 7, slots := #[.int 103], vm := .none },
  { cls := 7, slots := #[.int 104], vm := .none },
  { cls := 7, slots := #[.int 105], vm := .none },
  { cls := 7, slots := #[.int 106], vm := .none },
  { cls := 7, slots := #[.int 107], vm := .none },
  { cls := 7, slots := #[.int 108], vm := .none },
  { cls := 7, slots := #[.int 109], vm := .none },
  { cls := 7, slots := #[.int 110], vm := .none },
  { cls := 7, slots := #[.int 111], vm := .none },
  { cls := 7, slots := #[.int 112], vm := .none },
  { cls := 7, slots := #[.int 113], vm := .none },
  { cls := 7, slots := #[.int 114], vm := .none },
  { cls := 7, slots := #[.int 115], vm := .none },
  { cls := 7, slots := #[.int 116], vm := .none },
  { cls := 7, slots := #[.int 117], vm := .none },
  { cls := 7, slots := #[.int 118], vm := .none },
  { cls := 7, slots := #[.int 119], vm := .none },
  { cls := 7, slots := #[.int 120], vm := .none },
  { cls := 7, slots := #[.int 121], vm := .none },
  { cls := 7, slots := #[.int 122], vm := .none },
  { cls := 7, slots := #[.int 123], vm := .none },
  { cls := 7, slots := #[.int 124], vm := .none },
  { cls := 7, slots := #[.int 125], vm := .none },
  { cls := 7, slots := #[.int 126], vm := .none },
  { cls := 7, slots := #[.int 127], vm := .none }]
def classes : Array Class := #[k0, k1, k2, k3, k4, k5, k6, k7, k8, k9, k10, k11, k12, k13, k14]
def interned : List (Array UInt16 × Addr) := []
def slotsUsed : Nat := 517
def theMethod : MethodId := ⟨1, 1⟩
def args0 : Array Value := #[.int 0, .int 5, .int 300]
def aboutOver (below : List Frame) : State where
  vm := { classes := classes, interned := interned.toArray }
  heap := heap
  slotsUsed := slotsUsed
  threads := #[{ frames := .invoking theMethod args0 :: below }]
def below0 : List Frame := [.native { method := ⟨0, 0⟩, args := #[] }]
def about1 : State := aboutOver below0
def p0 : Program := .bare "" "" ""
def e0 : Env := launch0.env 0 0 0
theorem w_frames : about1.frames = Frame.invoking theMethod args0 :: below0 := rfl
set_option maxRecDepth 65536 in
theorem w_args : argsFit about1.vm theMethod args0 = true := by decide +kernel
set_option maxRecDepth 65536 in
theorem w_heap : heapFits about1 = true := by decide +kernel
set_option maxRecDepth 65536 in
theorem w_runnable : about1.curStatus? = some .runnable := by decide +kernel
set_option maxRecDepth 65536 in
theorem w_alone : about1.alone = true := by decide +kernel
set_option maxRecDepth 65536 in
theorem w_named : about1.methodNamed? x = some theMethod := by decide +kernel
set_option maxRecDepth 65536 in
theorem w_hears : about1.hears theMethod below0 = true := by decide +kernel
set_option maxRecDepth 65536 in
theorem w_ripe : about1.ripe theMethod args0 below0 = true := by decide +kernel
theorem w_running : about1.status = .running := rfl
set_option maxRecDepth 65536 in
theorem w_room : about1.hasRoom e0.platform room_1 = true :=
  launch0.hasRoom_least _ room_1 (by decide +kernel) (by decide +kernel) (by decide +kernel) (by decide +kernel) (by decide +kernel) (by decide +kernel)
theorem allAtoms_all (ts : List Jvm.Cond) (a : Array Jvm.Value) (st : Jvm.State) : (allAtoms ts).before a st = ts.all (fun c => c.before a st) := by
  induction ts with
  | nil => rfl
  | cons c t ih =>
    show (Jvm.Cond.and c (allAtoms t)).before a st = _
    rw [Jvm.Cond.before_and, ih, List.all_cons]
def words1 : List Jvm.Cond := Jvm.Cond.code x code maxLocals ret :: tables_1
/-- a 'code' word, met by the world's own term for the bytes: nothing is compared byte by byte -/
theorem code_word {y : MethodName} {bytes : ByteArray} {mx : Nat} {rt : Option FieldType} {a : Array Value} {s : State} {m : MethodId} {meth : Method} {c : Code} (h1 : s.methodNamed? y = some m) (h2 : s.vm.method? m = some meth) (h3 : meth.code = some c) (h4 : c.code = bytes)
    (h5 : (c.maxLocals == mx && c.exceptionTable.isEmpty && decide (c.maxStack ≤ mostOperands) && decide (meth.sig.returnType = rt) && !meth.locks && decide (parseMethodDescriptor y.desc = some meth.sig)) = true) : (Jvm.Cond.code y bytes mx rt).before a s = true := by
  simp only [Bool.and_eq_true, beq_iff_eq, Bool.not_eq_true', decide_eq_true_eq] at h5
  obtain ⟨⟨⟨⟨⟨g1, g2⟩, g3⟩, g4⟩, g5⟩, g6⟩ := h5
  simp [Cond.before, Cond.holds, Cond.value, h1, h2, h3, h4, g1, g2, g3, g4, g5, g6]
def isCode : Jvm.Cond → Bool
  | .code _ _ _ _ => true
  | _ => false
theorem all_split {L : List Jvm.Cond} {P : Jvm.Cond → Bool} (h1 : L.all (fun c => isCode c || P c) = true) (h2 : ∀ c ∈ L.filter isCode, P c = true) : L.all P = true := by
  refine List.all_eq_true.mpr fun c hc => ?_
  have h := List.all_eq_true.mp h1 c hc
  rcases Bool.eq_false_or_eq_true (isCode c) with hi | hi
  · exact h2 c (List.mem_filter.mpr ⟨hc, hi⟩)
  · simpa [hi] using h
set_option maxRecDepth 65536 in
theorem w_c0 : (Jvm.Cond.code x code maxLocals ret).before args0 about1 = true := code_word (m := ⟨1, 1⟩) (meth := k1m1) (c := k1c1) (by decide +kernel) rfl rfl rfl (by decide +kernel)
set_option maxRecDepth 65536 in
theorem w_c1 : (Jvm.Cond.code ({ cls := "java/lang/Integer", name := "valueOf", desc := "(I)Ljava/lang/Integer;" } : Jvm.MethodName) jdk_33_method_22_code (1 : Nat) (Option.some (Jvm.ClassFile.FieldType.object "java/lang/Integer"))).before args0 about1 = true := code_word (m := ⟨7, 0⟩) (meth := k7m0) (c := k7c0) (by decide +kernel) rfl rfl rfl (by decide +kernel)
set_option maxRecDepth 65536 in
theorem w_c2 : (Jvm.Cond.code ({ cls := "com/example/libreconf/libreconf/pattern/Junction$State", name := "<init>", desc := "(Ljava/lang/Object;Ljava/lang/Object;)V" } : Jvm.MethodName) prog_91_method_1_code (3 : Nat) (Option.none : Option Jvm.ClassFile.FieldType)).before args0 about1 = true := code_word (m := ⟨10, 0⟩) (meth := k10m0) (c := k10c0) (by decide +kernel) rfl rfl rfl (by decide +kernel)
set_option maxRecDepth 65536 in
theorem w_c3 : (Jvm.Cond.code ({ cls := "java/lang/Record", name := "<init>", desc := "()V" } : Jvm.MethodName) jdk_30_method_1_code (1 : Nat) (Option.none : Option Jvm.ClassFile.FieldType)).before args0 about1 = true := code_word (m := ⟨9, 0⟩) (meth := k9m0) (c := k9c0) (by decide +kernel) rfl rfl rfl (by decide +kernel)
set_option maxRecDepth 65536 in
theorem w_c4 : (Jvm.Cond.code ({ cls := "java/lang/Object", name := "<init>", desc := "()V" } : Jvm.MethodName) object_method_1_code (1 : Nat) (Option.none : Option Jvm.ClassFile.FieldType)).before args0 about1 = true := code_word (m := ⟨0, 0⟩) (meth := k0m0) (c := k0c0) (by decide +kernel) rfl rfl rfl (by decide +kernel)
set_option maxRecDepth 65536 in
theorem w_c5 : (Jvm.Cond.code ({ cls := "com/example/libreconf/libreconf/pattern/Junction$State", name := "settled", desc := "()Z" } : Jvm.MethodName) prog_91_method_2_code (1 : Nat) (Option.some Jvm.ClassFile.FieldType.boolean)).before args0 about1 = true := code_word (m := ⟨10, 1⟩) (meth := k10m1) (c := k10c1) (by decide +kernel) rfl rfl rfl (by decide +kernel)
set_option maxRecDepth 65536 in
theorem w_c6 : (Jvm.Cond.code ({ cls := "com/example/libreconf/libreconf/pattern/Junction$State", name := "left", desc := "()Ljava/lang/Object;" } : Jvm.MethodName) prog_91_method_6_code (1 : Nat) (Option.some (Jvm.ClassFile.FieldType.object "java/lang/Object"))).before args0 about1 = true := code_word (m := ⟨10, 2⟩) (meth := k10m2) (c := k10c2) (by decide +kernel) rfl rfl rfl (by decide +kernel)
set_option maxRecDepth 65536 in
theorem w_c7 : (Jvm.Cond.code ({ cls := "com/example/libreconf/libreconf/pattern/Junction$State", name := "right", desc := "()Ljava/lang/Object;" } : Jvm.MethodName) prog_91_method_7_code (1 : Nat) (Option.some (Jvm.ClassFile.FieldType.object "java/lang/Object"))).before args0 about1 = true := code_word (m := ⟨10, 3⟩) (meth := k10m3) (c := k10c3) (by decide +kernel) rfl rfl rfl (by decide +kernel)
set_option maxRecDepth 65536 in
theorem w_c8 : (Jvm.Cond.code ({ cls := "java/lang/Integer", name := "<init>", desc := "(I)V" } : Jvm.MethodName) jdk_33_method_23_code (2 : Nat) (Option.none : Option Jvm.ClassFile.FieldType)).before args0 about1 = true := code_word (m := ⟨7, 1⟩) (meth := k7m1) (c := k7c1) (by decide +kernel) rfl rfl rfl (by decide +kernel)
set_option maxRecDepth 65536 in
theorem w_c9 : (Jvm.Cond.code ({ cls := "java/lang/Number", name := "<init>", desc := "()V" } : Jvm.MethodName) jdk_18_method_1_code (1 : Nat) (Option.none : Option Jvm.ClassFile.FieldType)).before args0 about1 = true := code_word (m := ⟨3, 0⟩) (meth := k3m0) (c := k3c0) (by decide +kernel) rfl rfl rfl (by decide +kernel)
def codes1 : List Jvm.Cond := [Jvm.Cond.code x code maxLocals ret, Jvm.Cond.code ({ cls := "java/lang/Integer", name := "valueOf", desc := "(I)Ljava/lang/Integer;" } : Jvm.MethodName) jdk_33_method_22_code (1 : Nat) (Option.some (Jvm.ClassFile.FieldType.object "java/lang/Integer")), Jvm.Cond.code ({ cls := "com/example/libreconf/libreconf/pattern/Junction$State", name := "<init>", desc := "(Ljava/lang/Object;Ljava/lang/Object;)V" } : Jvm.MethodName) prog_91_method_1_code (3 : Nat) (Option.none : Option Jvm.ClassFile.FieldType), Jvm.Cond.code ({ cls := "java/lang/Record", name := "<init>", desc := "()V" } : Jvm.MethodName) jdk_30_method_1_code (1 : Nat) (Option.none : Option Jvm.ClassFile.FieldType), Jvm.Cond.code ({ cls := "java/lang/Object", name := "<init>", desc := "()V" } : Jvm.MethodName) object_method_1_code (1 : Nat) (Option.none : Option Jvm.ClassFile.FieldType), Jvm.Cond.code ({ cls := "com/example/libreconf/libreconf/pattern/Junction$State", name := "settled", desc := "()Z" } : Jvm.MethodName) prog_91_method_2_code (1 : Nat) (Option.some Jvm.ClassFile.FieldType.boolean), Jvm.Cond.code ({ cls := "com/example/libreconf/libreconf/pattern/Junction$State", name := "left", desc := "()Ljava/lang/Object;" } : Jvm.MethodName) prog_91_method_6_code (1 : Nat) (Option.some (Jvm.ClassFile.FieldType.object "java/lang/Object")), Jvm.Cond.code ({ cls := "com/example/libreconf/libreconf/pattern/Junction$State", name := "right", desc := "()Ljava/lang/Object;" } : Jvm.MethodName) prog_91_method_7_code (1 : Nat) (Option.some (Jvm.ClassFile.FieldType.object "java/lang/Object")), Jvm.Cond.code ({ cls := "java/lang/Integer", name := "<init>", desc := "(I)V" } : Jvm.MethodName) jdk_33_method_23_code (2 : Nat) (Option.none : Option Jvm.ClassFile.FieldType), Jvm.Cond.code ({ cls := "java/lang/Number", name := "<init>", desc := "()V" } : Jvm.MethodName) jdk_18_method_1_code (1 : Nat) (Option.none : Option Jvm.ClassFile.FieldType)]
set_option maxRecDepth 65536 in
theorem codes_eq : words1.filter isCode = codes1 := rfl
theorem w_codes : ∀ c ∈ words1.filter isCode, c.before args0 about1 = true := by
  rw [codes_eq]
  intro c hc
  simp only [codes1, List.mem_cons, List.not_mem_nil, or_false] at hc
  rcases hc with rfl | rfl | rfl | rfl | rfl | rfl | rfl | rfl | rfl | rfl
  · exact w_c0
  · exact w_c1
  · exact w_c2
  · exact w_c3
  · exact w_c4
  · exact w_c5
  · exact w_c6
  · exact w_c7
  · exact w_c8
  · exact w_c9
set_option maxRecDepth 65536 in
theorem w_t1 : (words1.take 24).all (fun c => isCode c || c.before args0 about1) = true := by decide +kernel
set_option maxRecDepth 65536 in
theorem w_t2 : ((words1.drop 24).take 24).all (fun c => isCode c || c.before args0 about1) = true := by decide +kernel
set_option maxRecDepth 65536 in
theorem w_t3 : ((words1.drop 24).drop 24).all (fun c => isCode c || c.before args0 about1) = true := by decide +kernel
theorem w_tables : (allAtoms (Jvm.Cond.code x code maxLocals ret :: tables_1)).before args0 about1 = true := by
  rw [allAtoms_all]
  show words1.all (fun c => c.before args0 about1) = true
  refine all_split ?_ w_codes
  rw [← List.take_append_drop 24 words1, List.all_append, w_t1, ← List.take_append_drop 24 (words1.drop 24), List.all_append, w_t2, w_t3]
  rfl
set_option maxRecDepth 65536 in
theorem w_rest : rest_1_c.before args0 about1 = true := by decide +kernel
set_option maxRecDepth 65536 in
theorem w_case : (Jvm.Cond.and given_1 narrow_1).before args0 about1 = true := by decide +kernel
theorem w_applies : (headSpec (Jvm.Cond.code x code maxLocals ret :: tables_1) room_1).applies x e0.platform about1 = true :=
  (Spec.applies_iff w_frames).mpr ⟨w_running, w_runnable, w_alone, w_named, w_hears, w_ripe, w_room, w_tables⟩
theorem atStart : AtStart classFile x code maxLocals ret World_1 tables_1 room_1 Calls_1 rest_1 Pre_1 launch0 p0 e0 about1 theMethod args0 below0 :=
  ⟨lists_1, trivial, launch0.admits_env _ _ _, launch0.least_env, fairChoices_fair.cas, fairChoices_fair.clock, w_frames, w_args, w_heap, w_applies, trivial, w_rest, w_case⟩
end start1
theorem witness_1 : WitnessClaimed_1 := ⟨start1.p0, start1.e0, start1.about1, start1.theMethod, start1.args0, start1.below0, start1.atStart⟩
end Jvm.Pilot.@@N@@
