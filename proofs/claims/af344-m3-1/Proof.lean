import JvmDerived
import JvmDerived.Pilot.@@N@@Statement
import JvmDerived.Pilot.@@N@@Code
set_option linter.unusedVariables false
set_option linter.unusedSimpArgs false
@@BLOCK:NumsL.lean.txt@@
@@BLOCK:LamKit.lean.txt@@
namespace Jvm.Pilot.@@N@@
open Jvm Jvm.ClassFile Sem Op Lib Jvm.Free Jvm.Stand Jvm.LawKit Jvm.RoadKit Bundle Jvm.Pilot.@@N@@.Jvm.D
/-- from the state T with the frame g on top the method comes to its end, and Q holds there -/
def Goes (p : Program) (l : Launch) (e : Env) (R : Room) (s : State) (m : MethodId) (args : Array Value) (below : List Frame) (meth : Method) (c : Code) (Q : Option Value → Heap → List Loc → Prop) (T : State) (g : JFrame) : Prop :=
  ∃ (T' : State) (v : Option Value) (L : List Loc) (k n : Nat), Stand p l e R s m args below meth c T' L k n ∧ k ≤ R.cells ∧ n ≤ R.slots ∧ (meth.sig.returnType = none → v = none) ∧ Q v T'.heap L ∧
    ∀ fs, (∀ (f : JFrame) (acts : List Action), f.method = m → f.locked = none → f.entered = [] → (doReturn e (T'.setTop f) acts v).1 = T'.setFrames fs) → Steps p.tables e below (T.setTop g) (T'.setFrames fs)
section OwnGoes
variable {p : Program} {l : Launch} {e : Env} {R : Room} {s : State} {m : MethodId} {args : Array Value} {below : List Frame} {meth : Method} {c : Code} {Q : Option Value → Heap → List Loc → Prop} {T T2 : State} {g g2 : JFrame} {L : List Loc} {k n : Nat}
theorem Goes.step (st : ∀ target, Steps p.tables e below (T2.setTop g2) target → Steps p.tables e below (T.setTop g) target) (F : Goes p l e R s m args below meth c Q T2 g2) : Goes p l e R s m args below meth c Q T g := by
  obtain ⟨T', v, L, k, n, X, hk, hn, hv, hq, hs⟩ := F
  exact ⟨T', v, L, k, n, X, hk, hn, hv, hq, fun fs h => st _ (hs fs h)⟩
theorem Goes.cast (q : g = g2) (F : Goes p l e R s m args below meth c Q T g2) : Goes p l e R s m args below meth c Q T g := q ▸ F
theorem Goes.out {maxL : Nat} {s₁ : State} (hl : meth.locks = false) (F : Goes p l e R s m args below meth c Q s₁ (entryFrame m args maxL)) :
    ∃ s₂ o, Steps p.tables e below (s₁.setTop (entryFrame m args maxL)) s₂ ∧ s₂.status = .running ∧ Ended s₂ below o ∧ ∃ v L, o = .returned v ∧ Q v s₂.heap L ∧ FrameEnd s o s₂ L R.cells R.slots := by
  obtain ⟨T', v, L, k, n, X, hk, hn, hv, hq, hs⟩ := F
  obtain ⟨fs, hr, hrun, hended, hW, hsame⟩ := X.leave (v := v) hv hl
  exact ⟨_, _, hs fs hr, hrun, hended, v, L, rfl, hq, ⟨_, rfl⟩, hW, hsame.mono hk hn⟩
theorem Goes.ret {v : Option Value} (X : Stand p l e R s m args below meth c T L k n) (hk : k ≤ R.cells) (hn : n ≤ R.slots) (hv : meth.sig.returnType = none → v = none) (hq : Q v T.heap L)
    (hs : ∀ fs, (∀ (f : JFrame) (acts : List Action), f.method = m → f.locked = none → f.entered = [] → (doReturn e (T.setTop f) acts v).1 = T.setFrames fs) → Steps p.tables e below (T.setTop g) (T.setFrames fs)) : Goes p l e R s m args below meth c Q T g :=
  ⟨T, v, L, k, n, X, hk, hn, hv, hq, hs⟩
/-- the same where String constants may have been interned on the road -/
def GoesW (p : Program) (l : Launch) (e : Env) (R : Room) (s : State) (m : MethodId) (args : Array Value) (below : List Frame) (meth : Method) (c : Code) (Q : Option Value → Heap → List Loc → Prop) (T : State) (g : JFrame) : Prop :=
  ∃ (T' : State) (v : Option Value) (L : List Loc) (k n : Nat) (vm : Vm) (j : Nat), Stand p l e R (s.setVm vm) m args below meth c T' L k n ∧ s.Since vm j ∧ j ≤ T'.heap.size ∧ k ≤ R.cells ∧ n ≤ R.slots ∧ (meth.sig.returnType = none → v = none) ∧ Q v T'.heap L ∧
    ∀ fs, (∀ (f : JFrame) (acts : List Action), f.method = m → f.locked = none → f.entered = [] → (doReturn e (T'.setTop f) acts v).1 = T'.setFrames fs) → Steps p.tables e below (T.setTop g) (T'.setFrames fs)
theorem GoesW.step (st : ∀ target, Steps p.tables e below (T2.setTop g2) target → Steps p.tables e below (T.setTop g) target) (F : GoesW p l e R s m args below meth c Q T2 g2) : GoesW p l e R s m args below meth c Q T g := by
  obtain ⟨T', v, L, k, n, vm, j, X, hS, hj, hk, hn, hv, hq, hs⟩ := F
  exact ⟨T', v, L, k, n, vm, j, X, hS, hj, hk, hn, hv, hq, fun fs h => st _ (hs fs h)⟩
theorem GoesW.cast (q : g = g2) (F : GoesW p l e R s m args below meth c Q T g2) : GoesW p l e R s m args below meth c Q T g := q ▸ F
theorem GoesW.out {maxL : Nat} {s₁ : State} (hl : meth.locks = false) (F : GoesW p l e R s m args below meth c Q s₁ (entryFrame m args maxL)) :
    ∃ s₂ o, Steps p.tables e below (s₁.setTop (entryFrame m args maxL)) s₂ ∧ s₂.status = .running ∧ Ended s₂ below o ∧ ∃ v L, o = .returned v ∧ Q v s₂.heap L ∧ ReturnedEndW s o s₂ L R.cells R.slots := by
  obtain ⟨T', v, L, k, n, vm, j, X, hS, hj, hk, hn, hv, hq, hs⟩ := F
  obtain ⟨fs, hr, hrun, hended, h1, h2, h3, hsame⟩ := X.leaveW (v := v) hS hj hv hl
  exact ⟨_, _, hs fs hr, hrun, hended, v, L, rfl, hq, h1, h2, h3, hsame.mono hk hn⟩
theorem GoesW.ret {v : Option Value} {vm : Vm} {j : Nat} (X : Stand p l e R (s.setVm vm) m args below meth c T L k n) (hS : s.Since vm j) (hj : j ≤ T.heap.size) (hk : k ≤ R.cells) (hn : n ≤ R.slots) (hv : meth.sig.returnType = none → v = none) (hq : Q v T.heap L)
    (hs : ∀ fs, (∀ (f : JFrame) (acts : List Action), f.method = m → f.locked = none → f.entered = [] → (doReturn e (T.setTop f) acts v).1 = T.setFrames fs) → Steps p.tables e below (T.setTop g) (T.setFrames fs)) : GoesW p l e R s m args below meth c Q T g :=
  ⟨T, v, L, k, n, vm, j, X, hS, hj, hk, hn, hv, hq, hs⟩
theorem tw {a0 : Array Value} {Z : State} (hw : ∀ d ∈ tables_1, d.before a0 Z = true) (i : Nat) {d : Jvm.Cond} (h : tables_1[i]? = some d) : d.before a0 Z = true := hw d (List.mem_of_getElem? h)
theorem own_at {T : State} {h : Heap} {a : Addr} {c : Cell} (e : T.heap = h) (q : h[a]? = some c) : T.heap[a]? = some c := by rw [e]; exact q
theorem cmpL_self (x : Int64) : Jvm.Free.XT.cmpL x x = (0 : Int32) := by simp [Jvm.Free.XT.cmpL, Int64.lt_iff_toInt_lt]
theorem own_mvMN {Z s : State} {a0 args : Array Value} {own host : String} {index : Nat} {y : MethodName} (hZ : Z.Warmed39 s.vm) (w : (Jvm.Cond.methodLinkNest own index y host).before a0 Z = true) : (Jvm.Cond.methodLinkNest own index y host).before args s = true := (Cond.methodLinkNest_wide hZ w :)
end OwnGoes
abbrev cRR : String := "com/example/log_lag_gauge/loglaggauge/model/PositionLag$RecordsRead"
abbrev cPL : String := "com/example/log_lag_gauge/loglaggauge/model/PositionLag"
abbrev cOL : String := "java/util/OptionalLong"
abbrev cOP : String := "java/util/Optional"
abbrev dOL : String := "Ljava/util/OptionalLong;"
abbrev dOP : String := "Ljava/util/Optional;"
abbrev dOB : String := "Ljava/lang/Object;"
abbrev cRec : String := "java/lang/Record"
abbrev nIP : String := "isPresent"
abbrev nLT : String := "firstUnreadTimestamp"
abbrev nNT : String := "newestTimestamp"
abbrev nOM : String := "onlyMarkersLeft"
abbrev cMX : Int64 := 9223372036854775807
section OwnShort
variable {p : Program} {l : Launch} {e : Env} {R : Room} {s : State} {m : MethodId} {args : Array Value} {below : List Frame} {meth : Method} {c : Code} {Q : Option Value → Heap → List Loc → Prop} {T : State} {g : JFrame}
theorem gs (T2 : State) (g2 : JFrame) (st : ∀ target, Steps p.tables e below (T2.setTop g2) target → Steps p.tables e below (T.setTop g) target) (F : Goes p l e R s m args below meth c Q T2 g2) : Goes p l e R s m args below meth c Q T g := Goes.step st F
theorem gsW (T2 : State) (g2 : JFrame) (st : ∀ target, Steps p.tables e below (T2.setTop g2) target → Steps p.tables e below (T.setTop g) target) (F : GoesW p l e R s m args below meth c Q T2 g2) : GoesW p l e R s m args below meth c Q T g := GoesW.step st F
end OwnShort
abbrev r0 : Room := ({ frames := 1, cells := 0, slots := 0, locals := 12 } : Room)
abbrev r1 : Room := ({ frames := 2, cells := 1, slots := 2, locals := 27 } : Room)
abbrev r2 : Room := ({ frames := 0, cells := 0, slots := 0, locals := 0 } : Room)
abbrev r3 : Room := ({ frames := 2, cells := 1, slots := 1, locals := 26 } : Room)
abbrev r4 : Room := ({ frames := 1, cells := 0, slots := 0, locals := 14 } : Room)
abbrev r5 : Room := ({ frames := 3, cells := 1, slots := 2, locals := 40 } : Room)
abbrev r6 : Room := ({ frames := 2, cells := 0, slots := 0, locals := 25 } : Room)
abbrev r7 : Room := ({ frames := 3, cells := 2, slots := 4, locals := 41 } : Room)
abbrev r8 : Room := ({ frames := 4, cells := 4, slots := 8, locals := 3073 } : Room)
abbrev r9 : Room := ({ frames := 4, cells := 3, slots := 6, locals := 3073 } : Room)
abbrev r10 : Room := ({ frames := 4, cells := 2, slots := 4, locals := 55 } : Room)
abbrev r11 : Room := ({ frames := 5, cells := 5, slots := 10, locals := 3087 } : Room)
abbrev r12 : Room := ({ frames := 5, cells := 4, slots := 8, locals := 3087 } : Room)
abbrev r13 : Room := ({ frames := 5, cells := 2, slots := 4, locals := 71 } : Room)
abbrev r14 : Room := ({ frames := 7, cells := 3, slots := 5, locals := 97 } : Room)
abbrev r15 : Room := ({ frames := 6, cells := 2, slots := 4, locals := 84 } : Room)
abbrev r16 : Room := ({ frames := 8, cells := 4, slots := 6, locals := 3074 } : Room)
abbrev r17 : Room := ({ frames := 6, cells := 5, slots := 10, locals := 3103 } : Room)
abbrev r18 : Room := ({ frames := 8, cells := 6, slots := 11, locals := 3129 } : Room)
abbrev r19 : Room := ({ frames := 7, cells := 5, slots := 10, locals := 3116 } : Room)
abbrev r20 : Room := ({ frames := 9, cells := 7, slots := 12, locals := 3142 } : Room)
abbrev r21 : Room := ({ frames := 6, cells := 4, slots := 8, locals := 3103 } : Room)
abbrev r22 : Room := ({ frames := 8, cells := 5, slots := 9, locals := 3129 } : Room)
abbrev r23 : Room := ({ frames := 7, cells := 4, slots := 8, locals := 3116 } : Room)
abbrev r24 : Room := ({ frames := 9, cells := 6, slots := 10, locals := 3142 } : Room)
abbrev r25 : Room := ({ frames := 2, cells := 1, slots := 1, locals := 3074 } : Room)
abbrev r26 : Room := ({ frames := 2, cells := 2, slots := 32, locals := 24 } : Room)
abbrev r27 : Room := ({ frames := 2, cells := 4, slots := 148, locals := 24 } : Room)
theorem wle {a b : Nat} (h : a = b) : a ≤ b := Nat.le_of_eq h
theorem pd_0 : parseMethodDescriptor "(Lcom/example/log_lag_gauge/loglaggauge/model/PositionLag$RecordsRead;)Ljava/util/OptionalLong;" = some ⟨[(.object cRR)], some (.object cOL)⟩ := by decide +kernel
theorem pd_1 : parseMethodDescriptor "()Z" = some ⟨[], some .boolean⟩ := by decide +kernel
theorem pd_2 : parseMethodDescriptor "(J)V" = some ⟨[.long], none⟩ := by decide +kernel
theorem pd_3 : parseMethodDescriptor "(Ljava/lang/Object;)Ljava/lang/Object;" = some ⟨[(.object "java/lang/Object")], some (.object "java/lang/Object")⟩ := by decide +kernel
theorem pd_4 : parseMethodDescriptor "(Ljava/lang/Object;)V" = some ⟨[(.object "java/lang/Object")], none⟩ := by decide +kernel
theorem pd_5 : parseMethodDescriptor "()J" = some ⟨[], some .long⟩ := by decide +kernel
theorem pd_6 : parseMethodDescriptor "()Ljava/util/OptionalLong;" = some ⟨[], some (.object cOL)⟩ := by decide +kernel
theorem pd_7 : parseMethodDescriptor "(J)Ljava/util/OptionalLong;" = some ⟨[.long], some (.object cOL)⟩ := by decide +kernel
theorem pd_8 : parseMethodDescriptor "(JJ)J" = some ⟨[.long, .long], some .long⟩ := by decide +kernel
theorem pd_9 : parseMethodDescriptor "(Ljava/lang/Object;)Z" = some ⟨[(.object "java/lang/Object")], some .boolean⟩ := by decide +kernel
theorem pd_10 : parseMethodDescriptor "()Ljava/util/Optional;" = some ⟨[], some (.object cOP)⟩ := by decide +kernel
theorem pd_11 : parseMethodDescriptor "(Ljava/util/OptionalLong;Ljava/util/OptionalLong;)Ljava/util/OptionalLong;" = some ⟨[(.object cOL), (.object cOL)], some (.object cOL)⟩ := by decide +kernel
theorem pd_12 : parseMethodDescriptor "(Ljava/util/function/Predicate;)Ljava/util/Optional;" = some ⟨[(.object "java/util/function/Predicate")], some (.object cOP)⟩ := by decide +kernel
theorem pd_13 : parseMethodDescriptor "(J)J" = some ⟨[.long], some .long⟩ := by decide +kernel
theorem pd_14 : parseMethodDescriptor "(Lcom/example/log_lag_gauge/loglaggauge/model/PositionLag$RecordsRead;Ljava/util/OptionalLong;)Ljava/util/OptionalLong;" = some ⟨[(.object cRR), (.object cOL)], some (.object cOL)⟩ := by decide +kernel
theorem pd_15 : parseMethodDescriptor "(Ljava/lang/Object;)Ljava/util/Optional;" = some ⟨[(.object "java/lang/Object")], some (.object cOP)⟩ := by decide +kernel
theorem pd_16 : parseMethodDescriptor "(Ljava/util/function/Function;)Ljava/util/Optional;" = some ⟨[(.object "java/util/function/Function")], some (.object cOP)⟩ := by decide +kernel
theorem pd_17 : parseMethodDescriptor "()V" = some ⟨[], none⟩ := by decide +kernel
theorem pd_18 : parseMethodDescriptor "(Ljava/lang/Object;Ljava/lang/String;)Ljava/lang/Object;" = some ⟨[(.object "java/lang/Object"), (.object "java/lang/String")], some (.object "java/lang/Object")⟩ := by decide +kernel
theorem pd_19 : parseMethodDescriptor "(JJLjava/util/Optional;)V" = some ⟨[.long, .long, (.object cOP)], none⟩ := by decide +kernel
theorem pd_20 : parseMethodDescriptor "(ZLjava/util/OptionalLong;Ljava/util/OptionalLong;J)V" = some ⟨[.boolean, (.object cOL), (.object cOL), .long], none⟩ := by decide +kernel
abbrev Y0 : MethodName := (⟨cPL, "lambda$timeLagMs$0", "(Lcom/example/log_lag_gauge/loglaggauge/model/PositionLag$RecordsRead;)Ljava/util/OptionalLong;"⟩ : MethodName)
abbrev Y1 : MethodName := (⟨cRR, nOM, "()Z"⟩ : MethodName)
abbrev Y2 : MethodName := (⟨cOL, "<init>", "(J)V"⟩ : MethodName)
abbrev Y3 : MethodName := (⟨cOL, "of", "(J)Ljava/util/OptionalLong;"⟩ : MethodName)
abbrev Y4 : MethodName := (⟨cOL, "empty", "()Ljava/util/OptionalLong;"⟩ : MethodName)
abbrev Y5 : MethodName := (⟨cOL, nIP, "()Z"⟩ : MethodName)
abbrev Y6 : MethodName := (⟨cOL, "isEmpty", "()Z"⟩ : MethodName)
abbrev Y7 : MethodName := (⟨cOL, "getAsLong", "()J"⟩ : MethodName)
abbrev Y8 : MethodName := (⟨cOL, "orElse", "(J)J"⟩ : MethodName)
abbrev Y9 : MethodName := (⟨"java/util/Objects", "requireNonNull", "(Ljava/lang/Object;Ljava/lang/String;)Ljava/lang/Object;"⟩ : MethodName)
abbrev Y10 : MethodName := (⟨cRec, "<init>", "()V"⟩ : MethodName)
abbrev Y11 : MethodName := (⟨cRR, nLT, "()Ljava/util/OptionalLong;"⟩ : MethodName)
abbrev Y12 : MethodName := (⟨cRR, nNT, "()Ljava/util/OptionalLong;"⟩ : MethodName)
abbrev Y13 : MethodName := (⟨"java/util/Objects", "requireNonNull", "(Ljava/lang/Object;)Ljava/lang/Object;"⟩ : MethodName)
abbrev Y14 : MethodName := (⟨cOP, "<init>", "(Ljava/lang/Object;)V"⟩ : MethodName)
abbrev Y15 : MethodName := (⟨cOP, "of", "(Ljava/lang/Object;)Ljava/util/Optional;"⟩ : MethodName)
abbrev Y16 : MethodName := (⟨cOP, "ofNullable", "(Ljava/lang/Object;)Ljava/util/Optional;"⟩ : MethodName)
abbrev Y17 : MethodName := (⟨cOP, "empty", "()Ljava/util/Optional;"⟩ : MethodName)
abbrev Y18 : MethodName := (⟨cOP, "isEmpty", "()Z"⟩ : MethodName)
abbrev Y19 : MethodName := (⟨cOP, nIP, "()Z"⟩ : MethodName)
abbrev Y20 : MethodName := (⟨cOP, "orElse", "(Ljava/lang/Object;)Ljava/lang/Object;"⟩ : MethodName)
abbrev Y21 : MethodName := (⟨"com/example/log_lag_gauge/loglaggauge/model/Trailing", "offsets", "(Ljava/util/OptionalLong;Ljava/util/OptionalLong;)Ljava/util/OptionalLong;"⟩ : MethodName)
abbrev Y22 : MethodName := (⟨"java/lang/Math", "max", "(JJ)J"⟩ : MethodName)
abbrev Y23 : MethodName := (⟨"com/example/log_lag_gauge/loglaggauge/model/Trailing", "ms", "(Ljava/util/OptionalLong;Ljava/util/OptionalLong;)Ljava/util/OptionalLong;"⟩ : MethodName)
abbrev Y24 : MethodName := (⟨"java/util/function/Predicate", "test", "(Ljava/lang/Object;)Z"⟩ : MethodName)
abbrev Y25 : MethodName := (⟨cOP, "filter", "(Ljava/util/function/Predicate;)Ljava/util/Optional;"⟩ : MethodName)
abbrev Y26 : MethodName := (⟨cPL, "lag", "()Ljava/util/OptionalLong;"⟩ : MethodName)
abbrev Y27 : MethodName := (⟨cPL, "behindFirstUnread", "(Lcom/example/log_lag_gauge/loglaggauge/model/PositionLag$RecordsRead;Ljava/util/OptionalLong;)Ljava/util/OptionalLong;"⟩ : MethodName)
abbrev Y28 : MethodName := (⟨"java/util/function/Function", "apply", "(Ljava/lang/Object;)Ljava/lang/Object;"⟩ : MethodName)
abbrev Y29 : MethodName := (⟨cOP, "map", "(Ljava/util/function/Function;)Ljava/util/Optional;"⟩ : MethodName)
abbrev Y30 : MethodName := (⟨cPL, "timeLagMs", "()Ljava/util/OptionalLong;"⟩ : MethodName)
abbrev Y31 : MethodName := (⟨cPL, "<init>", "(JJLjava/util/Optional;)V"⟩ : MethodName)
abbrev Y32 : MethodName := (⟨cRR, "<init>", "(ZLjava/util/OptionalLong;Ljava/util/OptionalLong;J)V"⟩ : MethodName)
theorem own_fint {s : State} {args : Array Value} {t : Term} {C n d : String} {k : Int32} {a : Addr} (ev : t.eval args s none [] s = some (.ref a)) (h : (Jvm.Cond.eq (.field t C n d) (.int k)).value args s none s [] = some true) : Fld s s.heap a C n d (.int k) := by
  obtain ⟨x', y', e1, e2, k1, k2⟩ := cmp_v (Or.inl h)
  have e3 : y' = .int k := (Option.some.inj ((Term.int_eval k).symm.trans e2)).symm
  subst e3
  obtain ⟨z, rfl⟩ := k2
  have e4 : z = k := by
    simp only [Cond.value, e1, e2] at h
    simpa using h
  subst e4
  rw [fld_at ev] at e1
  exact Fld.start e1
theorem own_flong {s : State} {args : Array Value} {t : Term} {C n d : String} {k : Int64} {a : Addr} (ev : t.eval args s none [] s = some (.ref a)) (h : (Jvm.Cond.eq (.field t C n d) (.long k)).value args s none s [] = some true) : Fld s s.heap a C n d (.long k) := by
  obtain ⟨x', y', e1, e2, k1, k2⟩ := cmp_v (Or.inl h)
  have e3 : y' = .long k := by
    simp only [Term.eval] at e2
    exact (Option.some.inj e2).symm
  subst e3
  obtain ⟨z, rfl⟩ := k2
  have e4 : z = k := by
    simp only [Cond.value, e1, e2] at h
    simpa using h
  subst e4
  rw [fld_at ev] at e1
  exact Fld.start e1
section OwnLam
open Jvm.LamKit Jvm.Lambda
variable {p : Program} {l : Launch} {e : Env} {R : Room} {s : State} {m : MethodId} {args : Array Value} {below : List Frame} {meth : Method} {c : Code} {T : State} {locs : List Loc} {cells slots : Nat} {Z : State} {a0 : Array Value} {h h' : Heap} {Q : Option Value → Heap → List Loc → Prop}
/-- the function object at a: its class, what it holds -/
def FnV (h : Heap) (a : Addr) (cK : ClassId) (vs : Array Value) : Prop := ∃ cell : Cell, h[a]? = some cell ∧ cell.cls = cK ∧ cell.vm = .none ∧ cell.slots = vs
theorem FnV.lt {a : Addr} {cK : ClassId} {vs : Array Value} (F : FnV h a cK vs) : a < h.size := by
  obtain ⟨c, q, -⟩ := F
  exact (Array.getElem?_eq_some_iff.mp q).1
theorem FnV.ext {a : Addr} {cK : ClassId} {vs : Array Value} (F : FnV h a cK vs) (E : Ext h h') : FnV h' a cK vs := by
  obtain ⟨c, q, r⟩ := F
  exact ⟨c, E.2 a c q, r⟩
theorem FnV.keep {a : Addr} {cK : ClassId} {vs : Array Value} {ws : List Addr} (F : FnV h a cK vs) (K : Keep h h' ws) (q : a ∉ ws) : FnV h' a cK vs := by
  obtain ⟨c, q1, r⟩ := F
  exact ⟨c, K.2.1 a c q1 q, r⟩
theorem FnV.other {a b : Addr} {cK : ClassId} {vs : Array Value} {sl : Nat} {v : Value} (F : FnV h b cK vs) (W : Wr h h' a sl v) (q : b ≠ a) : FnV h' b cK vs := F.keep (Keep.of_wr W) fun z => q (List.mem_singleton.mp z)
theorem own_named (hZ : Z.Warmed39 s.vm) {y : MethodName} {t : MethodId} (q : Z.methodNamed? y = some t) : s.methodNamed? y = some t := by
  have r : (Z.setVm s.vm).methodNamed? y = some t := by rw [State.methodNamed?_setVm hZ.alike]; exact q
  exact r
/-- an entry that was resolved stays so -/
theorem own_entry {vm : Vm} (hZ : Z.Warmed39 vm) {d i : Nat} {k : Class} {r : Resolved} (hk : Z.vm.classes[d]? = some k) (hr : k.resolved[i]? = some (some r)) : ∃ k', vm.classes[d]? = some k' ∧ k'.resolved[i]? = some (some r) := by
  obtain ⟨k', a, -, -, q, -⟩ := hZ.2.2.2 d k hk
  refine ⟨k', a, ?_⟩
  rcases q i with q1 | ⟨q1, -⟩
  · rw [q1]; exact hr
  · rw [hr] at q1; cases q1
theorem own_mR {vm : Vm} (hZ : Z.Warmed39 vm) {d i : Nat} {t : MethodId} (q : Z.vm.methodReady d i t) : vm.methodReady d i t := by
  obtain ⟨k, hk, hr⟩ := q
  exact own_entry hZ hk hr
theorem own_cR {vm : Vm} (hZ : Z.Warmed39 vm) {d i : Nat} {t : ClassId} (q : Z.vm.classReady d i t) : vm.classReady d i t := by
  obtain ⟨k, hk, hr⟩ := q
  exact own_entry hZ hk hr
theorem own_fR {vm : Vm} (hZ : Z.Warmed39 vm) {d i c' : Nat} {f : Field} (q : Z.vm.fieldReady d i c' f) : vm.fieldReady d i c' f := by
  obtain ⟨k, j, k2, hk, hr, hk2, hf⟩ := q
  obtain ⟨k', a, b⟩ := own_entry hZ hk hr
  obtain ⟨k2', a2, e2⟩ := hZ.alike.2.2 _ _ hk2
  exact ⟨k', j, k2', a, b, a2, by rw [e2]; exact hf⟩
/-- 'invokedynamic' at a site that captures nothing -/
theorem own_siteConst (X : Stand p l e R s m args below meth c T locs cells slots) (hexec : p.tables.exec = Jvm.exec) (hZ : Z.Warmed39 s.vm) {x : MethodName} {pc index : Nat} {σ : Lambda.Shape} (hnamed : s.methodNamed? x = some m)
    (hsite : (Cond.lambdaSite x pc index σ).before a0 Z = true) (hcap : σ.captured = []) {g : JFrame} (hg : g.method = m) (hpc : g.pc = pc) (hsize : g.locals.size = c.maxLocals)
    (hdg : decode c.code g.pc = .ok (.invokedynamic index, 5)) (hwords : 2 * g.monitorRoom + (g.stack.map fun v => v.category).sum + 3072 ≤ R.locals) :
    ∃ (a : Addr) (cK : ClassId), Jvm.LamKit.Made Z x.cls σ cK ∧ FnV Z.heap a cK #[] ∧ ∀ target, Steps p.tables e below (T.setTop { g with pc := g.pc + 5, stack := .ref a :: g.stack }) target → Steps p.tables e below (T.setTop g) target := by
  obtain ⟨cK, one, hat⟩ := Cond.lambdaSite_spec hsite
  obtain ⟨mD, kD, cfD, i0, p0, lk, hmD, hkD, -, -, -, hfind, hmade, hcan, hl⟩ := State.lambdaAt?_spec hat
  cases hnamed.symm.trans (own_named hZ hmD)
  obtain ⟨kD', hkD', hnameD⟩ := className_of_methodNamed hmD
  cases hkD.symm.trans hkD'
  obtain ⟨kS, hkS, heS⟩ := hZ.alike.2.2 _ _ hkD
  rcases hl with ⟨a, cell, rfl, -, -, hcell, hcls, hvm, hslots⟩ | ⟨-, -, hne⟩
  · have hw : e.platform.lambdaLinkWords = 3072 := by rw [X.admits.platform]
    refine ⟨a, cK, ⟨_, kD, hkD, hnameD, hmade, hcan⟩, ⟨cell, hcell, hcls, hvm, hslots⟩, fun target h => ?_⟩
    exact X.lambdaConstant hexec hg hsize hdg hkS (by rw [hpc, heS]; exact hfind) (by rw [hw]; exact hwords) h
  · exact absurd hcap hne
/-- 'invokedynamic' at a site that captures vals -/
theorem own_siteMakes (X : Stand p l e R s m args below meth c T locs cells slots) (hexec : p.tables.exec = Jvm.exec) (hZ : Z.Warmed39 s.vm) {x : MethodName} {pc index fi : Nat} {σ : Lambda.Shape} (hnamed : s.methodNamed? x = some m)
    (hsite : (Cond.lambdaSite x pc index σ).before a0 Z = true) (hcap : σ.captured ≠ []) (hok : capOK σ x.cls fi 0 = true) (hO : (Cond.instantiable "java/lang/Object" 0).before a0 Z = true) (eT : T.heap = h)
    {g : JFrame} (hg : g.method = m) (hpc : g.pc = pc) (hsize : g.locals.size = c.maxLocals) (hdg : decode c.code g.pc = .ok (.invokedynamic index, 5))
    {vals rest : List Value} (hlen : vals.length = σ.captured.length) (hstack : g.stack = vals.reverse ++ rest) (hfit : ∀ (i : Nat) t v, σ.captured[i]? = some t → vals[i]? = some v → narrow t v = v ∧ fits t v = true)
    (hwords : 2 * g.monitorRoom + (g.stack.map fun v => v.category).sum + 3072 ≤ R.locals) {N : Nat} (hN : vals.length = N) (hcells : cells + 1 ≤ R.cells) (hslots : slots + N ≤ R.slots) :
    ∃ (T' : State) (h' : Heap) (cK : ClassId), Stand p l e R s m args below meth c T' locs (cells + 1) (slots + N) ∧ T'.heap = h' ∧ Ext h h' ∧ FnV h' h.size cK vals.toArray ∧ Jvm.LamKit.Made Z x.cls σ cK ∧
      ∀ target, Steps p.tables e below (T'.setTop { g with pc := g.pc + 5, stack := .ref h.size :: rest }) target → Steps p.tables e below (T.setTop g) target := by
  subst hN
  obtain ⟨cK, one, hat⟩ := Cond.lambdaSite_spec hsite
  obtain ⟨mD, kD, cfD, i0, p0, lk, hmD, hkD, hcfD, hsh, -, hfind, hmade, hcan, hl⟩ := State.lambdaAt?_spec hat
  cases hnamed.symm.trans (own_named hZ hmD)
  obtain ⟨kD', hkD', hnameD⟩ := className_of_methodNamed hmD
  cases hkD.symm.trans hkD'
  obtain ⟨kS, hkS, heS⟩ := hZ.alike.2.2 _ _ hkD
  rcases hl with ⟨a, cell, -, -, hc0, -⟩ | ⟨rfl, -, -⟩
  · exact absurd hc0 hcap
  · obtain ⟨b, nt, desc, site, h1, h2, h3, h4⟩ := shapeOf?_site hsh
    obtain ⟨kc, f, hkc, hkind, hty, -⟩ := made_cap hok hkD hnameD hmade (noFields hO (State.WarmedH.refl Z))
    obtain ⟨kc', hkc', hec⟩ := hZ.alike.2.2 _ _ hkc
    have hty' : kc'.instanceTypes = σ.captured.toArray := by rw [hec]; exact hty
    have hkind' : kc'.kind = .ordinary := by rw [hec]; exact hkind
    have hz : ((kc'.instanceTypes.toList.zip vals).map fun (t, v) => narrow t v) = vals := by rw [hty']; exact zip_narrow _ _ hlen fun i t v a b => (hfit i t v a b).1
    have hw : e.platform.lambdaLinkWords = 3072 := by rw [X.admits.platform]
    have q := X.lambdaMakes hexec hg hsize hdg (vals := vals) (rest := rest) hkS (by rw [hpc, heS]; exact hfind) (by rw [heS]; exact hcfD) h1 h2 (parseLong_of_parse h3) (by rw [h4]; exact hlen) hstack hkc' (by rw [hw]; exact hwords) hcells (by rw [hz]; exact hslots)
      (fun i v hv => by
        rw [hz] at hv
        have hv' : vals[i]? = some v := by simpa using hv
        have hi : i < σ.captured.length := by rw [← hlen]; exact (List.getElem?_eq_some_iff.mp hv').1
        have := (hfit i _ v (List.getElem?_eq_getElem hi) hv').2
        simp [State.fitsSlot, State.slotType?, hkc', hkind', hty', List.getElem?_eq_getElem hi, this])
    rw [hz] at q
    subst eT
    refine ⟨T.pushCell { cls := cK, slots := vals.toArray, vm := .none }, _, cK, by simpa using q.1, rfl, ⟨?_, fun a c1 h => ?_⟩, ⟨{ cls := cK, slots := vals.toArray, vm := .none }, ?_, rfl, rfl, rfl⟩, ⟨_, kD, hkD, hnameD, hmade, hcan⟩, q.2⟩
    · show T.heap.size ≤ (T.heap.push _).size
      simp
    · show (T.heap.push _)[a]? = _
      rw [Array.getElem?_push_lt (Array.getElem?_eq_some_iff.mp h).1]; exact (Array.getElem?_eq_getElem _).symm.trans h
    · show (T.heap.push _)[T.heap.size]? = _
      simp
theorem own_fit1 {C : String} {a : Addr} : ∀ (i : Nat) (t : FieldType) (v : Value), ([FieldType.object C] : List FieldType)[i]? = some t → ([Value.ref a] : List Value)[i]? = some v → narrow t v = v ∧ fits t v = true := by
  intro i t v h1 h2
  cases i with
  | zero => simp at h1 h2; subst h1; subst h2; exact ⟨rfl, rfl⟩
  | succ j => simp at h1
/-- in the forwarder: the captured value number i -/
theorem own_getCap (Y : Stand p l e R s m args below meth c T locs cells slots) (hexec : p.tables.exec = Jvm.exec) (hZ : Z.Warmed39 s.vm) {host : String} {σ : Lambda.Shape} {cK : ClassId} {fi i : Nat} (hm : m = ⟨cK, 1⟩)
    (hmd : Jvm.LamKit.Made Z host σ cK) (hok : capOK σ host fi i = true) (hO : (Cond.instantiable "java/lang/Object" 0).before a0 Z = true) {a : Addr} {vs : Array Value} {v : Value} (eT : T.heap = h) (F : FnV h a cK vs) (hv : vs[i]? = some v)
    {g : JFrame} (hg : g.method = m) {rest : List Value} (hstack : g.stack = .ref a :: rest) (hdg : decode c.code g.pc = .ok (.getfield fi, 3)) {target : State} (k : Steps p.tables e below (T.setTop { g with pc := g.pc + 3, stack := v :: rest }) target) : Steps p.tables e below (T.setTop g) target := by
  obtain ⟨d, dk, hd, hdn, hmade, -⟩ := hmd
  obtain ⟨kc, f, -, -, -, hready, hst, hsl⟩ := made_cap hok hd hdn hmade (noFields hO (State.WarmedH.refl Z))
  obtain ⟨cell, hcell, hcls, hvm, rfl⟩ := F
  have hr := own_fR (wtrans hZ Y.warmed) hready
  have hgk : g.method.cls = cK := by rw [hg, hm]
  subst hg
  jvm_step Y.here [hexec, hdg, getfield.wp_ready (e := e) (s := T) (f := g) (index := fi) (c := cK) (field := f) (a := a) (rest := rest) (cell := cell) (v := v) Y.here.top (by rw [hgk]; exact hr) hst hstack (by rw [eT]; exact hcell) (by rw [hvm]; decide) (by rw [hsl]; exact hv)]
  exact k
/-- the made class's entry cc names the class C -/
def castOK (σ : Lambda.Shape) (host : String) (cc : Nat) (C : String) : Bool :=
  match σ.file host with
  | none => false
  | some D =>
    match D.constantPool[cc]? with
    | some (.class_ n) => decide (D.constantPool.string? n = some C) && decide (cc ≠ D.thisClass)
    | _ => false
theorem own_castReady {σ : Lambda.Shape} {host C : String} {cc : Nat} {cK cC : ClassId} (hok : castOK σ host cc C = true) (hmd : Jvm.LamKit.Made Z host σ cK) (hC : Z.vm.findClass C = some cC) : Z.vm.classReady cK cc cC := by
  obtain ⟨d, dk, hd, hdn, hmade, -⟩ := hmd
  obtain ⟨dk', k, ok, tk, file, cf, object, iface, toy, lay, methods, target, found, hd', hk, hfile, hcf, -, -, -, -, -, -, -, -, -, -, -, -, -, -, -, -, -, -, hres, -⟩ := isMade_spec hmade
  cases hd.symm.trans hd'
  rw [hdn] at hcf
  unfold castOK at hok
  rw [hcf] at hok
  dsimp only at hok
  split at hok
  · rename_i n hc
    simp only [Bool.and_eq_true, decide_eq_true_eq] at hok
    exact ⟨k, hk, hres cc _ (resolvedOf_class hc hok.2 hok.1 hC)⟩
  · cases hok
theorem own_castR (Y : Stand p l e R s m args below meth c T locs cells slots) (hexec : p.tables.exec = Jvm.exec) (hZ : Z.Warmed39 s.vm) {host C : String} {σ : Lambda.Shape} {cK : ClassId} {cc : Nat} (hm : m = ⟨cK, 1⟩)
    (hmd : Jvm.LamKit.Made Z host σ cK) (hok : castOK σ host cc C = true) {a : Addr} (eT : T.heap = h) (F : Ins Z h a C true)
    {g : JFrame} (hg : g.method = m) {rest : List Value} (hstack : g.stack = .ref a :: rest) (hdg : decode c.code g.pc = .ok (.checkcast cc, 3)) {target : State} (k : Steps p.tables e below (T.setTop { g with pc := g.pc + 3 }) target) : Steps p.tables e below (T.setTop g) target := by
  obtain ⟨cell, cT, h1, h2, h3⟩ := F
  simp only [Bool.and_eq_true, Bool.not_eq_true'] at h3
  have hA := (wtrans hZ Y.warmed).alike
  have hr := own_cR (wtrans hZ Y.warmed) (own_castReady hok hmd h2)
  obtain ⟨kT, q1⟩ := Vm.classAt_of_findClass h2
  obtain ⟨kV, q2⟩ := Vm.classAt_of_assignable h3.2 ⟨kT, q1⟩
  obtain ⟨kT', q3, -⟩ := hA.2.2 _ _ q1
  obtain ⟨kV', q4, -⟩ := hA.2.2 _ _ q2
  have has : T.vm.assignable cell.cls cT = true := by rw [hA.assignable]; exact h3.2
  have hgk : g.method.cls = cK := by rw [hg, hm]
  subst hg
  jvm_step Y.here [hexec, hdg, checkcast.wp_ready (e := e) (s := T) (f := g) (index := cc) (c := cT) Y.here.top (by rw [hgk]; exact hr) hstack]
  refine ⟨cell, by rw [eT]; exact h1, VmData.noStatics_of h3.1, kV', q4, kT', q3, ?_⟩
  rw [if_pos has]
  exact k
theorem own_selP {y : MethodName} {n : Nat} (hins : (Cond.instantiable y.cls n).before args s = true) (hp : (Cond.privateMethod y).before args s = true) (hinst : (Cond.instanceMethod y).before args s = true) (hy : y.cls ≠ "java/lang/invoke/MethodHandle" ∧ y.cls ≠ "java/lang/invoke/VarHandle") : (Cond.selects y.cls y y).before args s = true := by
  obtain ⟨c, k, hc, hk, -, hniab, -, -⟩ := Cond.instantiable_spec hins
  exact Jvm.Stand.selects_self_of_private hc hk (Bool.or_eq_false_iff.mp hniab).1 (Cond.privateMethod_at hp) hinst hy
/-- **THE FORWARDER's CALL of an instance method, and its return.** -/
theorem own_fwdGo (Y : Stand p l e R s m args below meth c T [] 0 0) (hexec : p.tables.exec = Jvm.exec) (hZ : Z.Warmed39 s.vm) {host : String} {σ : Lambda.Shape} {cK : ClassId} (hm : m = ⟨cK, 1⟩) (hmd : Jvm.LamKit.Made Z host σ cK)
    {fcode : ByteArray} {fml idx ci pcI : Nat} {fret : Option FieldType} {op : Instr} (hok : fwdOK σ host fcode fml fret idx ci = true) (hby : c.code = fcode) (hml : c.maxLocals = fml) (hret : meth.sig.returnType = fret)
    {y : MethodName} {bytes : ByteArray} {maxL : Nat} {ret : Option FieldType} {rm : Room} {b : Addr} {argsT : List Value}
    (hM : MetFree l y (head1 [Cond.code y bytes maxL ret] rm) (fun a U => a = (Value.ref b :: argsT).toArray ∧ Z.Warmed39 U.vm ∧ U.heap = h) (fun _ _ _ _ _ => True) (fun _ U o U' => ∃ v L, o = .returned v ∧ Q v U'.heap L ∧ FrameEnd U o U' L rm.cells rm.slots))
    (wc : (Cond.code y bytes maxL ret).before a0 Z = true) (wz : (Cond.initialized y.cls).before a0 Z = true) (wi : (Cond.instanceMethod y).before a0 Z = true) {cN : Nat} (wn : (Cond.instantiable y.cls cN).before a0 Z = true)
    (hy : y.cls = σ.implClass ∧ y.name = σ.implName ∧ y.desc = σ.implDesc.toString) (hpoly : y.cls ≠ "java/lang/invoke/MethodHandle" ∧ y.cls ≠ "java/lang/invoke/VarHandle")
    (hsel : ∀ t cell, Z.methodNamed? y = some t → h[b]? = some cell → selectMethod {} Z.vm cell.cls t = .method t) (hcell : ∃ cell : Cell, h[b]? = some cell ∧ ∀ q, cell.vm ≠ .statics q)
    (eT : T.heap = h) (hdI : decode fcode pcI = .ok (.invokevirtual idx, 3)) (hdR : decode fcode (pcI + 3) = .ok (op, 1)) (hlenT : ∀ sig, parseMethodDescriptor y.desc = some sig → argsT.length = sig.parameters.length)
    (hout : ∀ v h L, Q v h L → RetOK fret op v) (hfr : rm.frames + 1 ≤ R.frames) (hlo : 0 + (maxL + 11) + rm.locals ≤ R.locals) (hc : 0 + rm.cells ≤ R.cells) (hs : 0 + rm.slots ≤ R.slots) {L0 : Array Slot} (hsz : L0.size = fml) {stk : List Value} (hstk : stk = argsT.reverse ++ [.ref b]) :
    Goes p l e R s m args below meth c Q T (mkF m pcI L0 stk) := by
  subst hstk
  subst hm
  obtain ⟨cell, hcell, hobj⟩ := hcell
  obtain ⟨d, dk, hd, hdn, hmade, -⟩ := hmd
  obtain ⟨y1, y2, y3⟩ := hy
  obtain ⟨t, methT, hnT, hmT, hstT, habT⟩ := Cond.instanceMethod_spec wi
  obtain ⟨methT', cT, hmT', -, -, -, -, -, -, hsigT⟩ := Cond.code_spec hnT wc
  cases hmT.symm.trans hmT'
  obtain ⟨kT, hkT, hnameT⟩ := className_of_methodNamed hnT
  obtain ⟨c1, k1, n1, n2, -, n3, -, -⟩ := Cond.instantiable_spec wn
  cases (findClass_of_methodNamed hnT).symm.trans n1
  cases hkT.symm.trans n2
  have hiT : kT.isInterface = false := (Bool.or_eq_false_iff.mp n3).1
  obtain ⟨kK, tk, file, methk, ck, toy, t1, nt, hkK, hpn, hfile, hidx, hnt, hmk, hck, hbytes, hmlk, hlk, -, hretk, htoy, htk, hlook, hready, hclsR⟩ := made_static hok hd hdn hmade
  have hfT : Z.vm.findClass σ.implClass = some t.cls := by rw [← y1]; exact findClass_of_methodNamed hnT
  cases htoy.symm.trans hfT
  cases htk.symm.trans hkT
  have ht1 : t1 = t := by
    have h1 : Z.methodFound? y.cls y.name y.desc = some t := State.methodFound?_of_named hnT hpoly
    rw [y1, y2, y3] at h1
    simp only [State.methodFound?, hfT, hkT, Option.bind_eq_bind, Option.bind_some] at h1
    rw [hlook] at h1
    exact Option.some.inj h1
  subst ht1
  have hZT : Z.Warmed39 T.vm := wtrans hZ Y.warmed
  have hA := hZT.alike
  obtain ⟨kK', hkK', heK⟩ := hA.2.2 _ _ hkK
  obtain ⟨kT', hkT', heT⟩ := hA.2.2 _ _ hkT
  have hK := backOf (R := R) (s := s) (args := args) (below := below) (p := p) (e := e) (len := 3) (W := 0) hM hZ wc wz hfr hlo
  obtain ⟨v, ⟨U', ls, cc, sl⟩, Y1, ⟨L, hq, q1, q2, q3⟩, hsteps⟩ := hK ⟨cK, 1⟩ meth c ⟨T, [], 0, 0⟩ (mkF ⟨cK, 1⟩ pcI L0 []) (.invokevirtual idx) t1 (Value.ref b :: argsT).toArray Y rfl (by rw [hml]; exact hsz) (by rw [hby]; exact hdI) (Nat.le_refl _) (own_named hZT hnT) ⟨rfl, eT, hc, hs⟩
  dsimp only [Pt.U, Pt.locs, Pt.cells, Pt.slots] at Y1 hq q1 q2 q3 hsteps
  subst q1 q2 q3
  have hro := hout _ _ _ hq
  have hdI' : decode c.code pcI = .ok (.invokevirtual idx, 3) := by rw [hby]; exact hdI
  refine ⟨U', v, _, _, _, Y1, hc, hs, fun h => ?_, by simpa using hq, fun fs hr => ?_⟩
  · rw [hret] at h
    rcases hro with ⟨t, w, e', -⟩ | ⟨w, e', -⟩ | ⟨t, w, e', -⟩ | ⟨-, -, e'⟩
    · rw [e'] at h; cases h
    · rw [e'] at h; cases h
    · rw [e'] at h; cases h
    · exact e'
  · have hfin := Jvm.LamKit.retOut Y1 hexec (pc := pcI + 3) (Ls := L0) hret hro (by rw [hby]; exact hdR) hr
    have hsp : signaturePolymorphic kT' methT = false := by
      have hn' : kT'.name = y.cls := by rw [heT]; exact hnameT
      simp [signaturePolymorphic, hn', hpoly.1, hpoly.2]
    show Steps p.tables e below (T.setTop { method := ⟨cK, 1⟩, pc := pcI, locals := L0, stack := argsT.reverse ++ [.ref b], locked := none }) _
    jvm_step Y.here [hexec, hdI', invokevirtual.wp_ready (e := e) (s := T) (f := { method := ⟨cK, 1⟩, pc := pcI, locals := L0, stack := argsT.reverse ++ [.ref b], locked := none }) (index := idx) (r := t1) (m := t1) (k := kT') (mk := kT') (rmeth := methT) (meth := methT) (args := argsT) (rest := []) (cell := cell) (a := b) Y.here.top
      ⟨kK', file, ci, nt, t1.cls, kT', hkK', by rw [heK]; exact hfile, hidx, own_cR hZT hclsR, hkT', by rw [heT]; exact hiT⟩ (own_mR hZT hready) hkT' (by rw [hA.method?]; exact hmT) hsp hstT (hlenT _ hsigT) rfl (by rw [eT]; exact hcell) hobj
      (by rw [Launch.admits_selectMethod Y.admits, hA.selectMethod]; exact hsel _ _ hnT hcell) (by rw [hA.method?]; exact hmT) habT hkT' (by rw [heT]; exact hiT)]
    intro acts
    rw [doInvoke_state]
    refine hsteps.trans ?_
    simpa using hfin
/-- **ONE invokeinterface ON A FUNCTION OBJECT**: the caller's step, the forwarder's body, and back. -/
theorem own_callFace (X : Stand p l e R s m args below meth c T locs cells slots) (hexec : p.tables.exec = Jvm.exec) (hZ : Z.Warmed39 s.vm) {own host : String} {index count : Nat} {xi : MethodName} {σ : Lambda.Shape}
    (hown : s.vm.findClass own = some m.cls) (wl : (Cond.methodLink own index xi).before a0 Z = true) (wd : (Cond.declares xi).before a0 Z = true) (wf : (Cond.interfaceMethod xi.cls xi.cls xi.name xi.desc).before a0 Z = true)
    (hxi : xi.cls = σ.iface ∧ xi.name = σ.name ∧ xi.desc = σ.sam.toString) (hpoly : xi.cls ≠ "java/lang/invoke/MethodHandle" ∧ xi.cls ≠ "java/lang/invoke/VarHandle")
    {a : Addr} {cK : ClassId} {vs : Array Value} (hmd : Jvm.LamKit.Made Z host σ cK) (eT : T.heap = h) (hfn : FnV h a cK vs) {fcode : ByteArray} {fml idx ci : Nat} {fret : Option FieldType} (hok : fwdOK σ host fcode fml fret idx ci = true)
    {g : JFrame} (hg : g.method = m) (hsize : g.locals.size = c.maxLocals) {argsL rest : List Value} (hlen : ∀ sig, parseMethodDescriptor xi.desc = some sig → argsL.length = sig.parameters.length) (hstack : g.stack = argsL.reverse ++ .ref a :: rest) (hdg : decode c.code g.pc = .ok (.invokeinterface index count, 5))
    {R' : Room} (hfr : R'.frames + 1 ≤ R.frames) (hlo : 2 * g.monitorRoom + (rest.map fun v => v.category).sum + (fml + 11) + R'.locals ≤ R.locals) (hcells : cells + R'.cells ≤ R.cells) (hslots : slots + R'.slots ≤ R.slots)
    (body : ∀ (s' U : State) (bl : List Frame) (methk : Method) (ck : Code), Stand p l e R' s' ⟨cK, 1⟩ (Value.ref a :: argsL).toArray bl methk ck U [] 0 0 → Z.Warmed39 s'.vm → U.heap = h → methk.sig.returnType = fret → ck.code = fcode → ck.maxLocals = fml →
      Goes p l e R' s' ⟨cK, 1⟩ (Value.ref a :: argsL).toArray bl methk ck Q U (entryFrame ⟨cK, 1⟩ (Value.ref a :: argsL).toArray fml)) :
    ∃ (v : Option Value) (T' : State) (L : List Loc), Stand p l e R s m args below meth c T' (locs ++ L) (cells + R'.cells) (slots + R'.slots) ∧ Q v T'.heap L ∧
      ∀ target, Steps p.tables e below (T'.setTop { g with pc := g.pc + 5, stack := v.toList ++ rest }) target → Steps p.tables e below (T.setTop g) target := by
  have hA := hZ.alike
  obtain ⟨cell, hcell, hcls, hvmc, -⟩ := hfn
  subst hcls
  obtain ⟨kK, methk, hkK, hmk, hpub, habs, hsel⟩ := madeSelects hmd hok wf hxi
  obtain ⟨r0, r, hn, hrm, hstR, hsigR⟩ := Cond.declares_spec wd
  obtain ⟨cL, kL, r1, hcL, hkL, hiL, -, -⟩ := Cond.interfaceMethod_spec wf
  have hr0cls : r0.cls = cL := Option.some.inj ((findClass_of_methodNamed hn).symm.trans hcL)
  obtain ⟨hasg, hsel', hway⟩ := hsel r0 r hn hrm
  obtain ⟨kL', hkL', heL⟩ := hA.2.2 _ _ hkL
  obtain ⟨kK', hkK', -⟩ := hA.2.2 _ _ hkK
  obtain ⟨vm1, X1, hstep1⟩ := X.invokeinterface hexec hown (mv hZ wl) (own_named hZ hn) (by rw [hA.method?]; exact hrm) hstR (by rw [hr0cls]; exact hkL') (by rw [heL]; exact hiL) hpoly (a := a) (cell := cell) (kcell := kK') (by rw [eT]; exact hcell) (fun z q => by rw [hvmc] at q; cases q) hkK' (by rw [hA.assignable]; exact hasg)
    (m' := ⟨cell.cls, 1⟩) (meth' := methk) (by rw [Launch.admits_selectMethod X.admits, hA.selectMethod]; exact hsel') (by rw [hA.method?]; exact hmk) (by simp only [hA.superclasses, hA.declaredIn]; exact hway) hpub habs hg (hlen _ hsigR) hstack hdg
  have hZ1 : Z.Warmed39 (T.setVm vm1).vm := wtrans hZ X1.warmed
  obtain ⟨d, dk, hd, hdn, hmade, -⟩ := hmd
  obtain ⟨kM, tk, file, methM, ck, toy, t1, nt, hkM, hpn, -, -, -, hmM, hck, hbytes, hmlk, hlk, -, hretk, -⟩ := made_static hok hd hdn hmade
  obtain ⟨kM', hkM', heM⟩ := hZ1.alike.2.2 _ _ hkM
  have hpk : (T.setVm vm1).plainMethod ⟨cell.cls, 1⟩ := State.plainMethod.of_name (fun k' hk' => by cases hkM'.symm.trans hk'; rw [heM]; exact hpn)
  obtain ⟨Y0, hin⟩ := X1.into (g := { g with stack := rest }) hg hsize hdg (Value.ref a :: argsL).toArray (R' := R') (by rw [hZ1.alike.method?]; exact hmM) hck hlk hpk hfr (by rw [hmlk]; exact hlo) hcells hslots
  rw [hmlk] at Y0 hin
  have hF := body _ _ _ _ _ Y0 hZ1 eT hretk hbytes hmlk
  obtain ⟨s2, o, hsteps, -, hended, v, L, rfl, hq, -, hWe, hsame⟩ := Goes.out hlk hF
  obtain ⟨T', X', -, -, ht⟩ := X1.outOf (g := { g with stack := rest }) hg hdg hended hWe hsame
  subst ht
  refine ⟨v, T', L, X', hq, fun target k => hstep1 _ fun acts => ?_⟩
  rw [hin acts]
  exact (Steps.weaken (mid := [.java { g with stack := rest }]) hsteps).trans k
end OwnLam
theorem own_fnull {s : State} {args : Array Value} {t : Term} {C n d : String} {a : Addr} (ev : t.eval args s none [] s = some (.ref a)) (h : (Jvm.Cond.eq (.field t C n d) .null).value args s none s [] = some true) : Fld s s.heap a C n d .null := by
  obtain ⟨x', y', e1, e2, k1, k2⟩ := cmp_v (Or.inl h)
  have e3 : y' = .null := by
    simp only [Term.eval] at e2
    exact (Option.some.inj e2).symm
  subst e3
  have e4 : x' = .null := by
    simp only [Cond.value, e1, e2] at h
    cases x' <;> simp_all
  subst e4
  rw [fld_at ev] at e1
  exact Fld.start e1
theorem own_cmp (x y : Int64) : (XT.cmpL x y).toInt = if y.toInt < x.toInt then 1 else if x.toInt = y.toInt then 0 else -1 := by
  unfold XT.cmpL
  simp only [Int64.lt_iff_toInt_lt, ← Int64.toInt_inj]
  split
  · decide
  · split <;> decide
theorem own_sub (x y : Int64) (h1 : - 2 ^ 63 ≤ x.toInt - y.toInt) (h2 : x.toInt - y.toInt < 2 ^ 63) : (x - y).toInt = x.toInt - y.toInt := by
  rw [Int64.toInt_sub]
  exact Int.bmod_eq_of_le (by omega) (by omega)
theorem own_sub0 {o e : Int64} (h : XT.cmpL o e = (0 : Int32)) : ¬ ((0 : Int32) < XT.cmpL (e - o) (0 : Int64)) := by
  have h1 := own_cmp o e
  rw [h] at h1
  have h0 : ((0 : Int32)).toInt = 0 := by decide
  rw [h0] at h1
  have q : o = e := by
    rw [← Int64.toInt_inj]
    split at h1
    · omega
    · split at h1
      · assumption
      · omega
  subst q
  rw [Int64.sub_self, cmpL_self]
  decide
theorem own_subp {o e : Int64} (ho : 0 ≤ o.toInt) (he : 0 ≤ e.toInt) (h1 : ¬ ((0 : Int32) < XT.cmpL o e)) (h2 : ¬ (XT.cmpL o e = (0 : Int32))) : (0 : Int32) < XT.cmpL (e - o) (0 : Int64) := by
  have c1 := own_cmp o e
  have c2 := own_cmp (e - o) 0
  have b1 := Int64.toInt_lt e
  have b2 := Int64.toInt_lt o
  have h0 : ((0 : Int32)).toInt = 0 := by decide
  have h00 : ((0 : Int64)).toInt = 0 := by decide
  rw [Int32.lt_iff_toInt_lt, h0] at h1 ⊢
  rw [← Int32.toInt_inj, h0] at h2
  rw [own_sub e o (by omega) (by omega), h00] at c2
  rw [c2]
  rw [c1] at h1 h2
  split at h1
  · omega
  · rename_i q
    rw [if_neg q] at h2
    split at h2
    · omega
    · rw [if_pos (by omega)]; omega
theorem own_max {t f : Int64} (h1 : - 2 ^ 63 ≤ t.toInt - f.toInt) (h2 : t.toInt - f.toInt < 2 ^ 63) : ((0 : Int32) < XT.cmpL t f) ↔ (XT.cmpL (0 : Int64) (t - f) < (0 : Int32)) := by
  have c1 := own_cmp t f
  have c2 := own_cmp 0 (t - f)
  have h0 : ((0 : Int32)).toInt = 0 := by decide
  have h00 : ((0 : Int64)).toInt = 0 := by decide
  rw [own_sub t f h1 h2, h00] at c2
  rw [Int32.lt_iff_toInt_lt, Int32.lt_iff_toInt_lt, h0, c1, c2]
  split <;> split <;> (try split) <;> (try split) <;> omega
theorem own_pos (x : Int64) : 0 ≤ (x &&& cMX).toInt := by
  have h : (x &&& cMX).toBitVec.msb = false := by
    rw [Int64.toBitVec_and, BitVec.msb_and, show cMX.toBitVec.msb = false by decide, Bool.and_false]
  show 0 ≤ (x &&& cMX).toBitVec.toInt
  rw [BitVec.toInt_eq_toNat_of_msb h]
  exact Int.natCast_nonneg _
theorem own_split2 (o e : Int64) : ((0 : Int32) < XT.cmpL o e) ∨ ¬ ((0 : Int32) < XT.cmpL o e) := Classical.em _
theorem own_split3 (o e : Int64) : ((0 : Int32) < XT.cmpL o e) ∨ (¬ ((0 : Int32) < XT.cmpL o e) ∧ XT.cmpL o e = (0 : Int32)) ∨ (¬ ((0 : Int32) < XT.cmpL o e) ∧ ¬ (XT.cmpL o e = (0 : Int32))) := by
  rcases Classical.em ((0 : Int32) < XT.cmpL o e) with h | h
  · exact Or.inl h
  · rcases Classical.em (XT.cmpL o e = (0 : Int32)) with q | q
    · exact Or.inr (Or.inl ⟨h, q⟩)
    · exact Or.inr (Or.inr ⟨h, q⟩)
theorem own_split4 (o e t f : Int64) : ((0 : Int32) < XT.cmpL o e) ∨ (¬ ((0 : Int32) < XT.cmpL o e) ∧ XT.cmpL o e = (0 : Int32)) ∨ (¬ ((0 : Int32) < XT.cmpL o e) ∧ ¬ (XT.cmpL o e = (0 : Int32)) ∧ (0 : Int32) < XT.cmpL t f) ∨ (¬ ((0 : Int32) < XT.cmpL o e) ∧ ¬ (XT.cmpL o e = (0 : Int32)) ∧ ¬ ((0 : Int32) < XT.cmpL t f)) := by
  rcases own_split3 o e with h | ⟨h, q⟩ | ⟨h, q⟩
  · exact Or.inl h
  · exact Or.inr (Or.inl ⟨h, q⟩)
  · rcases Classical.em ((0 : Int32) < XT.cmpL t f) with r | r
    · exact Or.inr (Or.inr (Or.inl ⟨h, q, r⟩))
    · exact Or.inr (Or.inr (Or.inr ⟨h, q, r⟩))
theorem own_c5 {u : Int32} (h : u = (0 : Int32) ∨ u = (1 : Int32)) (o e : Int64) : (u = (0 : Int32) ∧ (0 : Int32) < XT.cmpL o e) ∨ (u = (1 : Int32) ∧ (0 : Int32) < XT.cmpL o e) ∨ (u = (1 : Int32) ∧ ¬ ((0 : Int32) < XT.cmpL o e)) ∨ (u = (0 : Int32) ∧ ¬ ((0 : Int32) < XT.cmpL o e) ∧ XT.cmpL o e = (0 : Int32)) ∨ (u = (0 : Int32) ∧ ¬ ((0 : Int32) < XT.cmpL o e) ∧ ¬ (XT.cmpL o e = (0 : Int32))) := by
  rcases own_split3 o e with q | ⟨q, r⟩ | ⟨q, r⟩ <;> rcases h with h | h
  · exact Or.inl ⟨h, q⟩
  · exact Or.inr (Or.inl ⟨h, q⟩)
  · exact Or.inr (Or.inr (Or.inr (Or.inl ⟨h, q, r⟩)))
  · exact Or.inr (Or.inr (Or.inl ⟨h, q⟩))
  · exact Or.inr (Or.inr (Or.inr (Or.inr ⟨h, q, r⟩)))
  · exact Or.inr (Or.inr (Or.inl ⟨h, q⟩))
theorem own_lt0 {o e : Int64} (h1 : ¬ ((0 : Int32) < XT.cmpL o e)) (h2 : ¬ (XT.cmpL o e = (0 : Int32))) : XT.cmpL o e < (0 : Int32) := by
  rw [Int32.lt_iff_toInt_lt] at h1 ⊢
  rw [← Int32.toInt_inj] at h2
  have h0 : ((0 : Int32)).toInt = 0 := by decide
  rw [h0] at h1 h2 ⊢
  omega
theorem own_nlt0 {o e : Int64} (h : XT.cmpL o e = (0 : Int32)) : ¬ (XT.cmpL o e < (0 : Int32)) := by rw [h]; decide
theorem own_wsa {Z : State} {a0 : Array Value} (hw : ∀ d ∈ tables_1, d.before a0 Z = true) : ∀ a ∈ Bundle.stringAtoms, a.before a0 Z = true := by
  intro a ha
  simp only [Bundle.stringAtoms, List.mem_cons, List.not_mem_nil, or_false] at ha
  rcases ha with rfl | rfl | rfl | rfl | rfl | rfl | rfl
  · exact tw hw 26 rfl
  · exact tw hw 27 rfl
  · exact tw hw 28 rfl
  · exact tw hw 29 rfl
  · exact tw hw 30 rfl
  · exact tw hw 31 rfl
  · exact tw hw 32 rfl
def sgA : Jvm.Lambda.Shape := (Jvm.Lambda.Shape.mk "java/util/function/Function" "apply" (Jvm.ClassFile.MethodDescriptor.mk ([(Jvm.ClassFile.FieldType.object "java/lang/Object")] : List Jvm.ClassFile.FieldType) (Option.some (Jvm.ClassFile.FieldType.object "java/lang/Object"))) ([(Jvm.ClassFile.FieldType.object cPL)] : List Jvm.ClassFile.FieldType) (5 : Nat) cPL "lambda$timeLagMs$0" (Jvm.ClassFile.MethodDescriptor.mk ([(Jvm.ClassFile.FieldType.object cRR)] : List Jvm.ClassFile.FieldType) (Option.some (Jvm.ClassFile.FieldType.object cOL))) false (Jvm.ClassFile.MethodDescriptor.mk ([(Jvm.ClassFile.FieldType.object cRR)] : List Jvm.ClassFile.FieldType) (Option.some (Jvm.ClassFile.FieldType.object cOL))))
def sgP : Jvm.Lambda.Shape := (Jvm.Lambda.Shape.mk "java/util/function/Predicate" "test" (Jvm.ClassFile.MethodDescriptor.mk ([(Jvm.ClassFile.FieldType.object "java/lang/Object")] : List Jvm.ClassFile.FieldType) (Option.some Jvm.ClassFile.FieldType.boolean)) ([] : List Jvm.ClassFile.FieldType) (5 : Nat) cRR nOM (Jvm.ClassFile.MethodDescriptor.mk ([] : List Jvm.ClassFile.FieldType) (Option.some Jvm.ClassFile.FieldType.boolean)) false (Jvm.ClassFile.MethodDescriptor.mk ([(Jvm.ClassFile.FieldType.object cRR)] : List Jvm.ClassFile.FieldType) (Option.some Jvm.ClassFile.FieldType.boolean)))
def fwA : ByteArray := .mk #[0x2a, 0xb4, 0x00, 0x0f, 0x2b, 0xc0, 0x00, 0x13, 0xb6, 0x00, 0x19, 0xb0]
def fwP : ByteArray := .mk #[0x2b, 0xc0, 0x00, 0x0e, 0xb6, 0x00, 0x12, 0xac]
set_option maxRecDepth 65536 in
theorem okA : Jvm.LamKit.fwdOK sgA cPL fwA 2 (some (.object "java/lang/Object")) 25 21 = true := by decide +kernel
set_option maxRecDepth 65536 in
theorem okP : Jvm.LamKit.fwdOK sgP cPL fwP 2 (some .boolean) 18 14 = true := by decide +kernel
set_option maxRecDepth 65536 in
theorem cpA : Jvm.LamKit.capOK sgA cPL 15 0 = true := by decide +kernel
set_option maxRecDepth 65536 in
theorem ctA : castOK sgA cPL 19 cRR = true := by decide +kernel
set_option maxRecDepth 65536 in
theorem ctP : castOK sgP cPL 14 cRR = true := by decide +kernel
theorem fwA_0 : decode fwA 0 = .ok (.aload_n 0, 1) := by decide +kernel
theorem fwA_1 : decode fwA 1 = .ok (.getfield 15, 3) := by decide +kernel
theorem fwA_4 : decode fwA 4 = .ok (.aload_n 1, 1) := by decide +kernel
theorem fwA_5 : decode fwA 5 = .ok (.checkcast 19, 3) := by decide +kernel
theorem fwA_8 : decode fwA 8 = .ok (.invokevirtual 25, 3) := by decide +kernel
theorem fwA_11 : decode fwA 11 = .ok (.areturn, 1) := by decide +kernel
theorem fwP_0 : decode fwP 0 = .ok (.aload_n 1, 1) := by decide +kernel
theorem fwP_1 : decode fwP 1 = .ok (.checkcast 14, 3) := by decide +kernel
theorem fwP_4 : decode fwP 4 = .ok (.invokevirtual 18, 3) := by decide +kernel
theorem fwP_7 : decode fwP 7 = .ok (.ireturn, 1) := by decide +kernel
theorem bodyA {p : Program} {l : Launch} {e : Env} {R : Room} {s : State} {below : List Frame} {meth : Method} {c : Code} {U : State} {Z : State} {a0 : Array Value} {h : Heap} {Q : Option Value → Heap → List Loc → Prop} {cK : ClassId} {fa r th : Addr} {rm : Room} (hx : p.tables.exec = Jvm.exec) (Y : Stand p l e R s ⟨cK, 1⟩ #[.ref fa, .ref r] below meth c U [] 0 0) (hZ : Z.Warmed39 s.vm) (hw : ∀ d ∈ tables_1, d.before a0 Z = true) (md : Jvm.LamKit.Made Z cPL sgA cK) (hret : meth.sig.returnType = some (.object "java/lang/Object")) (hby : c.code = fwA) (hml : c.maxLocals = 2) (eU : U.heap = h)
    (G : FnV h fa cK #[.ref th]) (Er : Exa Z h r cRR) (Eth : Exa Z h th cPL) (hM : MetFree l Y0 (head1 [Cond.code Y0 prog_13_method_14_code 2 (some (.object cOL))] rm) (fun a U => a = #[.ref th, .ref r] ∧ Z.Warmed39 U.vm ∧ U.heap = h) (fun _ _ _ _ _ => True) (fun _ U o U' => ∃ v L, o = .returned v ∧ Q v U'.heap L ∧ FrameEnd U o U' L rm.cells rm.slots)) (hout : ∀ v h L, Q v h L → ∃ w, v = some (.ref w)) (hfr : rm.frames + 1 ≤ R.frames) (hlo : 0 + (2 + 11) + rm.locals ≤ R.locals) (hc : 0 + rm.cells ≤ R.cells) (hs : 0 + rm.slots ≤ R.slots) :
    Goes p l e R s ⟨cK, 1⟩ #[.ref fa, .ref r] below meth c Q U (entryFrame ⟨cK, 1⟩ #[.ref fa, .ref r] 2) := by
  refine Goes.cast (g2 := mkF ⟨cK, 1⟩ 0 #[rv fa, rv r] []) (by first | (simp [entryFrame, mkF, argsToLocals, Value.category]; done) | rfl) ?_
  refine Goes.step (T2 := U) (g2 := mkF ⟨cK, 1⟩ 1 #[rv fa, rv r] [(.ref fa)]) (fun _ hr => XS.aloadN Y.here hx rfl (hb hby fwA_0) rfl rfl hr) ?_
  refine Goes.step (T2 := U) (g2 := mkF ⟨cK, 1⟩ 4 #[rv fa, rv r] [(.ref th)]) (fun _ hr => own_getCap Y hx hZ rfl md cpA (tw hw 51 rfl) eU G (v := .ref th) rfl (g := mkF ⟨cK, 1⟩ 1 #[rv fa, rv r] [(.ref fa)]) rfl rfl (hb hby fwA_1) hr) ?_
  refine Goes.step (T2 := U) (g2 := mkF ⟨cK, 1⟩ 5 #[rv fa, rv r] [(.ref r), (.ref th)]) (fun _ hr => XS.aloadN Y.here hx rfl (hb hby fwA_4) rfl rfl hr) ?_
  refine Goes.step (T2 := U) (g2 := mkF ⟨cK, 1⟩ 8 #[rv fa, rv r] [(.ref r), (.ref th)]) (fun _ hr => own_castR Y hx hZ rfl md ctA eU (Ins.self Er) (g := mkF ⟨cK, 1⟩ 5 #[rv fa, rv r] [(.ref r), (.ref th)]) rfl rfl (hb hby fwA_5) hr) ?_
  obtain ⟨cl, kl, c1, c2, c3, c4, -⟩ := id Eth
  exact own_fwdGo Y hx hZ rfl md okA hby hml hret (argsT := [.ref r]) hM (tw hw 128 rfl) (tw hw 13 rfl) (tw hw 126 rfl) (tw hw 12 rfl) ⟨rfl, rfl, by decide +kernel⟩ (by decide) (fun t cell ht _ => by
      obtain ⟨t', mt, q1, q2, -, -⟩ := Cond.instanceMethod_spec (tw hw 126 rfl : (Jvm.Cond.instanceMethod Y0).before a0 Z = true)
      cases ht.symm.trans q1
      exact selectMethod_private q2 (Cond.privateMethod_at (tw hw 127 rfl : (Jvm.Cond.privateMethod Y0).before a0 Z = true) t mt q1 q2))
    ⟨cl, c1, fun q z => by rw [z] at c4; cases c4⟩ eU fwA_8 fwA_11 (lenOf pd_0 rfl) (fun v h L q => by obtain ⟨w, rfl⟩ := hout v h L q; exact Or.inr (Or.inr (Or.inl ⟨_, _, rfl, rfl, rfl, rfl, rfl⟩))) hfr hlo hc hs rfl rfl
theorem bodyP {p : Program} {l : Launch} {e : Env} {R : Room} {s : State} {below : List Frame} {meth : Method} {c : Code} {U : State} {Z : State} {a0 : Array Value} {h : Heap} {Q : Option Value → Heap → List Loc → Prop} {cK : ClassId} {fa r : Addr} {rm : Room} (hx : p.tables.exec = Jvm.exec) (Y : Stand p l e R s ⟨cK, 1⟩ #[.ref fa, .ref r] below meth c U [] 0 0) (hZ : Z.Warmed39 s.vm) (hw : ∀ d ∈ tables_1, d.before a0 Z = true) (md : Jvm.LamKit.Made Z cPL sgP cK) (hret : meth.sig.returnType = some .boolean) (hby : c.code = fwP) (hml : c.maxLocals = 2) (eU : U.heap = h)
    (Er : Exa Z h r cRR) (hM : MetFree l Y1 (head1 [Cond.code Y1 prog_14_method_5_code 1 (some .boolean)] rm) (fun a U => a = #[.ref r] ∧ Z.Warmed39 U.vm ∧ U.heap = h) (fun _ _ _ _ _ => True) (fun _ U o U' => ∃ v L, o = .returned v ∧ Q v U'.heap L ∧ FrameEnd U o U' L rm.cells rm.slots)) (hout : ∀ v h L, Q v h L → v = some (.int (0 : Int32)) ∨ v = some (.int (1 : Int32))) (hfr : rm.frames + 1 ≤ R.frames) (hlo : 0 + (1 + 11) + rm.locals ≤ R.locals) (hc : 0 + rm.cells ≤ R.cells) (hs : 0 + rm.slots ≤ R.slots) :
    Goes p l e R s ⟨cK, 1⟩ #[.ref fa, .ref r] below meth c Q U (entryFrame ⟨cK, 1⟩ #[.ref fa, .ref r] 2) := by
  refine Goes.cast (g2 := mkF ⟨cK, 1⟩ 0 #[rv fa, rv r] []) (by first | (simp [entryFrame, mkF, argsToLocals, Value.category]; done) | rfl) ?_
  refine Goes.step (T2 := U) (g2 := mkF ⟨cK, 1⟩ 1 #[rv fa, rv r] [(.ref r)]) (fun _ hr => XS.aloadN Y.here hx rfl (hb hby fwP_0) rfl rfl hr) ?_
  refine Goes.step (T2 := U) (g2 := mkF ⟨cK, 1⟩ 4 #[rv fa, rv r] [(.ref r)]) (fun _ hr => own_castR Y hx hZ rfl md ctP eU (Ins.self Er) (g := mkF ⟨cK, 1⟩ 1 #[rv fa, rv r] [(.ref r)]) rfl rfl (hb hby fwP_1) hr) ?_
  obtain ⟨cl, kl, c1, c2, c3, c4, -⟩ := id Er
  exact own_fwdGo Y hx hZ rfl md okP hby hml hret (argsT := []) hM (tw hw 178 rfl) (tw hw 96 rfl) (tw hw 177 rfl) (tw hw 95 rfl) ⟨rfl, rfl, by decide +kernel⟩ (by decide) (fun t cell ht hc => by
      cases c1.symm.trans hc
      obtain ⟨c5, r5, m5, q1, q2, q3, q4, -⟩ := Cond.selects_spec ((tw hw 176 rfl) : (Jvm.Cond.selects cRR Y1 Y1).before a0 Z = true)
      cases c2.symm.trans q1
      cases (State.methodFound?_of_named ht (by decide)).symm.trans q2
      cases ht.symm.trans q3
      exact q4)
    ⟨cl, c1, fun q z => by rw [z] at c4; cases c4⟩ eU fwP_4 fwP_7 (lenOf pd_1 rfl) (fun v h L q => by rcases hout v h L q with rfl | rfl <;> exact Or.inl ⟨_, _, rfl, by simp, rfl, rfl, rfl⟩) hfr hlo hc hs rfl rfl
theorem d0_0 : decode jdk_2650_method_3_code 0 = .ok (.aload_n 0, 1) := by decide +kernel
theorem d0_1 : decode jdk_2650_method_3_code 1 = .ok (.invokespecial 1, 3) := by decide +kernel
theorem d0_4 : decode jdk_2650_method_3_code 4 = .ok (.aload_n 0, 1) := by decide +kernel
theorem d0_5 : decode jdk_2650_method_3_code 5 = .ok (.iconst 1, 1) := by decide +kernel
theorem d0_6 : decode jdk_2650_method_3_code 6 = .ok (.putfield 7, 3) := by decide +kernel
theorem d0_9 : decode jdk_2650_method_3_code 9 = .ok (.aload_n 0, 1) := by decide +kernel
theorem d0_10 : decode jdk_2650_method_3_code 10 = .ok (.lload_n 1, 1) := by decide +kernel
theorem d0_11 : decode jdk_2650_method_3_code 11 = .ok (.putfield 13, 3) := by decide +kernel
theorem d0_14 : decode jdk_2650_method_3_code 14 = .ok (.return_, 1) := by decide +kernel
theorem pn_java_util_OptionalLong : plainName cOL = true := by first | (simp [plainName, overriddenIn]; done) | decide +kernel
def Q_rm_oli (Z : State) (a1 : Addr) (q1 : Int64) (h0 : Heap) (n0 : Nat) (v : Option Value) (h : Heap) (L : List Loc) : Prop := v = none ∧ Fr n0 L ∧ Keep h0 h [a1] ∧ Fld Z h a1 cOL nIP "Z" (.int (1 : Int32)) ∧ Fld Z h a1 cOL "value" "J" (.long q1)
set_option maxRecDepth 65536 in
set_option maxHeartbeats 40000000 in
theorem rm_oli (l : Launch) (Z : State) (a0 : Array Value) (hw : ∀ d ∈ tables_1, d.before a0 Z = true) (ws : List Jvm.Cond) (a1 : Addr) (q1 : Int64) (h0 : Heap) (n0 : Nat) (Z0 : n0 ≤ h0.size) (O0 : Old Z n0 h0) (E_a1 : Exa Z h0 a1 cOL) (F_a1_isPresent : Fld Z h0 a1 cOL nIP "Z" (.int (0 : Int32))) (F_a1_value : Fld Z h0 a1 cOL "value" "J" (.long (0 : Int64))) (ge_a1 : n0 ≤ a1) :
    MetFree l Y2 (head1 (Cond.code Y2 jdk_2650_method_3_code 3 none :: ws) r0) (fun a U => a = #[(.ref a1), (.long q1)] ∧ Z.Warmed39 U.vm ∧ U.heap = h0) (fun _ _ _ _ _ => True) (fun _ U o U' => ∃ v L, o = .returned v ∧ Q_rm_oli Z a1 q1 h0 n0 v U'.heap L ∧ FrameEnd U o U' L r0.cells r0.slots) := by
  refine MetFree.of_bodySF (plainFor_of_name pn_java_util_OptionalLong) hisR ?_
  intro p e s m args below meth c s₁ Bd hml0 hP hK
  obtain ⟨rfl, hZ, hh⟩ := hP
  have hx := Bd.exec
  have hby := Bd.bytes
  have hml : c.maxLocals = 3 := hml0
  have hown : s.vm.findClass cOL = some m.cls := findClass_of_methodNamed Bd.named
  have hnm := (name_of_methodNamed Bd.named Bd.method).1
  have X0 : Stand p l e r0 s m #[(.ref a1), (.long q1)] below meth c s₁ [] 0 0 := Stand.of_body Bd
  have e0 : s₁.heap = h0 := by rw [← hh, Bd.state]; rfl
  have N0 := Fr.nil n0
  refine Goes.out (l := l) (c := c) (R := r0) (Q := Q_rm_oli Z a1 q1 h0 n0) Bd.notSynchronized ?_
  refine Goes.cast (g2 := mkF m 0 #[rv a1, .val (.long q1), .second] []) (by first | (simp [entryFrame, mkF, argsToLocals, Value.category]; done) | rfl) ?_
  have K0 : Keep h0 h0 [a1] := Keep.refl h0 _
  refine gs s₁ (mkF m 1 #[rv a1, .val (.long q1), .second] [(.ref a1)]) (fun _ hr => XS.aloadN X0.here hx rfl (hb hby d0_0) rfl rfl hr) ?_
  obtain ⟨T2, X2, e2, st2⟩ := initO X0 hx hZ hown (tw hw 91 rfl) (tw hw 23 rfl) (tw hw 24 rfl) e0 (g := (mkF m 1 #[rv a1, .val (.long q1), .second] [(.ref a1)])) rfl (by rw [hml]; rfl) rfl (hb hby d0_1) (by decide) (W := 0) (wle rfl) (by decide)
  refine gs T2 (mkF m 4 #[rv a1, .val (.long q1), .second] []) st2 ?_
  refine gs T2 (mkF m 5 #[rv a1, .val (.long q1), .second] [(.ref a1)]) (fun _ hr => XS.aloadN X2.here hx rfl (hb hby d0_4) rfl rfl hr) ?_
  refine gs T2 (mkF m 6 #[rv a1, .val (.long q1), .second] [(.int (1 : Int32)), (.ref a1)]) (fun _ hr => XS.iconst X2.here hx rfl (hb hby d0_5) hr) ?_
  obtain ⟨T3, h3, X3, e3, W3, st3⟩ := putFN X2 hx hZ hown (tw hw 81 rfl) Via.refl e2 F_a1_isPresent E_a1 (Or.inr ⟨(tw hw 82 rfl), rfl, hnm⟩) (tw hw 87 rfl) (ty := .boolean) (v' := (.int (1 : Int32))) (by decide) rfl rfl (g := (mkF m 6 #[rv a1, .val (.long q1), .second] [(.int (1 : Int32)), (.ref a1)])) rfl rfl (hb hby d0_6)
  have E_a1_3 : Exa Z h3 a1 cOL := E_a1.wr W3
  have F_a1_value_3 : Fld Z h3 a1 cOL "value" "J" (.long (0 : Int64)) := F_a1_value.other W3 (Or.inr (slot_ne (Or.inr (tw hw 93 rfl)) (Or.inr (tw hw 82 rfl)) (by decide) (t := .long) (t' := .boolean) (by decide) (by decide)))
  have K3 : Keep h0 h3 [a1] := K0.wr W3 (Or.inl (List.mem_of_getElem? (i := 0) rfl))
  have N3 := Fr.snoc X3 N0 ge_a1
  have F_a1_isPresent_3 : Fld Z h3 a1 cOL nIP "Z" (.int (1 : Int32)) := F_a1_isPresent.same W3
  refine gs T3 (mkF m 9 #[rv a1, .val (.long q1), .second] []) st3 ?_
  refine gs T3 (mkF m 10 #[rv a1, .val (.long q1), .second] [(.ref a1)]) (fun _ hr => XS.aloadN X3.here hx rfl (hb hby d0_9) rfl rfl hr) ?_
  refine gs T3 (mkF m 11 #[rv a1, .val (.long q1), .second] [(.long q1), (.ref a1)]) (fun _ hr => XT.lloadN X3.here hx rfl (hb hby d0_10) rfl hr) ?_
  obtain ⟨T4, h4, X4, e4, W4, st4⟩ := putF X3 hx hZ hown (host := "") (Or.inl (tw hw 92 rfl)) Via.refl e3 F_a1_value_3 E_a1_3 (Or.inr ⟨(tw hw 93 rfl), rfl, hnm⟩) (tw hw 87 rfl) (ty := .long) (by decide) rfl rfl (g := (mkF m 11 #[rv a1, .val (.long q1), .second] [(.long q1), (.ref a1)])) rfl rfl (hb hby d0_11)
  have F_a1_isPresent_4 : Fld Z h4 a1 cOL nIP "Z" (.int (1 : Int32)) := F_a1_isPresent_3.other W4 (Or.inr (slot_ne (Or.inr (tw hw 82 rfl)) (Or.inr (tw hw 93 rfl)) (by decide) (t := .boolean) (t' := .long) (by decide) (by decide)))
  have K4 : Keep h0 h4 [a1] := K3.wr W4 (Or.inl (List.mem_of_getElem? (i := 0) rfl))
  have N4 := Fr.snoc X4 N3 ge_a1
  have F_a1_value_4 : Fld Z h4 a1 cOL "value" "J" (.long q1) := F_a1_value_3.same W4
  refine gs T4 (mkF m 14 #[rv a1, .val (.long q1), .second] []) st4 ?_
  exact Goes.ret (v := none) X4 (by decide) (by decide) (fun _ => rfl) (by show Q_rm_oli Z a1 q1 h0 n0 _ T4.heap _; rw [e4]; exact ⟨rfl, N4, K4, F_a1_isPresent_4, F_a1_value_4⟩) (fun fs hr => X4.returnOut hx Bd.returns (hb hby d0_14) hr)
theorem d1_0 : decode jdk_2650_method_4_code 0 = .ok (.new 8, 3) := by decide +kernel
theorem d1_3 : decode jdk_2650_method_4_code 3 = .ok (.dup, 1) := by decide +kernel
theorem d1_4 : decode jdk_2650_method_4_code 4 = .ok (.lload_n 0, 1) := by decide +kernel
theorem d1_5 : decode jdk_2650_method_4_code 5 = .ok (.invokespecial 21, 3) := by decide +kernel
theorem d1_8 : decode jdk_2650_method_4_code 8 = .ok (.areturn, 1) := by decide +kernel
def Q_rm_olof (Z : State) (q1 : Int64) (h0 : Heap) (n0 : Nat) (v : Option Value) (h : Heap) (L : List Loc) : Prop := ∃ w : Addr, v = some (.ref w) ∧ Fr n0 L ∧ Keep h0 h [] ∧ h0.size ≤ w ∧ Exa Z h w cOL ∧ Fld Z h w cOL nIP "Z" (.int (1 : Int32)) ∧ Fld Z h w cOL "value" "J" (.long q1)
set_option maxRecDepth 65536 in
set_option maxHeartbeats 40000000 in
theorem rm_olof (l : Launch) (Z : State) (a0 : Array Value) (hw : ∀ d ∈ tables_1, d.before a0 Z = true) (ws : List Jvm.Cond) (q1 : Int64) (h0 : Heap) (n0 : Nat) (Z0 : n0 ≤ h0.size) (O0 : Old Z n0 h0) :
    MetFree l Y3 (head1 (Cond.code Y3 jdk_2650_method_4_code 2 (some (.object cOL)) :: ws) r1) (fun a U => a = #[(.long q1)] ∧ Z.Warmed39 U.vm ∧ U.heap = h0) (fun _ _ _ _ _ => True) (fun _ U o U' => ∃ v L, o = .returned v ∧ Q_rm_olof Z q1 h0 n0 v U'.heap L ∧ FrameEnd U o U' L r1.cells r1.slots) := by
  refine MetFree.of_bodySF (plainFor_of_name pn_java_util_OptionalLong) hisR ?_
  intro p e s m args below meth c s₁ Bd hml0 hP hK
  obtain ⟨rfl, hZ, hh⟩ := hP
  have hx := Bd.exec
  have hby := Bd.bytes
  have hml : c.maxLocals = 2 := hml0
  have hown : s.vm.findClass cOL = some m.cls := findClass_of_methodNamed Bd.named
  have hnm := (name_of_methodNamed Bd.named Bd.method).1
  have X0 : Stand p l e r1 s m #[(.long q1)] below meth c s₁ [] 0 0 := Stand.of_body Bd
  have e0 : s₁.heap = h0 := by rw [← hh, Bd.state]; rfl
  have N0 := Fr.nil n0
  refine Goes.out (l := l) (c := c) (R := r1) (Q := Q_rm_olof Z q1 h0 n0) Bd.notSynchronized ?_
  refine Goes.cast (g2 := mkF m 0 #[.val (.long q1), .second] []) (by first | (simp [entryFrame, mkF, argsToLocals, Value.category]; done) | rfl) ?_
  have K0 : Keep h0 h0 [] := Keep.refl h0 _
  have hws : ∀ x ∈ ([] : List Addr), n0 ≤ x := all0
  obtain ⟨T5, h5, X5, e5, E5, A5, D5, -, st5⟩ := newO X0 hx hZ hown (tw hw 86 rfl) (tw hw 87 rfl) (tw hw 3 rfl) e0 (g := (mkF m 0 #[.val (.long q1), .second] [])) rfl (hb hby d1_0) (by decide) (by decide)
  obtain ⟨b5, g5⟩ : ∃ z, z = h0.size := ⟨_, rfl⟩
  rw [← g5] at A5 D5 st5
  have sz_b5 : h0.size ≤ b5 := Nat.le_trans K0.1 (Nat.le_of_eq g5.symm)
  have ge_b5 : n0 ≤ b5 := Nat.le_trans Z0 sz_b5
  have K5 : Keep h0 h5 [] := K0.ext E5
  have F_b5_isPresent_5 : Fld Z h5 b5 cOL nIP "Z" (.int (0 : Int32)) := D5 (Or.inr (tw hw 82 rfl)) (ty := .boolean) (by decide)
  have F_b5_value_5 : Fld Z h5 b5 cOL "value" "J" (.long (0 : Int64)) := D5 (Or.inr (tw hw 93 rfl)) (ty := .long) (by decide)
  refine gs T5 (mkF m 3 #[.val (.long q1), .second] [(.ref b5)]) st5 ?_
  refine gs T5 (mkF m 4 #[.val (.long q1), .second] [(.ref b5), (.ref b5)]) (fun _ hr => XS.dup X5.here hx rfl (hb hby d1_3) rfl rfl hr) ?_
  refine gs T5 (mkF m 5 #[.val (.long q1), .second] [(.long q1), (.ref b5), (.ref b5)]) (fun _ hr => XT.lloadN X5.here hx rfl (hb hby d1_4) rfl hr) ?_
  have Zs6 : n0 ≤ h5.size := Nat.le_trans Z0 K5.1
  obtain ⟨_, _, ⟨T7, L7, k7, n7⟩, -, X7, ⟨Lc7, hQ7, l7, y7, z7⟩, st7⟩ := X5.specialBack hx (y := Y2) rfl hown (mvT hZ (tw hw 88 rfl)) (mvT hZ (tw hw 89 rfl)) (mvT hZ (tw hw 90 rfl)) (by decide) (backOf (W := 1) (rm_oli l Z a0 hw [] b5 q1 h5 n0 Zs6 (Old.keep O0 K5 hws) A5 F_b5_isPresent_5 F_b5_value_5 ge_b5) hZ (tw hw 90 rfl) (tw hw 3 rfl) (by decide) (by decide)) (g := (mkF m 5 #[.val (.long q1), .second] [(.long q1), (.ref b5), (.ref b5)])) rfl (by rw [hml]; rfl) (Steps.refl _) (a := b5) (argsL := [(.long q1)]) (rest := [(.ref b5)]) (lenOf pd_2 rfl) rfl (wle rfl) (hb hby d1_5) (fun _ _ => ⟨rfl, e5, (by decide : 1 + 0 ≤ _), (by decide : 2 + 0 ≤ _)⟩)
  dsimp only [Pt.U, Pt.locs, Pt.cells, Pt.slots] at X7 l7 y7 z7 st7 hQ7
  subst l7 y7 z7
  obtain ⟨rfl, N7q, Kc7, P7_0, P7_1⟩ := hQ7
  have N7 := Fr.app N0 N7q
  have E_b5_7 : Exa Z T7.heap b5 cOL := A5.keep Kc7
  have K7 : Keep h0 T7.heap [] := K5.trans Kc7 (allS (Or.inr sz_b5) all0)
  have F_b5_isPresent_7c : Fld Z T7.heap b5 cOL nIP "Z" (.int (1 : Int32)) := P7_0
  have F_b5_value_7c : Fld Z T7.heap b5 cOL "value" "J" (.long q1) := P7_1
  refine gs T7 (mkF m 8 #[.val (.long q1), .second] [(.ref b5)]) (fun _ hr => st7.trans hr) ?_
  exact Goes.ret (v := some (.ref b5)) X7 (by decide) (by decide) (fun h => by rw [Bd.returns] at h; cases h) (by show Q_rm_olof Z q1 h0 n0 _ T7.heap _; exact ⟨b5, rfl, N7, K7, sz_b5, E_b5_7, F_b5_isPresent_7c, F_b5_value_7c⟩) (fun fs hr => retOut X7 hx Bd.returns rfl (Or.inr (Or.inr (Or.inr (Or.inr ⟨rfl, rfl, rfl⟩)))) (hb hby d1_8) hr)
theorem d2_0 : decode jdk_2650_method_2_code 0 = .ok (.getstatic 17, 3) := by decide +kernel
theorem d2_3 : decode jdk_2650_method_2_code 3 = .ok (.areturn, 1) := by decide +kernel
def Q_rm_olem (Z : State) (em : Addr) (h0 : Heap) (n0 : Nat) (v : Option Value) (h : Heap) (L : List Loc) : Prop := v = some (.ref em) ∧ Fr n0 L ∧ h = h0
set_option maxRecDepth 65536 in
set_option maxHeartbeats 40000000 in
theorem rm_olem (l : Launch) (Z : State) (a0 : Array Value) (hw : ∀ d ∈ tables_1, d.before a0 Z = true) (ws : List Jvm.Cond) (em : Addr) (h0 : Heap) (n0 : Nat) (Z0 : n0 ≤ h0.size) (O0 : Old Z n0 h0) (S_OptionalLong_EMPTY_old : Sta Z Z.heap cOL "EMPTY" dOL (.ref em)) :
    MetFree l Y4 (head1 (Cond.code Y4 jdk_2650_method_2_code 0 (some (.object cOL)) :: ws) r2) (fun a U => a = #[] ∧ Z.Warmed39 U.vm ∧ U.heap = h0) (fun _ _ _ _ _ => True) (fun _ U o U' => ∃ v L, o = .returned v ∧ Q_rm_olem Z em h0 n0 v U'.heap L ∧ FrameEnd U o U' L r2.cells r2.slots) := by
  refine MetFree.of_bodySF (plainFor_of_name pn_java_util_OptionalLong) hisR ?_
  intro p e s m args below meth c s₁ Bd hml0 hP hK
  obtain ⟨rfl, hZ, hh⟩ := hP
  have hx := Bd.exec
  have hby := Bd.bytes
  have hml : c.maxLocals = 0 := hml0
  have hown : s.vm.findClass cOL = some m.cls := findClass_of_methodNamed Bd.named
  have hnm := (name_of_methodNamed Bd.named Bd.method).1
  have X0 : Stand p l e r2 s m #[] below meth c s₁ [] 0 0 := Stand.of_body Bd
  have e0 : s₁.heap = h0 := by rw [← hh, Bd.state]; rfl
  have N0 := Fr.nil n0
  refine Goes.out (l := l) (c := c) (R := r2) (Q := Q_rm_olem Z em h0 n0) Bd.notSynchronized ?_
  refine Goes.cast (g2 := mkF m 0 #[] []) (by first | (simp [entryFrame, mkF, argsToLocals, Value.category]; done) | rfl) ?_
  have K0 : Keep h0 h0 [] := Keep.refl h0 _
  have hws : ∀ x ∈ ([] : List Addr), n0 ≤ x := all0
  obtain ⟨T8, X8, e8, st8⟩ := getS2 X0 hx hZ hown (host := "") (Or.inl (tw hw 5 rfl)) Via.refl e0 (S_OptionalLong_EMPTY_old.ext (Old.keep O0 K0 hws).2) (g := (mkF m 0 #[] [])) rfl (hb hby d2_0)
  refine gs T8 (mkF m 3 #[] [(.ref em)]) st8 ?_
  exact Goes.ret (v := some (.ref em)) X8 (by decide) (by decide) (fun h => by rw [Bd.returns] at h; cases h) ⟨rfl, N0, e8⟩ (fun fs hr => retOut X8 hx Bd.returns rfl (Or.inr (Or.inr (Or.inr (Or.inr ⟨rfl, rfl, rfl⟩)))) (hb hby d2_3) hr)
theorem d3_0 : decode jdk_2650_method_6_code 0 = .ok (.aload_n 0, 1) := by decide +kernel
theorem d3_1 : decode jdk_2650_method_6_code 1 = .ok (.getfield 7, 3) := by decide +kernel
theorem d3_4 : decode jdk_2650_method_6_code 4 = .ok (.ireturn, 1) := by decide +kernel
def Q_rm_olp0 (Z : State) (a1 : Addr) (h0 : Heap) (n0 : Nat) (v : Option Value) (h : Heap) (L : List Loc) : Prop := v = some (.int (0 : Int32)) ∧ Fr n0 L ∧ h = h0
set_option maxRecDepth 65536 in
set_option maxHeartbeats 40000000 in
theorem rm_olp0 (l : Launch) (Z : State) (a0 : Array Value) (hw : ∀ d ∈ tables_1, d.before a0 Z = true) (ws : List Jvm.Cond) (a1 : Addr) (h0 : Heap) (n0 : Nat) (Z0 : n0 ≤ h0.size) (O0 : Old Z n0 h0) (F_a1_isPresent : Fld Z h0 a1 cOL nIP "Z" (.int (0 : Int32))) :
    MetFree l Y5 (head1 (Cond.code Y5 jdk_2650_method_6_code 1 (some .boolean) :: ws) r2) (fun a U => a = #[(.ref a1)] ∧ Z.Warmed39 U.vm ∧ U.heap = h0) (fun _ _ _ _ _ => True) (fun _ U o U' => ∃ v L, o = .returned v ∧ Q_rm_olp0 Z a1 h0 n0 v U'.heap L ∧ FrameEnd U o U' L r2.cells r2.slots) := by
  refine MetFree.of_bodySF (plainFor_of_name pn_java_util_OptionalLong) hisR ?_
  intro p e s m args below meth c s₁ Bd hml0 hP hK
  obtain ⟨rfl, hZ, hh⟩ := hP
  have hx := Bd.exec
  have hby := Bd.bytes
  have hml : c.maxLocals = 1 := hml0
  have hown : s.vm.findClass cOL = some m.cls := findClass_of_methodNamed Bd.named
  have hnm := (name_of_methodNamed Bd.named Bd.method).1
  have X0 : Stand p l e r2 s m #[(.ref a1)] below meth c s₁ [] 0 0 := Stand.of_body Bd
  have e0 : s₁.heap = h0 := by rw [← hh, Bd.state]; rfl
  have N0 := Fr.nil n0
  refine Goes.out (l := l) (c := c) (R := r2) (Q := Q_rm_olp0 Z a1 h0 n0) Bd.notSynchronized ?_
  refine Goes.cast (g2 := mkF m 0 #[rv a1] []) (by first | (simp [entryFrame, mkF, argsToLocals, Value.category]; done) | rfl) ?_
  refine gs s₁ (mkF m 1 #[rv a1] [(.ref a1)]) (fun _ hr => XS.aloadN X0.here hx rfl (hb hby d3_0) rfl rfl hr) ?_
  obtain ⟨T9, X9, e9, st9⟩ := getF X0 hx hZ hown (host := "") (Or.inl (tw hw 81 rfl)) Via.refl e0 F_a1_isPresent (g := (mkF m 1 #[rv a1] [(.ref a1)])) rfl rfl (hb hby d3_1)
  refine gs T9 (mkF m 4 #[rv a1] [(.int (0 : Int32))]) st9 ?_
  exact Goes.ret (v := some (.int (0 : Int32))) X9 (by decide) (by decide) (fun h => by rw [Bd.returns] at h; cases h) ⟨rfl, N0, e9⟩ (fun fs hr => retN X9 hx (t := .boolean) Bd.returns (by simp) (hb hby d3_4) hr)
theorem d4_0 : decode jdk_2650_method_7_code 0 = .ok (.aload_n 0, 1) := by decide +kernel
theorem d4_1 : decode jdk_2650_method_7_code 1 = .ok (.getfield 7, 3) := by decide +kernel
theorem d4_4 : decode jdk_2650_method_7_code 4 = .ok (.ifCond .ne 7, 3) := by decide +kernel
theorem d4_7 : decode jdk_2650_method_7_code 7 = .ok (.iconst 1, 1) := by decide +kernel
theorem d4_8 : decode jdk_2650_method_7_code 8 = .ok (.goto 4, 3) := by decide +kernel
theorem d4_12 : decode jdk_2650_method_7_code 12 = .ok (.ireturn, 1) := by decide +kernel
def Q_rm_ole0 (Z : State) (a1 : Addr) (h0 : Heap) (n0 : Nat) (v : Option Value) (h : Heap) (L : List Loc) : Prop := v = some (.int (1 : Int32)) ∧ Fr n0 L ∧ h = h0
set_option maxRecDepth 65536 in
set_option maxHeartbeats 40000000 in
theorem rm_ole0 (l : Launch) (Z : State) (a0 : Array Value) (hw : ∀ d ∈ tables_1, d.before a0 Z = true) (ws : List Jvm.Cond) (a1 : Addr) (h0 : Heap) (n0 : Nat) (Z0 : n0 ≤ h0.size) (O0 : Old Z n0 h0) (F_a1_isPresent : Fld Z h0 a1 cOL nIP "Z" (.int (0 : Int32))) :
    MetFree l Y6 (head1 (Cond.code Y6 jdk_2650_method_7_code 1 (some .boolean) :: ws) r2) (fun a U => a = #[(.ref a1)] ∧ Z.Warmed39 U.vm ∧ U.heap = h0) (fun _ _ _ _ _ => True) (fun _ U o U' => ∃ v L, o = .returned v ∧ Q_rm_ole0 Z a1 h0 n0 v U'.heap L ∧ FrameEnd U o U' L r2.cells r2.slots) := by
  refine MetFree.of_bodySF (plainFor_of_name pn_java_util_OptionalLong) hisR ?_
  intro p e s m args below meth c s₁ Bd hml0 hP hK
  obtain ⟨rfl, hZ, hh⟩ := hP
  have hx := Bd.exec
  have hby := Bd.bytes
  have hml : c.maxLocals = 1 := hml0
  have hown : s.vm.findClass cOL = some m.cls := findClass_of_methodNamed Bd.named
  have hnm := (name_of_methodNamed Bd.named Bd.method).1
  have X0 : Stand p l e r2 s m #[(.ref a1)] below meth c s₁ [] 0 0 := Stand.of_body Bd
  have e0 : s₁.heap = h0 := by rw [← hh, Bd.state]; rfl
  have N0 := Fr.nil n0
  refine Goes.out (l := l) (c := c) (R := r2) (Q := Q_rm_ole0 Z a1 h0 n0) Bd.notSynchronized ?_
  refine Goes.cast (g2 := mkF m 0 #[rv a1] []) (by first | (simp [entryFrame, mkF, argsToLocals, Value.category]; done) | rfl) ?_
  refine gs s₁ (mkF m 1 #[rv a1] [(.ref a1)]) (fun _ hr => XS.aloadN X0.here hx rfl (hb hby d4_0) rfl rfl hr) ?_
  obtain ⟨T10, X10, e10, st10⟩ := getF X0 hx hZ hown (host := "") (Or.inl (tw hw 81 rfl)) Via.refl e0 F_a1_isPresent (g := (mkF m 1 #[rv a1] [(.ref a1)])) rfl rfl (hb hby d4_1)
  refine gs T10 (mkF m 4 #[rv a1] [(.int (0 : Int32))]) st10 ?_
  refine gs T10 (mkF m 7 #[rv a1] []) (fun _ hr => XS.ifNo X10.here hx rfl (hb hby d4_4) rfl ((if0 _ _).trans (teq (by decide : (0 : Int32) = (0 : Int32))).2) hr) ?_
  refine gs T10 (mkF m 8 #[rv a1] [(.int (1 : Int32))]) (fun _ hr => XS.iconst X10.here hx rfl (hb hby d4_7) hr) ?_
  refine gs T10 (mkF m 12 #[rv a1] [(.int (1 : Int32))]) (fun _ hr => XS.goto X10.here hx rfl (pc0 := 8) (pc' := 12) rfl (hb hby d4_8) (by decide) (by decide) hr) ?_
  exact Goes.ret (v := some (.int (1 : Int32))) X10 (by decide) (by decide) (fun h => by rw [Bd.returns] at h; cases h) ⟨rfl, N0, e10⟩ (fun fs hr => retN X10 hx (t := .boolean) Bd.returns (by simp) (hb hby d4_12) hr)
def Q_rm_olp1 (Z : State) (a1 : Addr) (h0 : Heap) (n0 : Nat) (v : Option Value) (h : Heap) (L : List Loc) : Prop := v = some (.int (1 : Int32)) ∧ Fr n0 L ∧ h = h0
set_option maxRecDepth 65536 in
set_option maxHeartbeats 40000000 in
theorem rm_olp1 (l : Launch) (Z : State) (a0 : Array Value) (hw : ∀ d ∈ tables_1, d.before a0 Z = true) (ws : List Jvm.Cond) (a1 : Addr) (h0 : Heap) (n0 : Nat) (Z0 : n0 ≤ h0.size) (O0 : Old Z n0 h0) (F_a1_isPresent : Fld Z h0 a1 cOL nIP "Z" (.int (1 : Int32))) :
    MetFree l Y5 (head1 (Cond.code Y5 jdk_2650_method_6_code 1 (some .boolean) :: ws) r2) (fun a U => a = #[(.ref a1)] ∧ Z.Warmed39 U.vm ∧ U.heap = h0) (fun _ _ _ _ _ => True) (fun _ U o U' => ∃ v L, o = .returned v ∧ Q_rm_olp1 Z a1 h0 n0 v U'.heap L ∧ FrameEnd U o U' L r2.cells r2.slots) := by
  refine MetFree.of_bodySF (plainFor_of_name pn_java_util_OptionalLong) hisR ?_
  intro p e s m args below meth c s₁ Bd hml0 hP hK
  obtain ⟨rfl, hZ, hh⟩ := hP
  have hx := Bd.exec
  have hby := Bd.bytes
  have hml : c.maxLocals = 1 := hml0
  have hown : s.vm.findClass cOL = some m.cls := findClass_of_methodNamed Bd.named
  have hnm := (name_of_methodNamed Bd.named Bd.method).1
  have X0 : Stand p l e r2 s m #[(.ref a1)] below meth c s₁ [] 0 0 := Stand.of_body Bd
  have e0 : s₁.heap = h0 := by rw [← hh, Bd.state]; rfl
  have N0 := Fr.nil n0
  refine Goes.out (l := l) (c := c) (R := r2) (Q := Q_rm_olp1 Z a1 h0 n0) Bd.notSynchronized ?_
  refine Goes.cast (g2 := mkF m 0 #[rv a1] []) (by first | (simp [entryFrame, mkF, argsToLocals, Value.category]; done) | rfl) ?_
  refine gs s₁ (mkF m 1 #[rv a1] [(.ref a1)]) (fun _ hr => XS.aloadN X0.here hx rfl (hb hby d3_0) rfl rfl hr) ?_
  obtain ⟨T11, X11, e11, st11⟩ := getF X0 hx hZ hown (host := "") (Or.inl (tw hw 81 rfl)) Via.refl e0 F_a1_isPresent (g := (mkF m 1 #[rv a1] [(.ref a1)])) rfl rfl (hb hby d3_1)
  refine gs T11 (mkF m 4 #[rv a1] [(.int (1 : Int32))]) st11 ?_
  exact Goes.ret (v := some (.int (1 : Int32))) X11 (by decide) (by decide) (fun h => by rw [Bd.returns] at h; cases h) ⟨rfl, N0, e11⟩ (fun fs hr => retN X11 hx (t := .boolean) Bd.returns (by simp) (hb hby d3_4) hr)
theorem d4_11 : decode jdk_2650_method_7_code 11 = .ok (.iconst 0, 1) := by decide +kernel
def Q_rm_ole1 (Z : State) (a1 : Addr) (h0 : Heap) (n0 : Nat) (v : Option Value) (h : Heap) (L : List Loc) : Prop := v = some (.int (0 : Int32)) ∧ Fr n0 L ∧ h = h0
set_option maxRecDepth 65536 in
set_option maxHeartbeats 40000000 in
theorem rm_ole1 (l : Launch) (Z : State) (a0 : Array Value) (hw : ∀ d ∈ tables_1, d.before a0 Z = true) (ws : List Jvm.Cond) (a1 : Addr) (h0 : Heap) (n0 : Nat) (Z0 : n0 ≤ h0.size) (O0 : Old Z n0 h0) (F_a1_isPresent : Fld Z h0 a1 cOL nIP "Z" (.int (1 : Int32))) :
    MetFree l Y6 (head1 (Cond.code Y6 jdk_2650_method_7_code 1 (some .boolean) :: ws) r2) (fun a U => a = #[(.ref a1)] ∧ Z.Warmed39 U.vm ∧ U.heap = h0) (fun _ _ _ _ _ => True) (fun _ U o U' => ∃ v L, o = .returned v ∧ Q_rm_ole1 Z a1 h0 n0 v U'.heap L ∧ FrameEnd U o U' L r2.cells r2.slots) := by
  refine MetFree.of_bodySF (plainFor_of_name pn_java_util_OptionalLong) hisR ?_
  intro p e s m args below meth c s₁ Bd hml0 hP hK
  obtain ⟨rfl, hZ, hh⟩ := hP
  have hx := Bd.exec
  have hby := Bd.bytes
  have hml : c.maxLocals = 1 := hml0
  have hown : s.vm.findClass cOL = some m.cls := findClass_of_methodNamed Bd.named
  have hnm := (name_of_methodNamed Bd.named Bd.method).1
  have X0 : Stand p l e r2 s m #[(.ref a1)] below meth c s₁ [] 0 0 := Stand.of_body Bd
  have e0 : s₁.heap = h0 := by rw [← hh, Bd.state]; rfl
  have N0 := Fr.nil n0
  refine Goes.out (l := l) (c := c) (R := r2) (Q := Q_rm_ole1 Z a1 h0 n0) Bd.notSynchronized ?_
  refine Goes.cast (g2 := mkF m 0 #[rv a1] []) (by first | (simp [entryFrame, mkF, argsToLocals, Value.category]; done) | rfl) ?_
  refine gs s₁ (mkF m 1 #[rv a1] [(.ref a1)]) (fun _ hr => XS.aloadN X0.here hx rfl (hb hby d4_0) rfl rfl hr) ?_
  obtain ⟨T12, X12, e12, st12⟩ := getF X0 hx hZ hown (host := "") (Or.inl (tw hw 81 rfl)) Via.refl e0 F_a1_isPresent (g := (mkF m 1 #[rv a1] [(.ref a1)])) rfl rfl (hb hby d4_1)
  refine gs T12 (mkF m 4 #[rv a1] [(.int (1 : Int32))]) st12 ?_
  refine gs T12 (mkF m 11 #[rv a1] []) (fun _ hr => XS.ifYes X12.here hx rfl (pc0 := 4) (pc' := 11) rfl (hb hby d4_4) rfl ((if0 _ _).trans (feq (by decide : ¬ ((1 : Int32) = (0 : Int32)))).2) (by decide) (by decide) hr) ?_
  refine gs T12 (mkF m 12 #[rv a1] [(.int (0 : Int32))]) (fun _ hr => XS.iconst X12.here hx rfl (hb hby d4_11) hr) ?_
  exact Goes.ret (v := some (.int (0 : Int32))) X12 (by decide) (by decide) (fun h => by rw [Bd.returns] at h; cases h) ⟨rfl, N0, e12⟩ (fun fs hr => retN X12 hx (t := .boolean) Bd.returns (by simp) (hb hby d4_12) hr)
theorem d5_0 : decode jdk_2650_method_5_code 0 = .ok (.aload_n 0, 1) := by decide +kernel
theorem d5_1 : decode jdk_2650_method_5_code 1 = .ok (.getfield 7, 3) := by decide +kernel
theorem d5_4 : decode jdk_2650_method_5_code 4 = .ok (.ifCond .ne 13, 3) := by decide +kernel
theorem d5_17 : decode jdk_2650_method_5_code 17 = .ok (.aload_n 0, 1) := by decide +kernel
theorem d5_18 : decode jdk_2650_method_5_code 18 = .ok (.getfield 13, 3) := by decide +kernel
theorem d5_21 : decode jdk_2650_method_5_code 21 = .ok (.lreturn, 1) := by decide +kernel
def Q_rm_olg (Z : State) (a1 : Addr) (q1 : Int64) (h0 : Heap) (n0 : Nat) (v : Option Value) (h : Heap) (L : List Loc) : Prop := v = some (.long q1) ∧ Fr n0 L ∧ h = h0
set_option maxRecDepth 65536 in
set_option maxHeartbeats 40000000 in
theorem rm_olg (l : Launch) (Z : State) (a0 : Array Value) (hw : ∀ d ∈ tables_1, d.before a0 Z = true) (ws : List Jvm.Cond) (a1 : Addr) (q1 : Int64) (h0 : Heap) (n0 : Nat) (Z0 : n0 ≤ h0.size) (O0 : Old Z n0 h0) (F_a1_isPresent : Fld Z h0 a1 cOL nIP "Z" (.int (1 : Int32))) (F_a1_value : Fld Z h0 a1 cOL "value" "J" (.long q1)) :
    MetFree l Y7 (head1 (Cond.code Y7 jdk_2650_method_5_code 1 (some .long) :: ws) r2) (fun a U => a = #[(.ref a1)] ∧ Z.Warmed39 U.vm ∧ U.heap = h0) (fun _ _ _ _ _ => True) (fun _ U o U' => ∃ v L, o = .returned v ∧ Q_rm_olg Z a1 q1 h0 n0 v U'.heap L ∧ FrameEnd U o U' L r2.cells r2.slots) := by
  refine MetFree.of_bodySF (plainFor_of_name pn_java_util_OptionalLong) hisR ?_
  intro p e s m args below meth c s₁ Bd hml0 hP hK
  obtain ⟨rfl, hZ, hh⟩ := hP
  have hx := Bd.exec
  have hby := Bd.bytes
  have hml : c.maxLocals = 1 := hml0
  have hown : s.vm.findClass cOL = some m.cls := findClass_of_methodNamed Bd.named
  have hnm := (name_of_methodNamed Bd.named Bd.method).1
  have X0 : Stand p l e r2 s m #[(.ref a1)] below meth c s₁ [] 0 0 := Stand.of_body Bd
  have e0 : s₁.heap = h0 := by rw [← hh, Bd.state]; rfl
  have N0 := Fr.nil n0
  refine Goes.out (l := l) (c := c) (R := r2) (Q := Q_rm_olg Z a1 q1 h0 n0) Bd.notSynchronized ?_
  refine Goes.cast (g2 := mkF m 0 #[rv a1] []) (by first | (simp [entryFrame, mkF, argsToLocals, Value.category]; done) | rfl) ?_
  refine gs s₁ (mkF m 1 #[rv a1] [(.ref a1)]) (fun _ hr => XS.aloadN X0.here hx rfl (hb hby d5_0) rfl rfl hr) ?_
  obtain ⟨T13, X13, e13, st13⟩ := getF X0 hx hZ hown (host := "") (Or.inl (tw hw 81 rfl)) Via.refl e0 F_a1_isPresent (g := (mkF m 1 #[rv a1] [(.ref a1)])) rfl rfl (hb hby d5_1)
  refine gs T13 (mkF m 4 #[rv a1] [(.int (1 : Int32))]) st13 ?_
  refine gs T13 (mkF m 17 #[rv a1] []) (fun _ hr => XS.ifYes X13.here hx rfl (pc0 := 4) (pc' := 17) rfl (hb hby d5_4) rfl ((if0 _ _).trans (feq (by decide : ¬ ((1 : Int32) = (0 : Int32)))).2) (by decide) (by decide) hr) ?_
  refine gs T13 (mkF m 18 #[rv a1] [(.ref a1)]) (fun _ hr => XS.aloadN X13.here hx rfl (hb hby d5_17) rfl rfl hr) ?_
  obtain ⟨T14, X14, e14, st14⟩ := getF X13 hx hZ hown (host := "") (Or.inl (tw hw 92 rfl)) Via.refl e13 F_a1_value (g := (mkF m 18 #[rv a1] [(.ref a1)])) rfl rfl (hb hby d5_18)
  refine gs T14 (mkF m 21 #[rv a1] [(.long q1)]) st14 ?_
  exact Goes.ret (v := some (.long q1)) X14 (by decide) (by decide) (fun h => by rw [Bd.returns] at h; cases h) ⟨rfl, N0, e14⟩ (fun fs hr => retOut X14 hx Bd.returns rfl (Or.inr (Or.inl ⟨rfl, rfl, _, rfl⟩)) (hb hby d5_21) hr)
theorem d6_0 : decode jdk_2650_method_11_code 0 = .ok (.aload_n 0, 1) := by decide +kernel
theorem d6_1 : decode jdk_2650_method_11_code 1 = .ok (.getfield 7, 3) := by decide +kernel
theorem d6_4 : decode jdk_2650_method_11_code 4 = .ok (.ifCond .eq 10, 3) := by decide +kernel
theorem d6_7 : decode jdk_2650_method_11_code 7 = .ok (.aload_n 0, 1) := by decide +kernel
theorem d6_8 : decode jdk_2650_method_11_code 8 = .ok (.getfield 13, 3) := by decide +kernel
theorem d6_11 : decode jdk_2650_method_11_code 11 = .ok (.goto 4, 3) := by decide +kernel
theorem d6_15 : decode jdk_2650_method_11_code 15 = .ok (.lreturn, 1) := by decide +kernel
def Q_rm_olo1 (Z : State) (a1 : Addr) (q1 : Int64) (q2 : Int64) (h0 : Heap) (n0 : Nat) (v : Option Value) (h : Heap) (L : List Loc) : Prop := v = some (.long q1) ∧ Fr n0 L ∧ h = h0
set_option maxRecDepth 65536 in
set_option maxHeartbeats 40000000 in
theorem rm_olo1 (l : Launch) (Z : State) (a0 : Array Value) (hw : ∀ d ∈ tables_1, d.before a0 Z = true) (ws : List Jvm.Cond) (a1 : Addr) (q1 : Int64) (q2 : Int64) (h0 : Heap) (n0 : Nat) (Z0 : n0 ≤ h0.size) (O0 : Old Z n0 h0) (F_a1_isPresent : Fld Z h0 a1 cOL nIP "Z" (.int (1 : Int32))) (F_a1_value : Fld Z h0 a1 cOL "value" "J" (.long q1)) :
    MetFree l Y8 (head1 (Cond.code Y8 jdk_2650_method_11_code 3 (some .long) :: ws) r2) (fun a U => a = #[(.ref a1), (.long q2)] ∧ Z.Warmed39 U.vm ∧ U.heap = h0) (fun _ _ _ _ _ => True) (fun _ U o U' => ∃ v L, o = .returned v ∧ Q_rm_olo1 Z a1 q1 q2 h0 n0 v U'.heap L ∧ FrameEnd U o U' L r2.cells r2.slots) := by
  refine MetFree.of_bodySF (plainFor_of_name pn_java_util_OptionalLong) hisR ?_
  intro p e s m args below meth c s₁ Bd hml0 hP hK
  obtain ⟨rfl, hZ, hh⟩ := hP
  have hx := Bd.exec
  have hby := Bd.bytes
  have hml : c.maxLocals = 3 := hml0
  have hown : s.vm.findClass cOL = some m.cls := findClass_of_methodNamed Bd.named
  have hnm := (name_of_methodNamed Bd.named Bd.method).1
  have X0 : Stand p l e r2 s m #[(.ref a1), (.long q2)] below meth c s₁ [] 0 0 := Stand.of_body Bd
  have e0 : s₁.heap = h0 := by rw [← hh, Bd.state]; rfl
  have N0 := Fr.nil n0
  refine Goes.out (l := l) (c := c) (R := r2) (Q := Q_rm_olo1 Z a1 q1 q2 h0 n0) Bd.notSynchronized ?_
  refine Goes.cast (g2 := mkF m 0 #[rv a1, .val (.long q2), .second] []) (by first | (simp [entryFrame, mkF, argsToLocals, Value.category]; done) | rfl) ?_
  refine gs s₁ (mkF m 1 #[rv a1, .val (.long q2), .second] [(.ref a1)]) (fun _ hr => XS.aloadN X0.here hx rfl (hb hby d6_0) rfl rfl hr) ?_
  obtain ⟨T15, X15, e15, st15⟩ := getF X0 hx hZ hown (host := "") (Or.inl (tw hw 81 rfl)) Via.refl e0 F_a1_isPresent (g := (mkF m 1 #[rv a1, .val (.long q2), .second] [(.ref a1)])) rfl rfl (hb hby d6_1)
  refine gs T15 (mkF m 4 #[rv a1, .val (.long q2), .second] [(.int (1 : Int32))]) st15 ?_
  refine gs T15 (mkF m 7 #[rv a1, .val (.long q2), .second] []) (fun _ hr => XS.ifNo X15.here hx rfl (hb hby d6_4) rfl ((if0 _ _).trans (feq (by decide : ¬ ((1 : Int32) = (0 : Int32)))).1) hr) ?_
  refine gs T15 (mkF m 8 #[rv a1, .val (.long q2), .second] [(.ref a1)]) (fun _ hr => XS.aloadN X15.here hx rfl (hb hby d6_7) rfl rfl hr) ?_
  obtain ⟨T16, X16, e16, st16⟩ := getF X15 hx hZ hown (host := "") (Or.inl (tw hw 92 rfl)) Via.refl e15 F_a1_value (g := (mkF m 8 #[rv a1, .val (.long q2), .second] [(.ref a1)])) rfl rfl (hb hby d6_8)
  refine gs T16 (mkF m 11 #[rv a1, .val (.long q2), .second] [(.long q1)]) st16 ?_
  refine gs T16 (mkF m 15 #[rv a1, .val (.long q2), .second] [(.long q1)]) (fun _ hr => XS.goto X16.here hx rfl (pc0 := 11) (pc' := 15) rfl (hb hby d6_11) (by decide) (by decide) hr) ?_
  exact Goes.ret (v := some (.long q1)) X16 (by decide) (by decide) (fun h => by rw [Bd.returns] at h; cases h) ⟨rfl, N0, e16⟩ (fun fs hr => retOut X16 hx Bd.returns rfl (Or.inr (Or.inl ⟨rfl, rfl, _, rfl⟩)) (hb hby d6_15) hr)
theorem d6_14 : decode jdk_2650_method_11_code 14 = .ok (.lload_n 1, 1) := by decide +kernel
def Q_rm_olo0 (Z : State) (a1 : Addr) (q2 : Int64) (h0 : Heap) (n0 : Nat) (v : Option Value) (h : Heap) (L : List Loc) : Prop := v = some (.long q2) ∧ Fr n0 L ∧ h = h0
set_option maxRecDepth 65536 in
set_option maxHeartbeats 40000000 in
theorem rm_olo0 (l : Launch) (Z : State) (a0 : Array Value) (hw : ∀ d ∈ tables_1, d.before a0 Z = true) (ws : List Jvm.Cond) (a1 : Addr) (q2 : Int64) (h0 : Heap) (n0 : Nat) (Z0 : n0 ≤ h0.size) (O0 : Old Z n0 h0) (F_a1_isPresent : Fld Z h0 a1 cOL nIP "Z" (.int (0 : Int32))) :
    MetFree l Y8 (head1 (Cond.code Y8 jdk_2650_method_11_code 3 (some .long) :: ws) r2) (fun a U => a = #[(.ref a1), (.long q2)] ∧ Z.Warmed39 U.vm ∧ U.heap = h0) (fun _ _ _ _ _ => True) (fun _ U o U' => ∃ v L, o = .returned v ∧ Q_rm_olo0 Z a1 q2 h0 n0 v U'.heap L ∧ FrameEnd U o U' L r2.cells r2.slots) := by
  refine MetFree.of_bodySF (plainFor_of_name pn_java_util_OptionalLong) hisR ?_
  intro p e s m args below meth c s₁ Bd hml0 hP hK
  obtain ⟨rfl, hZ, hh⟩ := hP
  have hx := Bd.exec
  have hby := Bd.bytes
  have hml : c.maxLocals = 3 := hml0
  have hown : s.vm.findClass cOL = some m.cls := findClass_of_methodNamed Bd.named
  have hnm := (name_of_methodNamed Bd.named Bd.method).1
  have X0 : Stand p l e r2 s m #[(.ref a1), (.long q2)] below meth c s₁ [] 0 0 := Stand.of_body Bd
  have e0 : s₁.heap = h0 := by rw [← hh, Bd.state]; rfl
  have N0 := Fr.nil n0
  refine Goes.out (l := l) (c := c) (R := r2) (Q := Q_rm_olo0 Z a1 q2 h0 n0) Bd.notSynchronized ?_
  refine Goes.cast (g2 := mkF m 0 #[rv a1, .val (.long q2), .second] []) (by first | (simp [entryFrame, mkF, argsToLocals, Value.category]; done) | rfl) ?_
  refine gs s₁ (mkF m 1 #[rv a1, .val (.long q2), .second] [(.ref a1)]) (fun _ hr => XS.aloadN X0.here hx rfl (hb hby d6_0) rfl rfl hr) ?_
  obtain ⟨T17, X17, e17, st17⟩ := getF X0 hx hZ hown (host := "") (Or.inl (tw hw 81 rfl)) Via.refl e0 F_a1_isPresent (g := (mkF m 1 #[rv a1, .val (.long q2), .second] [(.ref a1)])) rfl rfl (hb hby d6_1)
  refine gs T17 (mkF m 4 #[rv a1, .val (.long q2), .second] [(.int (0 : Int32))]) st17 ?_
  refine gs T17 (mkF m 14 #[rv a1, .val (.long q2), .second] []) (fun _ hr => XS.ifYes X17.here hx rfl (pc0 := 4) (pc' := 14) rfl (hb hby d6_4) rfl ((if0 _ _).trans (teq (by decide : (0 : Int32) = (0 : Int32))).1) (by decide) (by decide) hr) ?_
  refine gs T17 (mkF m 15 #[rv a1, .val (.long q2), .second] [(.long q2)]) (fun _ hr => XT.lloadN X17.here hx rfl (hb hby d6_14) rfl hr) ?_
  exact Goes.ret (v := some (.long q2)) X17 (by decide) (by decide) (fun h => by rw [Bd.returns] at h; cases h) ⟨rfl, N0, e17⟩ (fun fs hr => retOut X17 hx Bd.returns rfl (Or.inr (Or.inl ⟨rfl, rfl, _, rfl⟩)) (hb hby d6_15) hr)
theorem d7_0 : decode jdk_31_method_11_code 0 = .ok (.aload_n 0, 1) := by decide +kernel
theorem d7_1 : decode jdk_31_method_11_code 1 = .ok (.ifnonnull 12, 3) := by decide +kernel
theorem d7_13 : decode jdk_31_method_11_code 13 = .ok (.aload_n 0, 1) := by decide +kernel
theorem d7_14 : decode jdk_31_method_11_code 14 = .ok (.areturn, 1) := by decide +kernel
theorem pn_java_util_Objects : plainName "java/util/Objects" = true := by first | (simp [plainName, overriddenIn]; done) | decide +kernel
def Q_rm_rnn2 (Z : State) (a1 : Addr) (a2 : Addr) (h0 : Heap) (n0 : Nat) (v : Option Value) (h : Heap) (L : List Loc) : Prop := v = some (.ref a1) ∧ Fr n0 L ∧ h = h0
set_option maxRecDepth 65536 in
set_option maxHeartbeats 40000000 in
theorem rm_rnn2 (l : Launch) (Z : State) (a0 : Array Value) (hw : ∀ d ∈ tables_1, d.before a0 Z = true) (ws : List Jvm.Cond) (a1 : Addr) (a2 : Addr) (h0 : Heap) (n0 : Nat) (Z0 : n0 ≤ h0.size) (O0 : Old Z n0 h0) :
    MetFree l Y9 (head1 (Cond.code Y9 jdk_31_method_11_code 2 (some (.object "java/lang/Object")) :: ws) r2) (fun a U => a = #[(.ref a1), (.ref a2)] ∧ Z.Warmed39 U.vm ∧ U.heap = h0) (fun _ _ _ _ _ => True) (fun _ U o U' => ∃ v L, o = .returned v ∧ Q_rm_rnn2 Z a1 a2 h0 n0 v U'.heap L ∧ FrameEnd U o U' L r2.cells r2.slots) := by
  refine MetFree.of_bodySF (plainFor_of_name pn_java_util_Objects) hisR ?_
  intro p e s m args below meth c s₁ Bd hml0 hP hK
  obtain ⟨rfl, hZ, hh⟩ := hP
  have hx := Bd.exec
  have hby := Bd.bytes
  have hml : c.maxLocals = 2 := hml0
  have hown : s.vm.findClass "java/util/Objects" = some m.cls := findClass_of_methodNamed Bd.named
  have hnm := (name_of_methodNamed Bd.named Bd.method).1
  have X0 : Stand p l e r2 s m #[(.ref a1), (.ref a2)] below meth c s₁ [] 0 0 := Stand.of_body Bd
  have e0 : s₁.heap = h0 := by rw [← hh, Bd.state]; rfl
  have N0 := Fr.nil n0
  refine Goes.out (l := l) (c := c) (R := r2) (Q := Q_rm_rnn2 Z a1 a2 h0 n0) Bd.notSynchronized ?_
  refine Goes.cast (g2 := mkF m 0 #[rv a1, rv a2] []) (by first | (simp [entryFrame, mkF, argsToLocals, Value.category]; done) | rfl) ?_
  refine gs s₁ (mkF m 1 #[rv a1, rv a2] [(.ref a1)]) (fun _ hr => XS.aloadN X0.here hx rfl (hb hby d7_0) rfl rfl hr) ?_
  refine gs s₁ (mkF m 13 #[rv a1, rv a2] []) (fun _ hr => XT.ifnonnullYes X0.here hx rfl (pc0 := 1) (pc' := 13) rfl (hb hby d7_1) rfl (by decide) (by decide) hr) ?_
  refine gs s₁ (mkF m 14 #[rv a1, rv a2] [(.ref a1)]) (fun _ hr => XS.aloadN X0.here hx rfl (hb hby d7_13) rfl rfl hr) ?_
  exact Goes.ret (v := some (.ref a1)) X0 (by decide) (by decide) (fun h => by rw [Bd.returns] at h; cases h) ⟨rfl, N0, e0⟩ (fun fs hr => retOut X0 hx Bd.returns rfl (Or.inr (Or.inr (Or.inr (Or.inr ⟨rfl, rfl, rfl⟩)))) (hb hby d7_14) hr)
theorem d8_0 : decode jdk_30_method_1_code 0 = .ok (.aload_n 0, 1) := by decide +kernel
theorem d8_1 : decode jdk_30_method_1_code 1 = .ok (.invokespecial 1, 3) := by decide +kernel
theorem d8_4 : decode jdk_30_method_1_code 4 = .ok (.return_, 1) := by decide +kernel
theorem pn_java_lang_Record : plainName cRec = true := by first | (simp [plainName, overriddenIn]; done) | decide +kernel
def Q_rm_rec (Z : State) (a1 : Addr) (h0 : Heap) (n0 : Nat) (v : Option Value) (h : Heap) (L : List Loc) : Prop := v = none ∧ Fr n0 L ∧ h = h0
set_option maxRecDepth 65536 in
set_option maxHeartbeats 40000000 in
theorem rm_rec (l : Launch) (Z : State) (a0 : Array Value) (hw : ∀ d ∈ tables_1, d.before a0 Z = true) (ws : List Jvm.Cond) (a1 : Addr) (h0 : Heap) (n0 : Nat) (Z0 : n0 ≤ h0.size) (O0 : Old Z n0 h0) :
    MetFree l Y10 (head1 (Cond.code Y10 jdk_30_method_1_code 1 none :: ws) r0) (fun a U => a = #[(.ref a1)] ∧ Z.Warmed39 U.vm ∧ U.heap = h0) (fun _ _ _ _ _ => True) (fun _ U o U' => ∃ v L, o = .returned v ∧ Q_rm_rec Z a1 h0 n0 v U'.heap L ∧ FrameEnd U o U' L r0.cells r0.slots) := by
  refine MetFree.of_bodySF (plainFor_of_name pn_java_lang_Record) hisR ?_
  intro p e s m args below meth c s₁ Bd hml0 hP hK
  obtain ⟨rfl, hZ, hh⟩ := hP
  have hx := Bd.exec
  have hby := Bd.bytes
  have hml : c.maxLocals = 1 := hml0
  have hown : s.vm.findClass cRec = some m.cls := findClass_of_methodNamed Bd.named
  have hnm := (name_of_methodNamed Bd.named Bd.method).1
  have X0 : Stand p l e r0 s m #[(.ref a1)] below meth c s₁ [] 0 0 := Stand.of_body Bd
  have e0 : s₁.heap = h0 := by rw [← hh, Bd.state]; rfl
  have N0 := Fr.nil n0
  refine Goes.out (l := l) (c := c) (R := r0) (Q := Q_rm_rec Z a1 h0 n0) Bd.notSynchronized ?_
  refine Goes.cast (g2 := mkF m 0 #[rv a1] []) (by first | (simp [entryFrame, mkF, argsToLocals, Value.category]; done) | rfl) ?_
  refine gs s₁ (mkF m 1 #[rv a1] [(.ref a1)]) (fun _ hr => XS.aloadN X0.here hx rfl (hb hby d8_0) rfl rfl hr) ?_
  obtain ⟨T19, X19, e19, st19⟩ := initO X0 hx hZ hown (tw hw 22 rfl) (tw hw 23 rfl) (tw hw 24 rfl) e0 (g := (mkF m 1 #[rv a1] [(.ref a1)])) rfl (by rw [hml]; rfl) rfl (hb hby d8_1) (by decide) (W := 0) (wle rfl) (by decide)
  refine gs T19 (mkF m 4 #[rv a1] []) st19 ?_
  exact Goes.ret (v := none) X19 (by decide) (by decide) (fun _ => rfl) ⟨rfl, N0, e19⟩ (fun fs hr => X19.returnOut hx Bd.returns (hb hby d8_4) hr)
theorem d9_0 : decode prog_14_method_5_code 0 = .ok (.aload_n 0, 1) := by decide +kernel
theorem d9_1 : decode prog_14_method_5_code 1 = .ok (.getfield 17, 3) := by decide +kernel
theorem d9_4 : decode prog_14_method_5_code 4 = .ok (.ireturn, 1) := by decide +kernel
theorem pn_com_example_log_lag_gauge_loglaggauge_model_PositionLag_RecordsRead : plainName cRR = true := by first | (simp [plainName, overriddenIn]; done) | decide +kernel
def Q_rm_onlyMarkersLeft0 (Z : State) (a1 : Addr) (h0 : Heap) (n0 : Nat) (v : Option Value) (h : Heap) (L : List Loc) : Prop := v = some (.int (0 : Int32)) ∧ Fr n0 L ∧ h = h0
set_option maxRecDepth 65536 in
set_option maxHeartbeats 40000000 in
theorem rm_onlyMarkersLeft0 (l : Launch) (Z : State) (a0 : Array Value) (hw : ∀ d ∈ tables_1, d.before a0 Z = true) (ws : List Jvm.Cond) (a1 : Addr) (h0 : Heap) (n0 : Nat) (Z0 : n0 ≤ h0.size) (O0 : Old Z n0 h0) (F_a1_onlyMarkersLeft : Fld Z h0 a1 cRR nOM "Z" (.int (0 : Int32))) :
    MetFree l Y1 (head1 (Cond.code Y1 prog_14_method_5_code 1 (some .boolean) :: ws) r2) (fun a U => a = #[(.ref a1)] ∧ Z.Warmed39 U.vm ∧ U.heap = h0) (fun _ _ _ _ _ => True) (fun _ U o U' => ∃ v L, o = .returned v ∧ Q_rm_onlyMarkersLeft0 Z a1 h0 n0 v U'.heap L ∧ FrameEnd U o U' L r2.cells r2.slots) := by
  refine MetFree.of_bodySF (plainFor_of_name pn_com_example_log_lag_gauge_loglaggauge_model_PositionLag_RecordsRead) hisR ?_
  intro p e s m args below meth c s₁ Bd hml0 hP hK
  obtain ⟨rfl, hZ, hh⟩ := hP
  have hx := Bd.exec
  have hby := Bd.bytes
  have hml : c.maxLocals = 1 := hml0
  have hown : s.vm.findClass cRR = some m.cls := findClass_of_methodNamed Bd.named
  have hnm := (name_of_methodNamed Bd.named Bd.method).1
  have X0 : Stand p l e r2 s m #[(.ref a1)] below meth c s₁ [] 0 0 := Stand.of_body Bd
  have e0 : s₁.heap = h0 := by rw [← hh, Bd.state]; rfl
  have N0 := Fr.nil n0
  refine Goes.out (l := l) (c := c) (R := r2) (Q := Q_rm_onlyMarkersLeft0 Z a1 h0 n0) Bd.notSynchronized ?_
  refine Goes.cast (g2 := mkF m 0 #[rv a1] []) (by first | (simp [entryFrame, mkF, argsToLocals, Value.category]; done) | rfl) ?_
  refine gs s₁ (mkF m 1 #[rv a1] [(.ref a1)]) (fun _ hr => XS.aloadN X0.here hx rfl (hb hby d9_0) rfl rfl hr) ?_
  obtain ⟨T20, X20, e20, st20⟩ := getF X0 hx hZ hown (host := "") (Or.inl (tw hw 104 rfl)) Via.refl e0 F_a1_onlyMarkersLeft (g := (mkF m 1 #[rv a1] [(.ref a1)])) rfl rfl (hb hby d9_1)
  refine gs T20 (mkF m 4 #[rv a1] [(.int (0 : Int32))]) st20 ?_
  exact Goes.ret (v := some (.int (0 : Int32))) X20 (by decide) (by decide) (fun h => by rw [Bd.returns] at h; cases h) ⟨rfl, N0, e20⟩ (fun fs hr => retN X20 hx (t := .boolean) Bd.returns (by simp) (hb hby d9_4) hr)
def Q_rm_onlyMarkersLeft1 (Z : State) (a1 : Addr) (h0 : Heap) (n0 : Nat) (v : Option Value) (h : Heap) (L : List Loc) : Prop := v = some (.int (1 : Int32)) ∧ Fr n0 L ∧ h = h0
set_option maxRecDepth 65536 in
set_option maxHeartbeats 40000000 in
theorem rm_onlyMarkersLeft1 (l : Launch) (Z : State) (a0 : Array Value) (hw : ∀ d ∈ tables_1, d.before a0 Z = true) (ws : List Jvm.Cond) (a1 : Addr) (h0 : Heap) (n0 : Nat) (Z0 : n0 ≤ h0.size) (O0 : Old Z n0 h0) (F_a1_onlyMarkersLeft : Fld Z h0 a1 cRR nOM "Z" (.int (1 : Int32))) :
    MetFree l Y1 (head1 (Cond.code Y1 prog_14_method_5_code 1 (some .boolean) :: ws) r2) (fun a U => a = #[(.ref a1)] ∧ Z.Warmed39 U.vm ∧ U.heap = h0) (fun _ _ _ _ _ => True) (fun _ U o U' => ∃ v L, o = .returned v ∧ Q_rm_onlyMarkersLeft1 Z a1 h0 n0 v U'.heap L ∧ FrameEnd U o U' L r2.cells r2.slots) := by
  refine MetFree.of_bodySF (plainFor_of_name pn_com_example_log_lag_gauge_loglaggauge_model_PositionLag_RecordsRead) hisR ?_
  intro p e s m args below meth c s₁ Bd hml0 hP hK
  obtain ⟨rfl, hZ, hh⟩ := hP
  have hx := Bd.exec
  have hby := Bd.bytes
  have hml : c.maxLocals = 1 := hml0
  have hown : s.vm.findClass cRR = some m.cls := findClass_of_methodNamed Bd.named
  have hnm := (name_of_methodNamed Bd.named Bd.method).1
  have X0 : Stand p l e r2 s m #[(.ref a1)] below meth c s₁ [] 0 0 := Stand.of_body Bd
  have e0 : s₁.heap = h0 := by rw [← hh, Bd.state]; rfl
  have N0 := Fr.nil n0
  refine Goes.out (l := l) (c := c) (R := r2) (Q := Q_rm_onlyMarkersLeft1 Z a1 h0 n0) Bd.notSynchronized ?_
  refine Goes.cast (g2 := mkF m 0 #[rv a1] []) (by first | (simp [entryFrame, mkF, argsToLocals, Value.category]; done) | rfl) ?_
  refine gs s₁ (mkF m 1 #[rv a1] [(.ref a1)]) (fun _ hr => XS.aloadN X0.here hx rfl (hb hby d9_0) rfl rfl hr) ?_
  obtain ⟨T21, X21, e21, st21⟩ := getF X0 hx hZ hown (host := "") (Or.inl (tw hw 104 rfl)) Via.refl e0 F_a1_onlyMarkersLeft (g := (mkF m 1 #[rv a1] [(.ref a1)])) rfl rfl (hb hby d9_1)
  refine gs T21 (mkF m 4 #[rv a1] [(.int (1 : Int32))]) st21 ?_
  exact Goes.ret (v := some (.int (1 : Int32))) X21 (by decide) (by decide) (fun h => by rw [Bd.returns] at h; cases h) ⟨rfl, N0, e21⟩ (fun fs hr => retN X21 hx (t := .boolean) Bd.returns (by simp) (hb hby d9_4) hr)
theorem d10_0 : decode prog_14_method_6_code 0 = .ok (.aload_n 0, 1) := by decide +kernel
theorem d10_1 : decode prog_14_method_6_code 1 = .ok (.getfield 23, 3) := by decide +kernel
theorem d10_4 : decode prog_14_method_6_code 4 = .ok (.areturn, 1) := by decide +kernel
def Q_rm_firstUnreadTimestamp (Z : State) (a1 : Addr) (w1 : Addr) (h0 : Heap) (n0 : Nat) (v : Option Value) (h : Heap) (L : List Loc) : Prop := v = some (.ref w1) ∧ Fr n0 L ∧ h = h0
set_option maxRecDepth 65536 in
set_option maxHeartbeats 40000000 in
theorem rm_firstUnreadTimestamp (l : Launch) (Z : State) (a0 : Array Value) (hw : ∀ d ∈ tables_1, d.before a0 Z = true) (ws : List Jvm.Cond) (a1 : Addr) (w1 : Addr) (h0 : Heap) (n0 : Nat) (Z0 : n0 ≤ h0.size) (O0 : Old Z n0 h0) (F_a1_firstUnreadTimestamp : Fld Z h0 a1 cRR nLT dOL (.ref w1)) :
    MetFree l Y11 (head1 (Cond.code Y11 prog_14_method_6_code 1 (some (.object cOL)) :: ws) r2) (fun a U => a = #[(.ref a1)] ∧ Z.Warmed39 U.vm ∧ U.heap = h0) (fun _ _ _ _ _ => True) (fun _ U o U' => ∃ v L, o = .returned v ∧ Q_rm_firstUnreadTimestamp Z a1 w1 h0 n0 v U'.heap L ∧ FrameEnd U o U' L r2.cells r2.slots) := by
  refine MetFree.of_bodySF (plainFor_of_name pn_com_example_log_lag_gauge_loglaggauge_model_PositionLag_RecordsRead) hisR ?_
  intro p e s m args below meth c s₁ Bd hml0 hP hK
  obtain ⟨rfl, hZ, hh⟩ := hP
  have hx := Bd.exec
  have hby := Bd.bytes
  have hml : c.maxLocals = 1 := hml0
  have hown : s.vm.findClass cRR = some m.cls := findClass_of_methodNamed Bd.named
  have hnm := (name_of_methodNamed Bd.named Bd.method).1
  have X0 : Stand p l e r2 s m #[(.ref a1)] below meth c s₁ [] 0 0 := Stand.of_body Bd
  have e0 : s₁.heap = h0 := by rw [← hh, Bd.state]; rfl
  have N0 := Fr.nil n0
  refine Goes.out (l := l) (c := c) (R := r2) (Q := Q_rm_firstUnreadTimestamp Z a1 w1 h0 n0) Bd.notSynchronized ?_
  refine Goes.cast (g2 := mkF m 0 #[rv a1] []) (by first | (simp [entryFrame, mkF, argsToLocals, Value.category]; done) | rfl) ?_
  refine gs s₁ (mkF m 1 #[rv a1] [(.ref a1)]) (fun _ hr => XS.aloadN X0.here hx rfl (hb hby d10_0) rfl rfl hr) ?_
  obtain ⟨T22, X22, e22, st22⟩ := getF X0 hx hZ hown (host := "") (Or.inl (tw hw 106 rfl)) Via.refl e0 F_a1_firstUnreadTimestamp (g := (mkF m 1 #[rv a1] [(.ref a1)])) rfl rfl (hb hby d10_1)
  refine gs T22 (mkF m 4 #[rv a1] [(.ref w1)]) st22 ?_
  exact Goes.ret (v := some (.ref w1)) X22 (by decide) (by decide) (fun h => by rw [Bd.returns] at h; cases h) ⟨rfl, N0, e22⟩ (fun fs hr => retOut X22 hx Bd.returns rfl (Or.inr (Or.inr (Or.inr (Or.inr ⟨rfl, rfl, rfl⟩)))) (hb hby d10_4) hr)
theorem d11_0 : decode prog_14_method_7_code 0 = .ok (.aload_n 0, 1) := by decide +kernel
theorem d11_1 : decode prog_14_method_7_code 1 = .ok (.getfield 26, 3) := by decide +kernel
theorem d11_4 : decode prog_14_method_7_code 4 = .ok (.areturn, 1) := by decide +kernel
def Q_rm_newestTimestamp (Z : State) (a1 : Addr) (w1 : Addr) (h0 : Heap) (n0 : Nat) (v : Option Value) (h : Heap) (L : List Loc) : Prop := v = some (.ref w1) ∧ Fr n0 L ∧ h = h0
set_option maxRecDepth 65536 in
set_option maxHeartbeats 40000000 in
theorem rm_newestTimestamp (l : Launch) (Z : State) (a0 : Array Value) (hw : ∀ d ∈ tables_1, d.before a0 Z = true) (ws : List Jvm.Cond) (a1 : Addr) (w1 : Addr) (h0 : Heap) (n0 : Nat) (Z0 : n0 ≤ h0.size) (O0 : Old Z n0 h0) (F_a1_newestTimestamp : Fld Z h0 a1 cRR nNT dOL (.ref w1)) :
    MetFree l Y12 (head1 (Cond.code Y12 prog_14_method_7_code 1 (some (.object cOL)) :: ws) r2) (fun a U => a = #[(.ref a1)] ∧ Z.Warmed39 U.vm ∧ U.heap = h0) (fun _ _ _ _ _ => True) (fun _ U o U' => ∃ v L, o = .returned v ∧ Q_rm_newestTimestamp Z a1 w1 h0 n0 v U'.heap L ∧ FrameEnd U o U' L r2.cells r2.slots) := by
  refine MetFree.of_bodySF (plainFor_of_name pn_com_example_log_lag_gauge_loglaggauge_model_PositionLag_RecordsRead) hisR ?_
  intro p e s m args below meth c s₁ Bd hml0 hP hK
  obtain ⟨rfl, hZ, hh⟩ := hP
  have hx := Bd.exec
  have hby := Bd.bytes
  have hml : c.maxLocals = 1 := hml0
  have hown : s.vm.findClass cRR = some m.cls := findClass_of_methodNamed Bd.named
  have hnm := (name_of_methodNamed Bd.named Bd.method).1
  have X0 : Stand p l e r2 s m #[(.ref a1)] below meth c s₁ [] 0 0 := Stand.of_body Bd
  have e0 : s₁.heap = h0 := by rw [← hh, Bd.state]; rfl
  have N0 := Fr.nil n0
  refine Goes.out (l := l) (c := c) (R := r2) (Q := Q_rm_newestTimestamp Z a1 w1 h0 n0) Bd.notSynchronized ?_
  refine Goes.cast (g2 := mkF m 0 #[rv a1] []) (by first | (simp [entryFrame, mkF, argsToLocals, Value.category]; done) | rfl) ?_
  refine gs s₁ (mkF m 1 #[rv a1] [(.ref a1)]) (fun _ hr => XS.aloadN X0.here hx rfl (hb hby d11_0) rfl rfl hr) ?_
  obtain ⟨T23, X23, e23, st23⟩ := getF X0 hx hZ hown (host := "") (Or.inl (tw hw 108 rfl)) Via.refl e0 F_a1_newestTimestamp (g := (mkF m 1 #[rv a1] [(.ref a1)])) rfl rfl (hb hby d11_1)
  refine gs T23 (mkF m 4 #[rv a1] [(.ref w1)]) st23 ?_
  exact Goes.ret (v := some (.ref w1)) X23 (by decide) (by decide) (fun h => by rw [Bd.returns] at h; cases h) ⟨rfl, N0, e23⟩ (fun fs hr => retOut X23 hx Bd.returns rfl (Or.inr (Or.inr (Or.inr (Or.inr ⟨rfl, rfl, rfl⟩)))) (hb hby d11_4) hr)
theorem d12_0 : decode jdk_31_method_10_code 0 = .ok (.aload_n 0, 1) := by decide +kernel
theorem d12_1 : decode jdk_31_method_10_code 1 = .ok (.ifnonnull 11, 3) := by decide +kernel
theorem d12_12 : decode jdk_31_method_10_code 12 = .ok (.aload_n 0, 1) := by decide +kernel
theorem d12_13 : decode jdk_31_method_10_code 13 = .ok (.areturn, 1) := by decide +kernel
def Q_rm_rnn1 (Z : State) (a1 : Addr) (h0 : Heap) (n0 : Nat) (v : Option Value) (h : Heap) (L : List Loc) : Prop := v = some (.ref a1) ∧ Fr n0 L ∧ h = h0
set_option maxRecDepth 65536 in
set_option maxHeartbeats 40000000 in
theorem rm_rnn1 (l : Launch) (Z : State) (a0 : Array Value) (hw : ∀ d ∈ tables_1, d.before a0 Z = true) (ws : List Jvm.Cond) (a1 : Addr) (h0 : Heap) (n0 : Nat) (Z0 : n0 ≤ h0.size) (O0 : Old Z n0 h0) :
    MetFree l Y13 (head1 (Cond.code Y13 jdk_31_method_10_code 1 (some (.object "java/lang/Object")) :: ws) r2) (fun a U => a = #[(.ref a1)] ∧ Z.Warmed39 U.vm ∧ U.heap = h0) (fun _ _ _ _ _ => True) (fun _ U o U' => ∃ v L, o = .returned v ∧ Q_rm_rnn1 Z a1 h0 n0 v U'.heap L ∧ FrameEnd U o U' L r2.cells r2.slots) := by
  refine MetFree.of_bodySF (plainFor_of_name pn_java_util_Objects) hisR ?_
  intro p e s m args below meth c s₁ Bd hml0 hP hK
  obtain ⟨rfl, hZ, hh⟩ := hP
  have hx := Bd.exec
  have hby := Bd.bytes
  have hml : c.maxLocals = 1 := hml0
  have hown : s.vm.findClass "java/util/Objects" = some m.cls := findClass_of_methodNamed Bd.named
  have hnm := (name_of_methodNamed Bd.named Bd.method).1
  have X0 : Stand p l e r2 s m #[(.ref a1)] below meth c s₁ [] 0 0 := Stand.of_body Bd
  have e0 : s₁.heap = h0 := by rw [← hh, Bd.state]; rfl
  have N0 := Fr.nil n0
  refine Goes.out (l := l) (c := c) (R := r2) (Q := Q_rm_rnn1 Z a1 h0 n0) Bd.notSynchronized ?_
  refine Goes.cast (g2 := mkF m 0 #[rv a1] []) (by first | (simp [entryFrame, mkF, argsToLocals, Value.category]; done) | rfl) ?_
  refine gs s₁ (mkF m 1 #[rv a1] [(.ref a1)]) (fun _ hr => XS.aloadN X0.here hx rfl (hb hby d12_0) rfl rfl hr) ?_
  refine gs s₁ (mkF m 12 #[rv a1] []) (fun _ hr => XT.ifnonnullYes X0.here hx rfl (pc0 := 1) (pc' := 12) rfl (hb hby d12_1) rfl (by decide) (by decide) hr) ?_
  refine gs s₁ (mkF m 13 #[rv a1] [(.ref a1)]) (fun _ hr => XS.aloadN X0.here hx rfl (hb hby d12_12) rfl rfl hr) ?_
  exact Goes.ret (v := some (.ref a1)) X0 (by decide) (by decide) (fun h => by rw [Bd.returns] at h; cases h) ⟨rfl, N0, e0⟩ (fun fs hr => retOut X0 hx Bd.returns rfl (Or.inr (Or.inr (Or.inr (Or.inr ⟨rfl, rfl, rfl⟩)))) (hb hby d12_13) hr)
theorem d13_0 : decode jdk_32_method_2_code 0 = .ok (.aload_n 0, 1) := by decide +kernel
theorem d13_1 : decode jdk_32_method_2_code 1 = .ok (.invokespecial 7, 3) := by decide +kernel
theorem d13_4 : decode jdk_32_method_2_code 4 = .ok (.aload_n 0, 1) := by decide +kernel
theorem d13_5 : decode jdk_32_method_2_code 5 = .ok (.aload_n 1, 1) := by decide +kernel
theorem d13_6 : decode jdk_32_method_2_code 6 = .ok (.putfield 13, 3) := by decide +kernel
theorem d13_9 : decode jdk_32_method_2_code 9 = .ok (.return_, 1) := by decide +kernel
theorem pn_java_util_Optional : plainName cOP = true := by first | (simp [plainName, overriddenIn]; done) | decide +kernel
def Q_rm_oin (Z : State) (a1 : Addr) (w1 : Addr) (h0 : Heap) (n0 : Nat) (v : Option Value) (h : Heap) (L : List Loc) : Prop := v = none ∧ Fr n0 L ∧ Keep h0 h [a1] ∧ Fld Z h a1 cOP "value" dOB (.ref w1)
set_option maxRecDepth 65536 in
set_option maxHeartbeats 40000000 in
theorem rm_oin (l : Launch) (Z : State) (a0 : Array Value) (hw : ∀ d ∈ tables_1, d.before a0 Z = true) (ws : List Jvm.Cond) (a1 : Addr) (w1 : Addr) (h0 : Heap) (n0 : Nat) (Z0 : n0 ≤ h0.size) (O0 : Old Z n0 h0) (E_a1 : Exa Z h0 a1 cOP) (F_a1_value : Fld Z h0 a1 cOP "value" dOB .null) (ge_a1 : n0 ≤ a1) :
    MetFree l Y14 (head1 (Cond.code Y14 jdk_32_method_2_code 2 none :: ws) r0) (fun a U => a = #[(.ref a1), (.ref w1)] ∧ Z.Warmed39 U.vm ∧ U.heap = h0) (fun _ _ _ _ _ => True) (fun _ U o U' => ∃ v L, o = .returned v ∧ Q_rm_oin Z a1 w1 h0 n0 v U'.heap L ∧ FrameEnd U o U' L r0.cells r0.slots) := by
  refine MetFree.of_bodySF (plainFor_of_name pn_java_util_Optional) hisR ?_
  intro p e s m args below meth c s₁ Bd hml0 hP hK
  obtain ⟨rfl, hZ, hh⟩ := hP
  have hx := Bd.exec
  have hby := Bd.bytes
  have hml : c.maxLocals = 2 := hml0
  have hown : s.vm.findClass cOP = some m.cls := findClass_of_methodNamed Bd.named
  have hnm := (name_of_methodNamed Bd.named Bd.method).1
  have X0 : Stand p l e r0 s m #[(.ref a1), (.ref w1)] below meth c s₁ [] 0 0 := Stand.of_body Bd
  have e0 : s₁.heap = h0 := by rw [← hh, Bd.state]; rfl
  have N0 := Fr.nil n0
  refine Goes.out (l := l) (c := c) (R := r0) (Q := Q_rm_oin Z a1 w1 h0 n0) Bd.notSynchronized ?_
  refine Goes.cast (g2 := mkF m 0 #[rv a1, rv w1] []) (by first | (simp [entryFrame, mkF, argsToLocals, Value.category]; done) | rfl) ?_
  have K0 : Keep h0 h0 [a1] := Keep.refl h0 _
  refine gs s₁ (mkF m 1 #[rv a1, rv w1] [(.ref a1)]) (fun _ hr => XS.aloadN X0.here hx rfl (hb hby d13_0) rfl rfl hr) ?_
  obtain ⟨T25, X25, e25, st25⟩ := initO X0 hx hZ hown (tw hw 121 rfl) (tw hw 23 rfl) (tw hw 24 rfl) e0 (g := (mkF m 1 #[rv a1, rv w1] [(.ref a1)])) rfl (by rw [hml]; rfl) rfl (hb hby d13_1) (by decide) (W := 0) (wle rfl) (by decide)
  refine gs T25 (mkF m 4 #[rv a1, rv w1] []) st25 ?_
  refine gs T25 (mkF m 5 #[rv a1, rv w1] [(.ref a1)]) (fun _ hr => XS.aloadN X25.here hx rfl (hb hby d13_4) rfl rfl hr) ?_
  refine gs T25 (mkF m 6 #[rv a1, rv w1] [(.ref w1), (.ref a1)]) (fun _ hr => XS.aloadN X25.here hx rfl (hb hby d13_5) rfl rfl hr) ?_
  obtain ⟨T26, h26, X26, e26, W26, st26⟩ := putF X25 hx hZ hown (host := "") (Or.inl (tw hw 65 rfl)) Via.refl e25 F_a1_value E_a1 (Or.inr ⟨(tw hw 66 rfl), rfl, hnm⟩) (tw hw 116 rfl) (ty := (.object "java/lang/Object")) (by decide) rfl rfl (g := (mkF m 6 #[rv a1, rv w1] [(.ref w1), (.ref a1)])) rfl rfl (hb hby d13_6)
  have K26 : Keep h0 h26 [a1] := K0.wr W26 (Or.inl (List.mem_of_getElem? (i := 0) rfl))
  have N26 := Fr.snoc X26 N0 ge_a1
  have F_a1_value_26 : Fld Z h26 a1 cOP "value" dOB (.ref w1) := F_a1_value.same W26
  refine gs T26 (mkF m 9 #[rv a1, rv w1] []) st26 ?_
  exact Goes.ret (v := none) X26 (by decide) (by decide) (fun _ => rfl) (by show Q_rm_oin Z a1 w1 h0 n0 _ T26.heap _; rw [e26]; exact ⟨rfl, N26, K26, F_a1_value_26⟩) (fun fs hr => X26.returnOut hx Bd.returns (hb hby d13_9) hr)
theorem d14_0 : decode jdk_32_method_3_code 0 = .ok (.new 2, 3) := by decide +kernel
theorem d14_3 : decode jdk_32_method_3_code 3 = .ok (.dup, 1) := by decide +kernel
theorem d14_4 : decode jdk_32_method_3_code 4 = .ok (.aload_n 0, 1) := by decide +kernel
theorem d14_5 : decode jdk_32_method_3_code 5 = .ok (.invokestatic 17, 3) := by decide +kernel
theorem d14_8 : decode jdk_32_method_3_code 8 = .ok (.invokespecial 23, 3) := by decide +kernel
theorem d14_11 : decode jdk_32_method_3_code 11 = .ok (.areturn, 1) := by decide +kernel
def Q_rm_oof (Z : State) (w1 : Addr) (h0 : Heap) (n0 : Nat) (v : Option Value) (h : Heap) (L : List Loc) : Prop := ∃ w : Addr, v = some (.ref w) ∧ Fr n0 L ∧ Keep h0 h [] ∧ h0.size ≤ w ∧ Exa Z h w cOP ∧ Fld Z h w cOP "value" dOB (.ref w1)
set_option maxRecDepth 65536 in
set_option maxHeartbeats 40000000 in
theorem rm_oof (l : Launch) (Z : State) (a0 : Array Value) (hw : ∀ d ∈ tables_1, d.before a0 Z = true) (ws : List Jvm.Cond) (w1 : Addr) (h0 : Heap) (n0 : Nat) (Z0 : n0 ≤ h0.size) (O0 : Old Z n0 h0) :
    MetFree l Y15 (head1 (Cond.code Y15 jdk_32_method_3_code 1 (some (.object cOP)) :: ws) r3) (fun a U => a = #[(.ref w1)] ∧ Z.Warmed39 U.vm ∧ U.heap = h0) (fun _ _ _ _ _ => True) (fun _ U o U' => ∃ v L, o = .returned v ∧ Q_rm_oof Z w1 h0 n0 v U'.heap L ∧ FrameEnd U o U' L r3.cells r3.slots) := by
  refine MetFree.of_bodySF (plainFor_of_name pn_java_util_Optional) hisR ?_
  intro p e s m args below meth c s₁ Bd hml0 hP hK
  obtain ⟨rfl, hZ, hh⟩ := hP
  have hx := Bd.exec
  have hby := Bd.bytes
  have hml : c.maxLocals = 1 := hml0
  have hown : s.vm.findClass cOP = some m.cls := findClass_of_methodNamed Bd.named
  have hnm := (name_of_methodNamed Bd.named Bd.method).1
  have X0 : Stand p l e r3 s m #[(.ref w1)] below meth c s₁ [] 0 0 := Stand.of_body Bd
  have e0 : s₁.heap = h0 := by rw [← hh, Bd.state]; rfl
  have N0 := Fr.nil n0
  refine Goes.out (l := l) (c := c) (R := r3) (Q := Q_rm_oof Z w1 h0 n0) Bd.notSynchronized ?_
  refine Goes.cast (g2 := mkF m 0 #[rv w1] []) (by first | (simp [entryFrame, mkF, argsToLocals, Value.category]; done) | rfl) ?_
  have K0 : Keep h0 h0 [] := Keep.refl h0 _
  have hws : ∀ x ∈ ([] : List Addr), n0 ≤ x := all0
  obtain ⟨T27, h27, X27, e27, E27, A27, D27, -, st27⟩ := newO X0 hx hZ hown (tw hw 115 rfl) (tw hw 116 rfl) (tw hw 8 rfl) e0 (g := (mkF m 0 #[rv w1] [])) rfl (hb hby d14_0) (by decide) (by decide)
  obtain ⟨b27, g27⟩ : ∃ z, z = h0.size := ⟨_, rfl⟩
  rw [← g27] at A27 D27 st27
  have sz_b27 : h0.size ≤ b27 := Nat.le_trans K0.1 (Nat.le_of_eq g27.symm)
  have ge_b27 : n0 ≤ b27 := Nat.le_trans Z0 sz_b27
  have K27 : Keep h0 h27 [] := K0.ext E27
  have F_b27_value_27 : Fld Z h27 b27 cOP "value" dOB .null := D27 (Or.inr (tw hw 66 rfl)) (ty := (.object "java/lang/Object")) (by decide)
  refine gs T27 (mkF m 3 #[rv w1] [(.ref b27)]) st27 ?_
  refine gs T27 (mkF m 4 #[rv w1] [(.ref b27), (.ref b27)]) (fun _ hr => XS.dup X27.here hx rfl (hb hby d14_3) rfl rfl hr) ?_
  refine gs T27 (mkF m 5 #[rv w1] [(.ref w1), (.ref b27), (.ref b27)]) (fun _ hr => XS.aloadN X27.here hx rfl (hb hby d14_4) rfl rfl hr) ?_
  have Zs28 : n0 ≤ h27.size := Nat.le_trans Z0 K27.1
  obtain ⟨_, _, ⟨T29, L29, k29, n29⟩, -, X29, ⟨Lc29, hQ29, l29, y29, z29⟩, st29⟩ := LawKit.callS X27 hx (y := Y13) hown (mvT hZ (tw hw 57 rfl)) (mvT hZ (tw hw 58 rfl)) (mvT hZ (tw hw 35 rfl)) (mvT hZ (tw hw 59 rfl)) (by decide) (backOf (W := 2) (rm_rnn1 l Z a0 hw [] w1 h27 n0 Zs28 (Old.keep O0 K27 hws)) hZ (tw hw 59 rfl) (tw hw 35 rfl) (by decide) (by decide)) (g := (mkF m 5 #[rv w1] [(.ref w1), (.ref b27), (.ref b27)])) rfl (by rw [hml]; rfl) (argsL := [(.ref w1)]) (rest := [(.ref b27), (.ref b27)]) (lenOf pd_3 rfl) rfl (wle rfl) (hb hby d14_5) (fun _ _ => ⟨rfl, e27, (by decide : 1 + 0 ≤ _), (by decide : 1 + 0 ≤ _)⟩)
  dsimp only [Pt.U, Pt.locs, Pt.cells, Pt.slots] at X29 l29 y29 z29 st29 hQ29
  subst l29 y29 z29
  obtain ⟨rfl, N29q, e29⟩ := hQ29
  have N29 := Fr.app N0 N29q
  refine gs T29 (mkF m 8 #[rv w1] [(.ref w1), (.ref b27), (.ref b27)]) st29 ?_
  have Zs30 : n0 ≤ h27.size := Nat.le_trans Z0 K27.1
  obtain ⟨_, _, ⟨T31, L31, k31, n31⟩, -, X31, ⟨Lc31, hQ31, l31, y31, z31⟩, st31⟩ := X29.specialBack hx (y := Y14) rfl hown (mvT hZ (tw hw 117 rfl)) (mvT hZ (tw hw 118 rfl)) (mvT hZ (tw hw 120 rfl)) (by decide) (backOf (W := 1) (rm_oin l Z a0 hw [] b27 w1 h27 n0 Zs30 (Old.keep O0 K27 hws) A27 F_b27_value_27 ge_b27) hZ (tw hw 120 rfl) (tw hw 8 rfl) (by decide) (by decide)) (g := (mkF m 8 #[rv w1] [(.ref w1), (.ref b27), (.ref b27)])) rfl (by rw [hml]; rfl) (Steps.refl _) (a := b27) (argsL := [(.ref w1)]) (rest := [(.ref b27)]) (lenOf pd_4 rfl) rfl (wle rfl) (hb hby d14_8) (fun _ _ => ⟨rfl, e29, (by decide : 1 + 0 ≤ _), (by decide : 1 + 0 ≤ _)⟩)
  dsimp only [Pt.U, Pt.locs, Pt.cells, Pt.slots] at X31 l31 y31 z31 st31 hQ31
  subst l31 y31 z31
  obtain ⟨rfl, N31q, Kc31, P31_0⟩ := hQ31
  have N31 := Fr.app N29 N31q
  have E_b27_31 : Exa Z T31.heap b27 cOP := A27.keep Kc31
  have K31 : Keep h0 T31.heap [] := K27.trans Kc31 (allS (Or.inr sz_b27) all0)
  have F_b27_value_31c : Fld Z T31.heap b27 cOP "value" dOB (.ref w1) := P31_0
  refine gs T31 (mkF m 11 #[rv w1] [(.ref b27)]) (fun _ hr => st31.trans hr) ?_
  exact Goes.ret (v := some (.ref b27)) X31 (by decide) (by decide) (fun h => by rw [Bd.returns] at h; cases h) (by show Q_rm_oof Z w1 h0 n0 _ T31.heap _; exact ⟨b27, rfl, N31, K31, sz_b27, E_b27_31, F_b27_value_31c⟩) (fun fs hr => retOut X31 hx Bd.returns rfl (Or.inr (Or.inr (Or.inr (Or.inr ⟨rfl, rfl, rfl⟩)))) (hb hby d14_11) hr)
theorem d15_0 : decode jdk_32_method_4_code 0 = .ok (.aload_n 0, 1) := by decide +kernel
theorem d15_1 : decode jdk_32_method_4_code 1 = .ok (.ifnonnull 9, 3) := by decide +kernel
theorem d15_10 : decode jdk_32_method_4_code 10 = .ok (.new 2, 3) := by decide +kernel
theorem d15_13 : decode jdk_32_method_4_code 13 = .ok (.dup, 1) := by decide +kernel
theorem d15_14 : decode jdk_32_method_4_code 14 = .ok (.aload_n 0, 1) := by decide +kernel
theorem d15_15 : decode jdk_32_method_4_code 15 = .ok (.invokespecial 23, 3) := by decide +kernel
theorem d15_18 : decode jdk_32_method_4_code 18 = .ok (.areturn, 1) := by decide +kernel
def Q_rm_oofn (Z : State) (w1 : Addr) (h0 : Heap) (n0 : Nat) (v : Option Value) (h : Heap) (L : List Loc) : Prop := ∃ w : Addr, v = some (.ref w) ∧ Fr n0 L ∧ Keep h0 h [] ∧ h0.size ≤ w ∧ Exa Z h w cOP ∧ Fld Z h w cOP "value" dOB (.ref w1)
set_option maxRecDepth 65536 in
set_option maxHeartbeats 40000000 in
theorem rm_oofn (l : Launch) (Z : State) (a0 : Array Value) (hw : ∀ d ∈ tables_1, d.before a0 Z = true) (ws : List Jvm.Cond) (w1 : Addr) (h0 : Heap) (n0 : Nat) (Z0 : n0 ≤ h0.size) (O0 : Old Z n0 h0) :
    MetFree l Y16 (head1 (Cond.code Y16 jdk_32_method_4_code 1 (some (.object cOP)) :: ws) r3) (fun a U => a = #[(.ref w1)] ∧ Z.Warmed39 U.vm ∧ U.heap = h0) (fun _ _ _ _ _ => True) (fun _ U o U' => ∃ v L, o = .returned v ∧ Q_rm_oofn Z w1 h0 n0 v U'.heap L ∧ FrameEnd U o U' L r3.cells r3.slots) := by
  refine MetFree.of_bodySF (plainFor_of_name pn_java_util_Optional) hisR ?_
  intro p e s m args below meth c s₁ Bd hml0 hP hK
  obtain ⟨rfl, hZ, hh⟩ := hP
  have hx := Bd.exec
  have hby := Bd.bytes
  have hml : c.maxLocals = 1 := hml0
  have hown : s.vm.findClass cOP = some m.cls := findClass_of_methodNamed Bd.named
  have hnm := (name_of_methodNamed Bd.named Bd.method).1
  have X0 : Stand p l e r3 s m #[(.ref w1)] below meth c s₁ [] 0 0 := Stand.of_body Bd
  have e0 : s₁.heap = h0 := by rw [← hh, Bd.state]; rfl
  have N0 := Fr.nil n0
  refine Goes.out (l := l) (c := c) (R := r3) (Q := Q_rm_oofn Z w1 h0 n0) Bd.notSynchronized ?_
  refine Goes.cast (g2 := mkF m 0 #[rv w1] []) (by first | (simp [entryFrame, mkF, argsToLocals, Value.category]; done) | rfl) ?_
  have K0 : Keep h0 h0 [] := Keep.refl h0 _
  have hws : ∀ x ∈ ([] : List Addr), n0 ≤ x := all0
  refine gs s₁ (mkF m 1 #[rv w1] [(.ref w1)]) (fun _ hr => XS.aloadN X0.here hx rfl (hb hby d15_0) rfl rfl hr) ?_
  refine gs s₁ (mkF m 10 #[rv w1] []) (fun _ hr => XT.ifnonnullYes X0.here hx rfl (pc0 := 1) (pc' := 10) rfl (hb hby d15_1) rfl (by decide) (by decide) hr) ?_
  obtain ⟨T32, h32, X32, e32, E32, A32, D32, -, st32⟩ := newO X0 hx hZ hown (tw hw 115 rfl) (tw hw 116 rfl) (tw hw 8 rfl) e0 (g := (mkF m 10 #[rv w1] [])) rfl (hb hby d15_10) (by decide) (by decide)
  obtain ⟨b32, g32⟩ : ∃ z, z = h0.size := ⟨_, rfl⟩
  rw [← g32] at A32 D32 st32
  have sz_b32 : h0.size ≤ b32 := Nat.le_trans K0.1 (Nat.le_of_eq g32.symm)
  have ge_b32 : n0 ≤ b32 := Nat.le_trans Z0 sz_b32
  have K32 : Keep h0 h32 [] := K0.ext E32
  have F_b32_value_32 : Fld Z h32 b32 cOP "value" dOB .null := D32 (Or.inr (tw hw 66 rfl)) (ty := (.object "java/lang/Object")) (by decide)
  refine gs T32 (mkF m 13 #[rv w1] [(.ref b32)]) st32 ?_
  refine gs T32 (mkF m 14 #[rv w1] [(.ref b32), (.ref b32)]) (fun _ hr => XS.dup X32.here hx rfl (hb hby d15_13) rfl rfl hr) ?_
  refine gs T32 (mkF m 15 #[rv w1] [(.ref w1), (.ref b32), (.ref b32)]) (fun _ hr => XS.aloadN X32.here hx rfl (hb hby d15_14) rfl rfl hr) ?_
  have Zs33 : n0 ≤ h32.size := Nat.le_trans Z0 K32.1
  obtain ⟨_, _, ⟨T34, L34, k34, n34⟩, -, X34, ⟨Lc34, hQ34, l34, y34, z34⟩, st34⟩ := X32.specialBack hx (y := Y14) rfl hown (mvT hZ (tw hw 117 rfl)) (mvT hZ (tw hw 118 rfl)) (mvT hZ (tw hw 120 rfl)) (by decide) (backOf (W := 1) (rm_oin l Z a0 hw [] b32 w1 h32 n0 Zs33 (Old.keep O0 K32 hws) A32 F_b32_value_32 ge_b32) hZ (tw hw 120 rfl) (tw hw 8 rfl) (by decide) (by decide)) (g := (mkF m 15 #[rv w1] [(.ref w1), (.ref b32), (.ref b32)])) rfl (by rw [hml]; rfl) (Steps.refl _) (a := b32) (argsL := [(.ref w1)]) (rest := [(.ref b32)]) (lenOf pd_4 rfl) rfl (wle rfl) (hb hby d15_15) (fun _ _ => ⟨rfl, e32, (by decide : 1 + 0 ≤ _), (by decide : 1 + 0 ≤ _)⟩)
  dsimp only [Pt.U, Pt.locs, Pt.cells, Pt.slots] at X34 l34 y34 z34 st34 hQ34
  subst l34 y34 z34
  obtain ⟨rfl, N34q, Kc34, P34_0⟩ := hQ34
  have N34 := Fr.app N0 N34q
  have E_b32_34 : Exa Z T34.heap b32 cOP := A32.keep Kc34
  have K34 : Keep h0 T34.heap [] := K32.trans Kc34 (allS (Or.inr sz_b32) all0)
  have F_b32_value_34c : Fld Z T34.heap b32 cOP "value" dOB (.ref w1) := P34_0
  refine gs T34 (mkF m 18 #[rv w1] [(.ref b32)]) (fun _ hr => st34.trans hr) ?_
  exact Goes.ret (v := some (.ref b32)) X34 (by decide) (by decide) (fun h => by rw [Bd.returns] at h; cases h) (by show Q_rm_oofn Z w1 h0 n0 _ T34.heap _; exact ⟨b32, rfl, N34, K34, sz_b32, E_b32_34, F_b32_value_34c⟩) (fun fs hr => retOut X34 hx Bd.returns rfl (Or.inr (Or.inr (Or.inr (Or.inr ⟨rfl, rfl, rfl⟩)))) (hb hby d15_18) hr)
theorem d16_0 : decode jdk_32_method_1_code 0 = .ok (.getstatic 1, 3) := by decide +kernel
theorem d16_3 : decode jdk_32_method_1_code 3 = .ok (.astore_n 0, 1) := by decide +kernel
theorem d16_4 : decode jdk_32_method_1_code 4 = .ok (.aload_n 0, 1) := by decide +kernel
theorem d16_5 : decode jdk_32_method_1_code 5 = .ok (.areturn, 1) := by decide +kernel
def Q_rm_oem (Z : State) (eo : Addr) (h0 : Heap) (n0 : Nat) (v : Option Value) (h : Heap) (L : List Loc) : Prop := v = some (.ref eo) ∧ Fr n0 L ∧ h = h0
set_option maxRecDepth 65536 in
set_option maxHeartbeats 40000000 in
theorem rm_oem (l : Launch) (Z : State) (a0 : Array Value) (hw : ∀ d ∈ tables_1, d.before a0 Z = true) (ws : List Jvm.Cond) (eo : Addr) (h0 : Heap) (n0 : Nat) (Z0 : n0 ≤ h0.size) (O0 : Old Z n0 h0) (S_Optional_EMPTY_old : Sta Z Z.heap cOP "EMPTY" dOP (.ref eo)) :
    MetFree l Y17 (head1 (Cond.code Y17 jdk_32_method_1_code 1 (some (.object cOP)) :: ws) r2) (fun a U => a = #[] ∧ Z.Warmed39 U.vm ∧ U.heap = h0) (fun _ _ _ _ _ => True) (fun _ U o U' => ∃ v L, o = .returned v ∧ Q_rm_oem Z eo h0 n0 v U'.heap L ∧ FrameEnd U o U' L r2.cells r2.slots) := by
  refine MetFree.of_bodySF (plainFor_of_name pn_java_util_Optional) hisR ?_
  intro p e s m args below meth c s₁ Bd hml0 hP hK
  obtain ⟨rfl, hZ, hh⟩ := hP
  have hx := Bd.exec
  have hby := Bd.bytes
  have hml : c.maxLocals = 1 := hml0
  have hown : s.vm.findClass cOP = some m.cls := findClass_of_methodNamed Bd.named
  have hnm := (name_of_methodNamed Bd.named Bd.method).1
  have X0 : Stand p l e r2 s m #[] below meth c s₁ [] 0 0 := Stand.of_body Bd
  have e0 : s₁.heap = h0 := by rw [← hh, Bd.state]; rfl
  have N0 := Fr.nil n0
  refine Goes.out (l := l) (c := c) (R := r2) (Q := Q_rm_oem Z eo h0 n0) Bd.notSynchronized ?_
  refine Goes.cast (g2 := mkF m 0 #[.unset] []) (by first | (simp [entryFrame, mkF, argsToLocals, Value.category]; done) | rfl) ?_
  have K0 : Keep h0 h0 [] := Keep.refl h0 _
  have hws : ∀ x ∈ ([] : List Addr), n0 ≤ x := all0
  obtain ⟨T35, X35, e35, st35⟩ := getS2 X0 hx hZ hown (host := "") (Or.inl (tw hw 10 rfl)) Via.refl e0 (S_Optional_EMPTY_old.ext (Old.keep O0 K0 hws).2) (g := (mkF m 0 #[.unset] [])) rfl (hb hby d16_0)
  refine gs T35 (mkF m 3 #[.unset] [(.ref eo)]) st35 ?_
  refine gs T35 (mkF m 4 #[rv eo] []) (fun _ hr => XS.astoreN X35.here hx rfl (hb hby d16_3) rfl rfl (l' := #[rv eo]) rfl hr) ?_
  refine gs T35 (mkF m 5 #[rv eo] [(.ref eo)]) (fun _ hr => XS.aloadN X35.here hx rfl (hb hby d16_4) rfl rfl hr) ?_
  exact Goes.ret (v := some (.ref eo)) X35 (by decide) (by decide) (fun h => by rw [Bd.returns] at h; cases h) ⟨rfl, N0, e35⟩ (fun fs hr => retOut X35 hx Bd.returns rfl (Or.inr (Or.inr (Or.inr (Or.inr ⟨rfl, rfl, rfl⟩)))) (hb hby d16_5) hr)
theorem d17_0 : decode jdk_32_method_7_code 0 = .ok (.aload_n 0, 1) := by decide +kernel
theorem d17_1 : decode jdk_32_method_7_code 1 = .ok (.getfield 13, 3) := by decide +kernel
theorem d17_4 : decode jdk_32_method_7_code 4 = .ok (.ifnonnull 7, 3) := by decide +kernel
theorem d17_7 : decode jdk_32_method_7_code 7 = .ok (.iconst 1, 1) := by decide +kernel
theorem d17_8 : decode jdk_32_method_7_code 8 = .ok (.goto 4, 3) := by decide +kernel
theorem d17_12 : decode jdk_32_method_7_code 12 = .ok (.ireturn, 1) := by decide +kernel
def Q_rm_oise0 (Z : State) (a1 : Addr) (h0 : Heap) (n0 : Nat) (v : Option Value) (h : Heap) (L : List Loc) : Prop := v = some (.int (1 : Int32)) ∧ Fr n0 L ∧ h = h0
set_option maxRecDepth 65536 in
set_option maxHeartbeats 40000000 in
theorem rm_oise0 (l : Launch) (Z : State) (a0 : Array Value) (hw : ∀ d ∈ tables_1, d.before a0 Z = true) (ws : List Jvm.Cond) (a1 : Addr) (h0 : Heap) (n0 : Nat) (Z0 : n0 ≤ h0.size) (O0 : Old Z n0 h0) (F_a1_value : Fld Z h0 a1 cOP "value" dOB .null) :
    MetFree l Y18 (head1 (Cond.code Y18 jdk_32_method_7_code 1 (some .boolean) :: ws) r2) (fun a U => a = #[(.ref a1)] ∧ Z.Warmed39 U.vm ∧ U.heap = h0) (fun _ _ _ _ _ => True) (fun _ U o U' => ∃ v L, o = .returned v ∧ Q_rm_oise0 Z a1 h0 n0 v U'.heap L ∧ FrameEnd U o U' L r2.cells r2.slots) := by
  refine MetFree.of_bodySF (plainFor_of_name pn_java_util_Optional) hisR ?_
  intro p e s m args below meth c s₁ Bd hml0 hP hK
  obtain ⟨rfl, hZ, hh⟩ := hP
  have hx := Bd.exec
  have hby := Bd.bytes
  have hml : c.maxLocals = 1 := hml0
  have hown : s.vm.findClass cOP = some m.cls := findClass_of_methodNamed Bd.named
  have hnm := (name_of_methodNamed Bd.named Bd.method).1
  have X0 : Stand p l e r2 s m #[(.ref a1)] below meth c s₁ [] 0 0 := Stand.of_body Bd
  have e0 : s₁.heap = h0 := by rw [← hh, Bd.state]; rfl
  have N0 := Fr.nil n0
  refine Goes.out (l := l) (c := c) (R := r2) (Q := Q_rm_oise0 Z a1 h0 n0) Bd.notSynchronized ?_
  refine Goes.cast (g2 := mkF m 0 #[rv a1] []) (by first | (simp [entryFrame, mkF, argsToLocals, Value.category]; done) | rfl) ?_
  refine gs s₁ (mkF m 1 #[rv a1] [(.ref a1)]) (fun _ hr => XS.aloadN X0.here hx rfl (hb hby d17_0) rfl rfl hr) ?_
  obtain ⟨T36, X36, e36, st36⟩ := getF X0 hx hZ hown (host := "") (Or.inl (tw hw 65 rfl)) Via.refl e0 F_a1_value (g := (mkF m 1 #[rv a1] [(.ref a1)])) rfl rfl (hb hby d17_1)
  refine gs T36 (mkF m 4 #[rv a1] [.null]) st36 ?_
  refine gs T36 (mkF m 7 #[rv a1] []) (fun _ hr => XT.ifnonnullNo X36.here hx rfl (hb hby d17_4) rfl hr) ?_
  refine gs T36 (mkF m 8 #[rv a1] [(.int (1 : Int32))]) (fun _ hr => XS.iconst X36.here hx rfl (hb hby d17_7) hr) ?_
  refine gs T36 (mkF m 12 #[rv a1] [(.int (1 : Int32))]) (fun _ hr => XS.goto X36.here hx rfl (pc0 := 8) (pc' := 12) rfl (hb hby d17_8) (by decide) (by decide) hr) ?_
  exact Goes.ret (v := some (.int (1 : Int32))) X36 (by decide) (by decide) (fun h => by rw [Bd.returns] at h; cases h) ⟨rfl, N0, e36⟩ (fun fs hr => retN X36 hx (t := .boolean) Bd.returns (by simp) (hb hby d17_12) hr)
theorem d18_0 : decode jdk_32_method_6_code 0 = .ok (.aload_n 0, 1) := by decide +kernel
theorem d18_1 : decode jdk_32_method_6_code 1 = .ok (.getfield 13, 3) := by decide +kernel
theorem d18_4 : decode jdk_32_method_6_code 4 = .ok (.ifnull 7, 3) := by decide +kernel
theorem d18_11 : decode jdk_32_method_6_code 11 = .ok (.iconst 0, 1) := by decide +kernel
theorem d18_12 : decode jdk_32_method_6_code 12 = .ok (.ireturn, 1) := by decide +kernel
def Q_rm_oisp0 (Z : State) (a1 : Addr) (h0 : Heap) (n0 : Nat) (v : Option Value) (h : Heap) (L : List Loc) : Prop := v = some (.int (0 : Int32)) ∧ Fr n0 L ∧ h = h0
set_option maxRecDepth 65536 in
set_option maxHeartbeats 40000000 in
theorem rm_oisp0 (l : Launch) (Z : State) (a0 : Array Value) (hw : ∀ d ∈ tables_1, d.before a0 Z = true) (ws : List Jvm.Cond) (a1 : Addr) (h0 : Heap) (n0 : Nat) (Z0 : n0 ≤ h0.size) (O0 : Old Z n0 h0) (F_a1_value : Fld Z h0 a1 cOP "value" dOB .null) :
    MetFree l Y19 (head1 (Cond.code Y19 jdk_32_method_6_code 1 (some .boolean) :: ws) r2) (fun a U => a = #[(.ref a1)] ∧ Z.Warmed39 U.vm ∧ U.heap = h0) (fun _ _ _ _ _ => True) (fun _ U o U' => ∃ v L, o = .returned v ∧ Q_rm_oisp0 Z a1 h0 n0 v U'.heap L ∧ FrameEnd U o U' L r2.cells r2.slots) := by
  refine MetFree.of_bodySF (plainFor_of_name pn_java_util_Optional) hisR ?_
  intro p e s m args below meth c s₁ Bd hml0 hP hK
  obtain ⟨rfl, hZ, hh⟩ := hP
  have hx := Bd.exec
  have hby := Bd.bytes
  have hml : c.maxLocals = 1 := hml0
  have hown : s.vm.findClass cOP = some m.cls := findClass_of_methodNamed Bd.named
  have hnm := (name_of_methodNamed Bd.named Bd.method).1
  have X0 : Stand p l e r2 s m #[(.ref a1)] below meth c s₁ [] 0 0 := Stand.of_body Bd
  have e0 : s₁.heap = h0 := by rw [← hh, Bd.state]; rfl
  have N0 := Fr.nil n0
  refine Goes.out (l := l) (c := c) (R := r2) (Q := Q_rm_oisp0 Z a1 h0 n0) Bd.notSynchronized ?_
  refine Goes.cast (g2 := mkF m 0 #[rv a1] []) (by first | (simp [entryFrame, mkF, argsToLocals, Value.category]; done) | rfl) ?_
  refine gs s₁ (mkF m 1 #[rv a1] [(.ref a1)]) (fun _ hr => XS.aloadN X0.here hx rfl (hb hby d18_0) rfl rfl hr) ?_
  obtain ⟨T37, X37, e37, st37⟩ := getF X0 hx hZ hown (host := "") (Or.inl (tw hw 65 rfl)) Via.refl e0 F_a1_value (g := (mkF m 1 #[rv a1] [(.ref a1)])) rfl rfl (hb hby d18_1)
  refine gs T37 (mkF m 4 #[rv a1] [.null]) st37 ?_
  refine gs T37 (mkF m 11 #[rv a1] []) (fun _ hr => XS.ifnullYes X37.here hx rfl (pc0 := 4) (pc' := 11) rfl (hb hby d18_4) rfl (by decide) (by decide) hr) ?_
  refine gs T37 (mkF m 12 #[rv a1] [(.int (0 : Int32))]) (fun _ hr => XS.iconst X37.here hx rfl (hb hby d18_11) hr) ?_
  exact Goes.ret (v := some (.int (0 : Int32))) X37 (by decide) (by decide) (fun h => by rw [Bd.returns] at h; cases h) ⟨rfl, N0, e37⟩ (fun fs hr => retN X37 hx (t := .boolean) Bd.returns (by simp) (hb hby d18_12) hr)
theorem d19_0 : decode jdk_32_method_15_code 0 = .ok (.aload_n 0, 1) := by decide +kernel
theorem d19_1 : decode jdk_32_method_15_code 1 = .ok (.getfield 13, 3) := by decide +kernel
theorem d19_4 : decode jdk_32_method_15_code 4 = .ok (.ifnull 10, 3) := by decide +kernel
theorem d19_14 : decode jdk_32_method_15_code 14 = .ok (.aload_n 1, 1) := by decide +kernel
theorem d19_15 : decode jdk_32_method_15_code 15 = .ok (.areturn, 1) := by decide +kernel
def Q_rm_oore0 (Z : State) (a1 : Addr) (w2 : Addr) (h0 : Heap) (n0 : Nat) (v : Option Value) (h : Heap) (L : List Loc) : Prop := v = some (.ref w2) ∧ Fr n0 L ∧ h = h0
set_option maxRecDepth 65536 in
set_option maxHeartbeats 40000000 in
theorem rm_oore0 (l : Launch) (Z : State) (a0 : Array Value) (hw : ∀ d ∈ tables_1, d.before a0 Z = true) (ws : List Jvm.Cond) (a1 : Addr) (w2 : Addr) (h0 : Heap) (n0 : Nat) (Z0 : n0 ≤ h0.size) (O0 : Old Z n0 h0) (F_a1_value : Fld Z h0 a1 cOP "value" dOB .null) :
    MetFree l Y20 (head1 (Cond.code Y20 jdk_32_method_15_code 2 (some (.object "java/lang/Object")) :: ws) r2) (fun a U => a = #[(.ref a1), (.ref w2)] ∧ Z.Warmed39 U.vm ∧ U.heap = h0) (fun _ _ _ _ _ => True) (fun _ U o U' => ∃ v L, o = .returned v ∧ Q_rm_oore0 Z a1 w2 h0 n0 v U'.heap L ∧ FrameEnd U o U' L r2.cells r2.slots) := by
  refine MetFree.of_bodySF (plainFor_of_name pn_java_util_Optional) hisR ?_
  intro p e s m args below meth c s₁ Bd hml0 hP hK
  obtain ⟨rfl, hZ, hh⟩ := hP
  have hx := Bd.exec
  have hby := Bd.bytes
  have hml : c.maxLocals = 2 := hml0
  have hown : s.vm.findClass cOP = some m.cls := findClass_of_methodNamed Bd.named
  have hnm := (name_of_methodNamed Bd.named Bd.method).1
  have X0 : Stand p l e r2 s m #[(.ref a1), (.ref w2)] below meth c s₁ [] 0 0 := Stand.of_body Bd
  have e0 : s₁.heap = h0 := by rw [← hh, Bd.state]; rfl
  have N0 := Fr.nil n0
  refine Goes.out (l := l) (c := c) (R := r2) (Q := Q_rm_oore0 Z a1 w2 h0 n0) Bd.notSynchronized ?_
  refine Goes.cast (g2 := mkF m 0 #[rv a1, rv w2] []) (by first | (simp [entryFrame, mkF, argsToLocals, Value.category]; done) | rfl) ?_
  refine gs s₁ (mkF m 1 #[rv a1, rv w2] [(.ref a1)]) (fun _ hr => XS.aloadN X0.here hx rfl (hb hby d19_0) rfl rfl hr) ?_
  obtain ⟨T38, X38, e38, st38⟩ := getF X0 hx hZ hown (host := "") (Or.inl (tw hw 65 rfl)) Via.refl e0 F_a1_value (g := (mkF m 1 #[rv a1, rv w2] [(.ref a1)])) rfl rfl (hb hby d19_1)
  refine gs T38 (mkF m 4 #[rv a1, rv w2] [.null]) st38 ?_
  refine gs T38 (mkF m 14 #[rv a1, rv w2] []) (fun _ hr => XS.ifnullYes X38.here hx rfl (pc0 := 4) (pc' := 14) rfl (hb hby d19_4) rfl (by decide) (by decide) hr) ?_
  refine gs T38 (mkF m 15 #[rv a1, rv w2] [(.ref w2)]) (fun _ hr => XS.aloadN X38.here hx rfl (hb hby d19_14) rfl rfl hr) ?_
  exact Goes.ret (v := some (.ref w2)) X38 (by decide) (by decide) (fun h => by rw [Bd.returns] at h; cases h) ⟨rfl, N0, e38⟩ (fun fs hr => retOut X38 hx Bd.returns rfl (Or.inr (Or.inr (Or.inr (Or.inr ⟨rfl, rfl, rfl⟩)))) (hb hby d19_15) hr)
theorem d17_11 : decode jdk_32_method_7_code 11 = .ok (.iconst 0, 1) := by decide +kernel
def Q_rm_oise1 (Z : State) (a1 : Addr) (w1 : Addr) (h0 : Heap) (n0 : Nat) (v : Option Value) (h : Heap) (L : List Loc) : Prop := v = some (.int (0 : Int32)) ∧ Fr n0 L ∧ h = h0
set_option maxRecDepth 65536 in
set_option maxHeartbeats 40000000 in
theorem rm_oise1 (l : Launch) (Z : State) (a0 : Array Value) (hw : ∀ d ∈ tables_1, d.before a0 Z = true) (ws : List Jvm.Cond) (a1 : Addr) (w1 : Addr) (h0 : Heap) (n0 : Nat) (Z0 : n0 ≤ h0.size) (O0 : Old Z n0 h0) (F_a1_value : Fld Z h0 a1 cOP "value" dOB (.ref w1)) :
    MetFree l Y18 (head1 (Cond.code Y18 jdk_32_method_7_code 1 (some .boolean) :: ws) r2) (fun a U => a = #[(.ref a1)] ∧ Z.Warmed39 U.vm ∧ U.heap = h0) (fun _ _ _ _ _ => True) (fun _ U o U' => ∃ v L, o = .returned v ∧ Q_rm_oise1 Z a1 w1 h0 n0 v U'.heap L ∧ FrameEnd U o U' L r2.cells r2.slots) := by
  refine MetFree.of_bodySF (plainFor_of_name pn_java_util_Optional) hisR ?_
  intro p e s m args below meth c s₁ Bd hml0 hP hK
  obtain ⟨rfl, hZ, hh⟩ := hP
  have hx := Bd.exec
  have hby := Bd.bytes
  have hml : c.maxLocals = 1 := hml0
  have hown : s.vm.findClass cOP = some m.cls := findClass_of_methodNamed Bd.named
  have hnm := (name_of_methodNamed Bd.named Bd.method).1
  have X0 : Stand p l e r2 s m #[(.ref a1)] below meth c s₁ [] 0 0 := Stand.of_body Bd
  have e0 : s₁.heap = h0 := by rw [← hh, Bd.state]; rfl
  have N0 := Fr.nil n0
  refine Goes.out (l := l) (c := c) (R := r2) (Q := Q_rm_oise1 Z a1 w1 h0 n0) Bd.notSynchronized ?_
  refine Goes.cast (g2 := mkF m 0 #[rv a1] []) (by first | (simp [entryFrame, mkF, argsToLocals, Value.category]; done) | rfl) ?_
  refine gs s₁ (mkF m 1 #[rv a1] [(.ref a1)]) (fun _ hr => XS.aloadN X0.here hx rfl (hb hby d17_0) rfl rfl hr) ?_
  obtain ⟨T39, X39, e39, st39⟩ := getF X0 hx hZ hown (host := "") (Or.inl (tw hw 65 rfl)) Via.refl e0 F_a1_value (g := (mkF m 1 #[rv a1] [(.ref a1)])) rfl rfl (hb hby d17_1)
  refine gs T39 (mkF m 4 #[rv a1] [(.ref w1)]) st39 ?_
  refine gs T39 (mkF m 11 #[rv a1] []) (fun _ hr => XT.ifnonnullYes X39.here hx rfl (pc0 := 4) (pc' := 11) rfl (hb hby d17_4) rfl (by decide) (by decide) hr) ?_
  refine gs T39 (mkF m 12 #[rv a1] [(.int (0 : Int32))]) (fun _ hr => XS.iconst X39.here hx rfl (hb hby d17_11) hr) ?_
  exact Goes.ret (v := some (.int (0 : Int32))) X39 (by decide) (by decide) (fun h => by rw [Bd.returns] at h; cases h) ⟨rfl, N0, e39⟩ (fun fs hr => retN X39 hx (t := .boolean) Bd.returns (by simp) (hb hby d17_12) hr)
theorem d18_7 : decode jdk_32_method_6_code 7 = .ok (.iconst 1, 1) := by decide +kernel
theorem d18_8 : decode jdk_32_method_6_code 8 = .ok (.goto 4, 3) := by decide +kernel
def Q_rm_oisp1 (Z : State) (a1 : Addr) (w1 : Addr) (h0 : Heap) (n0 : Nat) (v : Option Value) (h : Heap) (L : List Loc) : Prop := v = some (.int (1 : Int32)) ∧ Fr n0 L ∧ h = h0
set_option maxRecDepth 65536 in
set_option maxHeartbeats 40000000 in
theorem rm_oisp1 (l : Launch) (Z : State) (a0 : Array Value) (hw : ∀ d ∈ tables_1, d.before a0 Z = true) (ws : List Jvm.Cond) (a1 : Addr) (w1 : Addr) (h0 : Heap) (n0 : Nat) (Z0 : n0 ≤ h0.size) (O0 : Old Z n0 h0) (F_a1_value : Fld Z h0 a1 cOP "value" dOB (.ref w1)) :
    MetFree l Y19 (head1 (Cond.code Y19 jdk_32_method_6_code 1 (some .boolean) :: ws) r2) (fun a U => a = #[(.ref a1)] ∧ Z.Warmed39 U.vm ∧ U.heap = h0) (fun _ _ _ _ _ => True) (fun _ U o U' => ∃ v L, o = .returned v ∧ Q_rm_oisp1 Z a1 w1 h0 n0 v U'.heap L ∧ FrameEnd U o U' L r2.cells r2.slots) := by
  refine MetFree.of_bodySF (plainFor_of_name pn_java_util_Optional) hisR ?_
  intro p e s m args below meth c s₁ Bd hml0 hP hK
  obtain ⟨rfl, hZ, hh⟩ := hP
  have hx := Bd.exec
  have hby := Bd.bytes
  have hml : c.maxLocals = 1 := hml0
  have hown : s.vm.findClass cOP = some m.cls := findClass_of_methodNamed Bd.named
  have hnm := (name_of_methodNamed Bd.named Bd.method).1
  have X0 : Stand p l e r2 s m #[(.ref a1)] below meth c s₁ [] 0 0 := Stand.of_body Bd
  have e0 : s₁.heap = h0 := by rw [← hh, Bd.state]; rfl
  have N0 := Fr.nil n0
  refine Goes.out (l := l) (c := c) (R := r2) (Q := Q_rm_oisp1 Z a1 w1 h0 n0) Bd.notSynchronized ?_
  refine Goes.cast (g2 := mkF m 0 #[rv a1] []) (by first | (simp [entryFrame, mkF, argsToLocals, Value.category]; done) | rfl) ?_
  refine gs s₁ (mkF m 1 #[rv a1] [(.ref a1)]) (fun _ hr => XS.aloadN X0.here hx rfl (hb hby d18_0) rfl rfl hr) ?_
  obtain ⟨T40, X40, e40, st40⟩ := getF X0 hx hZ hown (host := "") (Or.inl (tw hw 65 rfl)) Via.refl e0 F_a1_value (g := (mkF m 1 #[rv a1] [(.ref a1)])) rfl rfl (hb hby d18_1)
  refine gs T40 (mkF m 4 #[rv a1] [(.ref w1)]) st40 ?_
  refine gs T40 (mkF m 7 #[rv a1] []) (fun _ hr => XS.ifnullNo X40.here hx rfl (hb hby d18_4) rfl hr) ?_
  refine gs T40 (mkF m 8 #[rv a1] [(.int (1 : Int32))]) (fun _ hr => XS.iconst X40.here hx rfl (hb hby d18_7) hr) ?_
  refine gs T40 (mkF m 12 #[rv a1] [(.int (1 : Int32))]) (fun _ hr => XS.goto X40.here hx rfl (pc0 := 8) (pc' := 12) rfl (hb hby d18_8) (by decide) (by decide) hr) ?_
  exact Goes.ret (v := some (.int (1 : Int32))) X40 (by decide) (by decide) (fun h => by rw [Bd.returns] at h; cases h) ⟨rfl, N0, e40⟩ (fun fs hr => retN X40 hx (t := .boolean) Bd.returns (by simp) (hb hby d18_12) hr)
theorem d19_7 : decode jdk_32_method_15_code 7 = .ok (.aload_n 0, 1) := by decide +kernel
theorem d19_8 : decode jdk_32_method_15_code 8 = .ok (.getfield 13, 3) := by decide +kernel
theorem d19_11 : decode jdk_32_method_15_code 11 = .ok (.goto 4, 3) := by decide +kernel
def Q_rm_oore1 (Z : State) (a1 : Addr) (w1 : Addr) (w2 : Addr) (h0 : Heap) (n0 : Nat) (v : Option Value) (h : Heap) (L : List Loc) : Prop := v = some (.ref w1) ∧ Fr n0 L ∧ h = h0
set_option maxRecDepth 65536 in
set_option maxHeartbeats 40000000 in
theorem rm_oore1 (l : Launch) (Z : State) (a0 : Array Value) (hw : ∀ d ∈ tables_1, d.before a0 Z = true) (ws : List Jvm.Cond) (a1 : Addr) (w1 : Addr) (w2 : Addr) (h0 : Heap) (n0 : Nat) (Z0 : n0 ≤ h0.size) (O0 : Old Z n0 h0) (F_a1_value : Fld Z h0 a1 cOP "value" dOB (.ref w1)) :
    MetFree l Y20 (head1 (Cond.code Y20 jdk_32_method_15_code 2 (some (.object "java/lang/Object")) :: ws) r2) (fun a U => a = #[(.ref a1), (.ref w2)] ∧ Z.Warmed39 U.vm ∧ U.heap = h0) (fun _ _ _ _ _ => True) (fun _ U o U' => ∃ v L, o = .returned v ∧ Q_rm_oore1 Z a1 w1 w2 h0 n0 v U'.heap L ∧ FrameEnd U o U' L r2.cells r2.slots) := by
  refine MetFree.of_bodySF (plainFor_of_name pn_java_util_Optional) hisR ?_
  intro p e s m args below meth c s₁ Bd hml0 hP hK
  obtain ⟨rfl, hZ, hh⟩ := hP
  have hx := Bd.exec
  have hby := Bd.bytes
  have hml : c.maxLocals = 2 := hml0
  have hown : s.vm.findClass cOP = some m.cls := findClass_of_methodNamed Bd.named
  have hnm := (name_of_methodNamed Bd.named Bd.method).1
  have X0 : Stand p l e r2 s m #[(.ref a1), (.ref w2)] below meth c s₁ [] 0 0 := Stand.of_body Bd
  have e0 : s₁.heap = h0 := by rw [← hh, Bd.state]; rfl
  have N0 := Fr.nil n0
  refine Goes.out (l := l) (c := c) (R := r2) (Q := Q_rm_oore1 Z a1 w1 w2 h0 n0) Bd.notSynchronized ?_
  refine Goes.cast (g2 := mkF m 0 #[rv a1, rv w2] []) (by first | (simp [entryFrame, mkF, argsToLocals, Value.category]; done) | rfl) ?_
  refine gs s₁ (mkF m 1 #[rv a1, rv w2] [(.ref a1)]) (fun _ hr => XS.aloadN X0.here hx rfl (hb hby d19_0) rfl rfl hr) ?_
  obtain ⟨T41, X41, e41, st41⟩ := getF X0 hx hZ hown (host := "") (Or.inl (tw hw 65 rfl)) Via.refl e0 F_a1_value (g := (mkF m 1 #[rv a1, rv w2] [(.ref a1)])) rfl rfl (hb hby d19_1)
  refine gs T41 (mkF m 4 #[rv a1, rv w2] [(.ref w1)]) st41 ?_
  refine gs T41 (mkF m 7 #[rv a1, rv w2] []) (fun _ hr => XS.ifnullNo X41.here hx rfl (hb hby d19_4) rfl hr) ?_
  refine gs T41 (mkF m 8 #[rv a1, rv w2] [(.ref a1)]) (fun _ hr => XS.aloadN X41.here hx rfl (hb hby d19_7) rfl rfl hr) ?_
  obtain ⟨T42, X42, e42, st42⟩ := getF X41 hx hZ hown (host := "") (Or.inl (tw hw 65 rfl)) Via.refl e41 F_a1_value (g := (mkF m 8 #[rv a1, rv w2] [(.ref a1)])) rfl rfl (hb hby d19_8)
  refine gs T42 (mkF m 11 #[rv a1, rv w2] [(.ref w1)]) st42 ?_
  refine gs T42 (mkF m 15 #[rv a1, rv w2] [(.ref w1)]) (fun _ hr => XS.goto X42.here hx rfl (pc0 := 11) (pc' := 15) rfl (hb hby d19_11) (by decide) (by decide) hr) ?_
  exact Goes.ret (v := some (.ref w1)) X42 (by decide) (by decide) (fun h => by rw [Bd.returns] at h; cases h) ⟨rfl, N0, e42⟩ (fun fs hr => retOut X42 hx Bd.returns rfl (Or.inr (Or.inr (Or.inr (Or.inr ⟨rfl, rfl, rfl⟩)))) (hb hby d19_15) hr)
theorem d20_0 : decode prog_18_method_2_code 0 = .ok (.aload_n 0, 1) := by decide +kernel
theorem d20_1 : decode prog_18_method_2_code 1 = .ok (.invokevirtual 7, 3) := by decide +kernel
theorem d20_4 : decode prog_18_method_2_code 4 = .ok (.ifCond .ne 22, 3) := by decide +kernel
theorem d20_7 : decode prog_18_method_2_code 7 = .ok (.aload_n 1, 1) := by decide +kernel
theorem d20_8 : decode prog_18_method_2_code 8 = .ok (.invokevirtual 7, 3) := by decide +kernel
theorem d20_11 : decode prog_18_method_2_code 11 = .ok (.ifCond .ne 15, 3) := by decide +kernel
theorem d20_14 : decode prog_18_method_2_code 14 = .ok (.aload_n 1, 1) := by decide +kernel
theorem d20_15 : decode prog_18_method_2_code 15 = .ok (.invokevirtual 13, 3) := by decide +kernel
theorem d20_18 : decode prog_18_method_2_code 18 = .ok (.aload_n 0, 1) := by decide +kernel
theorem d20_19 : decode prog_18_method_2_code 19 = .ok (.invokevirtual 13, 3) := by decide +kernel
theorem d20_22 : decode prog_18_method_2_code 22 = .ok (.lcmp, 1) := by decide +kernel
theorem d20_23 : decode prog_18_method_2_code 23 = .ok (.ifCond .le 10, 3) := by decide +kernel
theorem d20_26 : decode prog_18_method_2_code 26 = .ok (.invokestatic 17, 3) := by decide +kernel
theorem d20_29 : decode prog_18_method_2_code 29 = .ok (.astore_n 2, 1) := by decide +kernel
theorem d20_30 : decode prog_18_method_2_code 30 = .ok (.goto 16, 3) := by decide +kernel
theorem d20_46 : decode prog_18_method_2_code 46 = .ok (.aload_n 2, 1) := by decide +kernel
theorem d20_47 : decode prog_18_method_2_code 47 = .ok (.areturn, 1) := by decide +kernel
theorem pn_com_example_log_lag_gauge_loglaggauge_model_Trailing : plainName "com/example/log_lag_gauge/loglaggauge/model/Trailing" = true := by first | (simp [plainName, overriddenIn]; done) | decide +kernel
def Q_rm_offgt (Z : State) (a1 : Addr) (a2 : Addr) (q1 : Int64) (q2 : Int64) (em : Addr) (h0 : Heap) (n0 : Nat) (v : Option Value) (h : Heap) (L : List Loc) : Prop := v = some (.ref em) ∧ Fr n0 L ∧ Keep h0 h []
set_option maxRecDepth 65536 in
set_option maxHeartbeats 40000000 in
theorem rm_offgt (l : Launch) (Z : State) (a0 : Array Value) (hw : ∀ d ∈ tables_1, d.before a0 Z = true) (ws : List Jvm.Cond) (a1 : Addr) (a2 : Addr) (q1 : Int64) (q2 : Int64) (em : Addr) (h0 : Heap) (n0 : Nat) (Z0 : n0 ≤ h0.size) (O0 : Old Z n0 h0) (E_a1 : Exa Z h0 a1 cOL) (F_a1_isPresent : Fld Z h0 a1 cOL nIP "Z" (.int (1 : Int32))) (F_a1_value : Fld Z h0 a1 cOL "value" "J" (.long q2)) (E_a2 : Exa Z h0 a2 cOL) (F_a2_isPresent : Fld Z h0 a2 cOL nIP "Z" (.int (1 : Int32))) (F_a2_value : Fld Z h0 a2 cOL "value" "J" (.long q1)) (S_OptionalLong_EMPTY_old : Sta Z Z.heap cOL "EMPTY" dOL (.ref em)) (E_em_old : Exa Z Z.heap em cOL) (F_em_isPresent_old : Fld Z Z.heap em cOL nIP "Z" (.int (0 : Int32))) (F_em_value_old : Fld Z Z.heap em cOL "value" "J" (.long (0 : Int64))) (hgt : (0 : Int32) < (XT.cmpL q1 q2)) :
    MetFree l Y21 (head1 (Cond.code Y21 prog_18_method_2_code 3 (some (.object cOL)) :: ws) r4) (fun a U => a = #[(.ref a1), (.ref a2)] ∧ Z.Warmed39 U.vm ∧ U.heap = h0) (fun _ _ _ _ _ => True) (fun _ U o U' => ∃ v L, o = .returned v ∧ Q_rm_offgt Z a1 a2 q1 q2 em h0 n0 v U'.heap L ∧ FrameEnd U o U' L r4.cells r4.slots) := by
  refine MetFree.of_bodySF (plainFor_of_name pn_com_example_log_lag_gauge_loglaggauge_model_Trailing) hisR ?_
  intro p e s m args below meth c s₁ Bd hml0 hP hK
  obtain ⟨rfl, hZ, hh⟩ := hP
  have hx := Bd.exec
  have hby := Bd.bytes
  have hml : c.maxLocals = 3 := hml0
  have hown : s.vm.findClass "com/example/log_lag_gauge/loglaggauge/model/Trailing" = some m.cls := findClass_of_methodNamed Bd.named
  have hnm := (name_of_methodNamed Bd.named Bd.method).1
  have X0 : Stand p l e r4 s m #[(.ref a1), (.ref a2)] below meth c s₁ [] 0 0 := Stand.of_body Bd
  have e0 : s₁.heap = h0 := by rw [← hh, Bd.state]; rfl
  have N0 := Fr.nil n0
  refine Goes.out (l := l) (c := c) (R := r4) (Q := Q_rm_offgt Z a1 a2 q1 q2 em h0 n0) Bd.notSynchronized ?_
  refine Goes.cast (g2 := mkF m 0 #[rv a1, rv a2, .unset] []) (by first | (simp [entryFrame, mkF, argsToLocals, Value.category]; done) | rfl) ?_
  have K0 : Keep h0 h0 [] := Keep.refl h0 _
  have hws : ∀ x ∈ ([] : List Addr), n0 ≤ x := all0
  refine gs s₁ (mkF m 1 #[rv a1, rv a2, .unset] [(.ref a1)]) (fun _ hr => XS.aloadN X0.here hx rfl (hb hby d20_0) rfl rfl hr) ?_
  have Zs43 : n0 ≤ h0.size := Nat.le_trans Z0 K0.1
  obtain ⟨cq44, kq44, q44a, q44b, q44c⟩ := isOf hZ e0 E_a1
  obtain ⟨_, _, ⟨T44, L44, k44, n44⟩, -, X44, ⟨Lc44, hQ44, l44, y44, z44⟩, st44⟩ := X0.virtualBack hx (y := Y6) (z := Y6) hown (mvT hZ (tw hw 148 rfl)) (mvT hZ (tw hw 77 rfl)) (notFace_of_selects (args := #[]) (mvT hZ (tw hw 79 rfl))) (mvT hZ (tw hw 79 rfl)) (mvT hZ (tw hw 78 rfl)) (by decide) (backOf (W := 0) (rm_ole1 l Z a0 hw [] a1 h0 n0 Zs43 (Old.keep O0 K0 hws) F_a1_isPresent) hZ (tw hw 80 rfl) (tw hw 3 rfl) (by decide) (by decide)) q44a q44c (g := (mkF m 1 #[rv a1, rv a2, .unset] [(.ref a1)])) rfl (by rw [hml]; rfl) (Steps.refl _) (argsL := []) (rest := []) (lenOf pd_1 rfl) rfl (wle rfl) (hb hby d20_1) (fun _ _ => ⟨rfl, e0, (by decide : 0 + 0 ≤ _), (by decide : 0 + 0 ≤ _)⟩)
  dsimp only [Pt.U, Pt.locs, Pt.cells, Pt.slots] at X44 l44 y44 z44 st44 hQ44
  subst l44 y44 z44
  obtain ⟨rfl, N44q, e44⟩ := hQ44
  have N44 := Fr.app N0 N44q
  refine gs T44 (mkF m 4 #[rv a1, rv a2, .unset] [(.int (0 : Int32))]) (fun _ hr => st44.trans hr) ?_
  refine gs T44 (mkF m 7 #[rv a1, rv a2, .unset] []) (fun _ hr => XS.ifNo X44.here hx rfl (hb hby d20_4) rfl ((if0 _ _).trans (teq (by decide : (0 : Int32) = (0 : Int32))).2) hr) ?_
  refine gs T44 (mkF m 8 #[rv a1, rv a2, .unset] [(.ref a2)]) (fun _ hr => XS.aloadN X44.here hx rfl (hb hby d20_7) rfl rfl hr) ?_
  have Zs45 : n0 ≤ h0.size := Nat.le_trans Z0 K0.1
  obtain ⟨cq46, kq46, q46a, q46b, q46c⟩ := isOf hZ e44 E_a2
  obtain ⟨_, _, ⟨T46, L46, k46, n46⟩, -, X46, ⟨Lc46, hQ46, l46, y46, z46⟩, st46⟩ := X44.virtualBack hx (y := Y6) (z := Y6) hown (mvT hZ (tw hw 148 rfl)) (mvT hZ (tw hw 77 rfl)) (notFace_of_selects (args := #[]) (mvT hZ (tw hw 79 rfl))) (mvT hZ (tw hw 79 rfl)) (mvT hZ (tw hw 78 rfl)) (by decide) (backOf (W := 0) (rm_ole1 l Z a0 hw [] a2 h0 n0 Zs45 (Old.keep O0 K0 hws) F_a2_isPresent) hZ (tw hw 80 rfl) (tw hw 3 rfl) (by decide) (by decide)) q46a q46c (g := (mkF m 8 #[rv a1, rv a2, .unset] [(.ref a2)])) rfl (by rw [hml]; rfl) (Steps.refl _) (argsL := []) (rest := []) (lenOf pd_1 rfl) rfl (wle rfl) (hb hby d20_8) (fun _ _ => ⟨rfl, e44, (by decide : 0 + 0 ≤ _), (by decide : 0 + 0 ≤ _)⟩)
  dsimp only [Pt.U, Pt.locs, Pt.cells, Pt.slots] at X46 l46 y46 z46 st46 hQ46
  subst l46 y46 z46
  obtain ⟨rfl, N46q, e46⟩ := hQ46
  have N46 := Fr.app N44 N46q
  refine gs T46 (mkF m 11 #[rv a1, rv a2, .unset] [(.int (0 : Int32))]) (fun _ hr => st46.trans hr) ?_
  refine gs T46 (mkF m 14 #[rv a1, rv a2, .unset] []) (fun _ hr => XS.ifNo X46.here hx rfl (hb hby d20_11) rfl ((if0 _ _).trans (teq (by decide : (0 : Int32) = (0 : Int32))).2) hr) ?_
  refine gs T46 (mkF m 15 #[rv a1, rv a2, .unset] [(.ref a2)]) (fun _ hr => XS.aloadN X46.here hx rfl (hb hby d20_14) rfl rfl hr) ?_
  have Zs47 : n0 ≤ h0.size := Nat.le_trans Z0 K0.1
  obtain ⟨cq48, kq48, q48a, q48b, q48c⟩ := isOf hZ e46 E_a2
  obtain ⟨_, _, ⟨T48, L48, k48, n48⟩, -, X48, ⟨Lc48, hQ48, l48, y48, z48⟩, st48⟩ := X46.virtualBack hx (y := Y7) (z := Y7) hown (mvT hZ (tw hw 149 rfl)) (mvT hZ (tw hw 150 rfl)) (notFace_of_selects (args := #[]) (mvT hZ (tw hw 152 rfl))) (mvT hZ (tw hw 152 rfl)) (mvT hZ (tw hw 151 rfl)) (by decide) (backOf (W := 0) (rm_olg l Z a0 hw [] a2 q1 h0 n0 Zs47 (Old.keep O0 K0 hws) F_a2_isPresent F_a2_value) hZ (tw hw 153 rfl) (tw hw 3 rfl) (by decide) (by decide)) q48a q48c (g := (mkF m 15 #[rv a1, rv a2, .unset] [(.ref a2)])) rfl (by rw [hml]; rfl) (Steps.refl _) (argsL := []) (rest := []) (lenOf pd_5 rfl) rfl (wle rfl) (hb hby d20_15) (fun _ _ => ⟨rfl, e46, (by decide : 0 + 0 ≤ _), (by decide : 0 + 0 ≤ _)⟩)
  dsimp only [Pt.U, Pt.locs, Pt.cells, Pt.slots] at X48 l48 y48 z48 st48 hQ48
  subst l48 y48 z48
  obtain ⟨rfl, N48q, e48⟩ := hQ48
  have N48 := Fr.app N46 N48q
  refine gs T48 (mkF m 18 #[rv a1, rv a2, .unset] [(.long q1)]) (fun _ hr => st48.trans hr) ?_
  refine gs T48 (mkF m 19 #[rv a1, rv a2, .unset] [(.ref a1), (.long q1)]) (fun _ hr => XS.aloadN X48.here hx rfl (hb hby d20_18) rfl rfl hr) ?_
  have Zs49 : n0 ≤ h0.size := Nat.le_trans Z0 K0.1
  obtain ⟨cq50, kq50, q50a, q50b, q50c⟩ := isOf hZ e48 E_a1
  obtain ⟨_, _, ⟨T50, L50, k50, n50⟩, -, X50, ⟨Lc50, hQ50, l50, y50, z50⟩, st50⟩ := X48.virtualBack hx (y := Y7) (z := Y7) hown (mvT hZ (tw hw 149 rfl)) (mvT hZ (tw hw 150 rfl)) (notFace_of_selects (args := #[]) (mvT hZ (tw hw 152 rfl))) (mvT hZ (tw hw 152 rfl)) (mvT hZ (tw hw 151 rfl)) (by decide) (backOf (W := 2) (rm_olg l Z a0 hw [] a1 q2 h0 n0 Zs49 (Old.keep O0 K0 hws) F_a1_isPresent F_a1_value) hZ (tw hw 153 rfl) (tw hw 3 rfl) (by decide) (by decide)) q50a q50c (g := (mkF m 19 #[rv a1, rv a2, .unset] [(.ref a1), (.long q1)])) rfl (by rw [hml]; rfl) (Steps.refl _) (argsL := []) (rest := [(.long q1)]) (lenOf pd_5 rfl) rfl (wle rfl) (hb hby d20_19) (fun _ _ => ⟨rfl, e48, (by decide : 0 + 0 ≤ _), (by decide : 0 + 0 ≤ _)⟩)
  dsimp only [Pt.U, Pt.locs, Pt.cells, Pt.slots] at X50 l50 y50 z50 st50 hQ50
  subst l50 y50 z50
  obtain ⟨rfl, N50q, e50⟩ := hQ50
  have N50 := Fr.app N48 N50q
  refine gs T50 (mkF m 22 #[rv a1, rv a2, .unset] [(.long q2), (.long q1)]) (fun _ hr => st50.trans hr) ?_
  refine gs T50 (mkF m 23 #[rv a1, rv a2, .unset] [(.int (XT.cmpL q1 q2))]) (fun _ hr => XT.lcmp X50.here hx rfl (hb hby d20_22) rfl hr) ?_
  refine gs T50 (mkF m 26 #[rv a1, rv a2, .unset] []) (fun _ hr => XS.ifNo X50.here hx rfl (hb hby d20_23) rfl ((if0 _ _).trans (tlt (hgt : (0 : Int32) < (XT.cmpL q1 q2))).2.2.2) hr) ?_
  have Zs51 : n0 ≤ h0.size := Nat.le_trans Z0 K0.1
  obtain ⟨_, _, ⟨T52, L52, k52, n52⟩, -, X52, ⟨Lc52, hQ52, l52, y52, z52⟩, st52⟩ := LawKit.callS X50 hx (y := Y4) hown (mvT hZ (tw hw 154 rfl)) (mvT hZ (tw hw 2 rfl)) (mvT hZ (tw hw 3 rfl)) (mvT hZ (tw hw 4 rfl)) (by decide) (backOf (W := 0) (rm_olem l Z a0 hw [] em h0 n0 Zs51 (Old.keep O0 K0 hws) S_OptionalLong_EMPTY_old) hZ (tw hw 4 rfl) (tw hw 3 rfl) (by decide) (by decide)) (g := (mkF m 26 #[rv a1, rv a2, .unset] [])) rfl (by rw [hml]; rfl) (argsL := []) (rest := []) (lenOf pd_6 rfl) rfl (wle rfl) (hb hby d20_26) (fun _ _ => ⟨rfl, e50, (by decide : 0 + 0 ≤ _), (by decide : 0 + 0 ≤ _)⟩)
  dsimp only [Pt.U, Pt.locs, Pt.cells, Pt.slots] at X52 l52 y52 z52 st52 hQ52
  subst l52 y52 z52
  obtain ⟨rfl, N52q, e52⟩ := hQ52
  have N52 := Fr.app N50 N52q
  refine gs T52 (mkF m 29 #[rv a1, rv a2, .unset] [(.ref em)]) st52 ?_
  refine gs T52 (mkF m 30 #[rv a1, rv a2, rv em] []) (fun _ hr => XS.astoreN X52.here hx rfl (hb hby d20_29) rfl rfl (l' := #[rv a1, rv a2, rv em]) rfl hr) ?_
  refine gs T52 (mkF m 46 #[rv a1, rv a2, rv em] []) (fun _ hr => XS.goto X52.here hx rfl (pc0 := 30) (pc' := 46) rfl (hb hby d20_30) (by decide) (by decide) hr) ?_
  refine gs T52 (mkF m 47 #[rv a1, rv a2, rv em] [(.ref em)]) (fun _ hr => XS.aloadN X52.here hx rfl (hb hby d20_46) rfl rfl hr) ?_
  exact Goes.ret (v := some (.ref em)) X52 (by decide) (by decide) (fun h => by rw [Bd.returns] at h; cases h) (by show Q_rm_offgt Z a1 a2 q1 q2 em h0 n0 _ T52.heap _; rw [e52]; exact ⟨rfl, N52, K0⟩) (fun fs hr => retOut X52 hx Bd.returns rfl (Or.inr (Or.inr (Or.inr (Or.inr ⟨rfl, rfl, rfl⟩)))) (hb hby d20_47) hr)
theorem d20_33 : decode prog_18_method_2_code 33 = .ok (.aload_n 0, 1) := by decide +kernel
theorem d20_34 : decode prog_18_method_2_code 34 = .ok (.invokevirtual 13, 3) := by decide +kernel
theorem d20_37 : decode prog_18_method_2_code 37 = .ok (.aload_n 1, 1) := by decide +kernel
theorem d20_38 : decode prog_18_method_2_code 38 = .ok (.invokevirtual 13, 3) := by decide +kernel
theorem d20_41 : decode prog_18_method_2_code 41 = .ok (.lsub, 1) := by decide +kernel
theorem d20_42 : decode prog_18_method_2_code 42 = .ok (.invokestatic 21, 3) := by decide +kernel
theorem d20_45 : decode prog_18_method_2_code 45 = .ok (.astore_n 2, 1) := by decide +kernel
def Q_rm_offle (Z : State) (a1 : Addr) (a2 : Addr) (q1 : Int64) (q2 : Int64) (em : Addr) (h0 : Heap) (n0 : Nat) (v : Option Value) (h : Heap) (L : List Loc) : Prop := ∃ w : Addr, v = some (.ref w) ∧ Fr n0 L ∧ Keep h0 h [] ∧ h0.size ≤ w ∧ Exa Z h w cOL ∧ Fld Z h w cOL nIP "Z" (.int (1 : Int32)) ∧ Fld Z h w cOL "value" "J" (.long (q2 - q1))
set_option maxRecDepth 65536 in
set_option maxHeartbeats 40000000 in
theorem rm_offle (l : Launch) (Z : State) (a0 : Array Value) (hw : ∀ d ∈ tables_1, d.before a0 Z = true) (ws : List Jvm.Cond) (a1 : Addr) (a2 : Addr) (q1 : Int64) (q2 : Int64) (em : Addr) (h0 : Heap) (n0 : Nat) (Z0 : n0 ≤ h0.size) (O0 : Old Z n0 h0) (E_a1 : Exa Z h0 a1 cOL) (F_a1_isPresent : Fld Z h0 a1 cOL nIP "Z" (.int (1 : Int32))) (F_a1_value : Fld Z h0 a1 cOL "value" "J" (.long q2)) (E_a2 : Exa Z h0 a2 cOL) (F_a2_isPresent : Fld Z h0 a2 cOL nIP "Z" (.int (1 : Int32))) (F_a2_value : Fld Z h0 a2 cOL "value" "J" (.long q1)) (S_OptionalLong_EMPTY_old : Sta Z Z.heap cOL "EMPTY" dOL (.ref em)) (E_em_old : Exa Z Z.heap em cOL) (F_em_isPresent_old : Fld Z Z.heap em cOL nIP "Z" (.int (0 : Int32))) (F_em_value_old : Fld Z Z.heap em cOL "value" "J" (.long (0 : Int64))) (hle : ¬ ((0 : Int32) < (XT.cmpL q1 q2))) :
    MetFree l Y21 (head1 (Cond.code Y21 prog_18_method_2_code 3 (some (.object cOL)) :: ws) r5) (fun a U => a = #[(.ref a1), (.ref a2)] ∧ Z.Warmed39 U.vm ∧ U.heap = h0) (fun _ _ _ _ _ => True) (fun _ U o U' => ∃ v L, o = .returned v ∧ Q_rm_offle Z a1 a2 q1 q2 em h0 n0 v U'.heap L ∧ FrameEnd U o U' L r5.cells r5.slots) := by
  refine MetFree.of_bodySF (plainFor_of_name pn_com_example_log_lag_gauge_loglaggauge_model_Trailing) hisR ?_
  intro p e s m args below meth c s₁ Bd hml0 hP hK
  obtain ⟨rfl, hZ, hh⟩ := hP
  have hx := Bd.exec
  have hby := Bd.bytes
  have hml : c.maxLocals = 3 := hml0
  have hown : s.vm.findClass "com/example/log_lag_gauge/loglaggauge/model/Trailing" = some m.cls := findClass_of_methodNamed Bd.named
  have hnm := (name_of_methodNamed Bd.named Bd.method).1
  have X0 : Stand p l e r5 s m #[(.ref a1), (.ref a2)] below meth c s₁ [] 0 0 := Stand.of_body Bd
  have e0 : s₁.heap = h0 := by rw [← hh, Bd.state]; rfl
  have N0 := Fr.nil n0
  refine Goes.out (l := l) (c := c) (R := r5) (Q := Q_rm_offle Z a1 a2 q1 q2 em h0 n0) Bd.notSynchronized ?_
  refine Goes.cast (g2 := mkF m 0 #[rv a1, rv a2, .unset] []) (by first | (simp [entryFrame, mkF, argsToLocals, Value.category]; done) | rfl) ?_
  have K0 : Keep h0 h0 [] := Keep.refl h0 _
  have hws : ∀ x ∈ ([] : List Addr), n0 ≤ x := all0
  refine gs s₁ (mkF m 1 #[rv a1, rv a2, .unset] [(.ref a1)]) (fun _ hr => XS.aloadN X0.here hx rfl (hb hby d20_0) rfl rfl hr) ?_
  have Zs53 : n0 ≤ h0.size := Nat.le_trans Z0 K0.1
  obtain ⟨cq54, kq54, q54a, q54b, q54c⟩ := isOf hZ e0 E_a1
  obtain ⟨_, _, ⟨T54, L54, k54, n54⟩, -, X54, ⟨Lc54, hQ54, l54, y54, z54⟩, st54⟩ := X0.virtualBack hx (y := Y6) (z := Y6) hown (mvT hZ (tw hw 148 rfl)) (mvT hZ (tw hw 77 rfl)) (notFace_of_selects (args := #[]) (mvT hZ (tw hw 79 rfl))) (mvT hZ (tw hw 79 rfl)) (mvT hZ (tw hw 78 rfl)) (by decide) (backOf (W := 0) (rm_ole1 l Z a0 hw [] a1 h0 n0 Zs53 (Old.keep O0 K0 hws) F_a1_isPresent) hZ (tw hw 80 rfl) (tw hw 3 rfl) (by decide) (by decide)) q54a q54c (g := (mkF m 1 #[rv a1, rv a2, .unset] [(.ref a1)])) rfl (by rw [hml]; rfl) (Steps.refl _) (argsL := []) (rest := []) (lenOf pd_1 rfl) rfl (wle rfl) (hb hby d20_1) (fun _ _ => ⟨rfl, e0, (by decide : 0 + 0 ≤ _), (by decide : 0 + 0 ≤ _)⟩)
  dsimp only [Pt.U, Pt.locs, Pt.cells, Pt.slots] at X54 l54 y54 z54 st54 hQ54
  subst l54 y54 z54
  obtain ⟨rfl, N54q, e54⟩ := hQ54
  have N54 := Fr.app N0 N54q
  refine gs T54 (mkF m 4 #[rv a1, rv a2, .unset] [(.int (0 : Int32))]) (fun _ hr => st54.trans hr) ?_
  refine gs T54 (mkF m 7 #[rv a1, rv a2, .unset] []) (fun _ hr => XS.ifNo X54.here hx rfl (hb hby d20_4) rfl ((if0 _ _).trans (teq (by decide : (0 : Int32) = (0 : Int32))).2) hr) ?_
  refine gs T54 (mkF m 8 #[rv a1, rv a2, .unset] [(.ref a2)]) (fun _ hr => XS.aloadN X54.here hx rfl (hb hby d20_7) rfl rfl hr) ?_
  have Zs55 : n0 ≤ h0.size := Nat.le_trans Z0 K0.1
  obtain ⟨cq56, kq56, q56a, q56b, q56c⟩ := isOf hZ e54 E_a2
  obtain ⟨_, _, ⟨T56, L56, k56, n56⟩, -, X56, ⟨Lc56, hQ56, l56, y56, z56⟩, st56⟩ := X54.virtualBack hx (y := Y6) (z := Y6) hown (mvT hZ (tw hw 148 rfl)) (mvT hZ (tw hw 77 rfl)) (notFace_of_selects (args := #[]) (mvT hZ (tw hw 79 rfl))) (mvT hZ (tw hw 79 rfl)) (mvT hZ (tw hw 78 rfl)) (by decide) (backOf (W := 0) (rm_ole1 l Z a0 hw [] a2 h0 n0 Zs55 (Old.keep O0 K0 hws) F_a2_isPresent) hZ (tw hw 80 rfl) (tw hw 3 rfl) (by decide) (by decide)) q56a q56c (g := (mkF m 8 #[rv a1, rv a2, .unset] [(.ref a2)])) rfl (by rw [hml]; rfl) (Steps.refl _) (argsL := []) (rest := []) (lenOf pd_1 rfl) rfl (wle rfl) (hb hby d20_8) (fun _ _ => ⟨rfl, e54, (by decide : 0 + 0 ≤ _), (by decide : 0 + 0 ≤ _)⟩)
  dsimp only [Pt.U, Pt.locs, Pt.cells, Pt.slots] at X56 l56 y56 z56 st56 hQ56
  subst l56 y56 z56
  obtain ⟨rfl, N56q, e56⟩ := hQ56
  have N56 := Fr.app N54 N56q
  refine gs T56 (mkF m 11 #[rv a1, rv a2, .unset] [(.int (0 : Int32))]) (fun _ hr => st56.trans hr) ?_
  refine gs T56 (mkF m 14 #[rv a1, rv a2, .unset] []) (fun _ hr => XS.ifNo X56.here hx rfl (hb hby d20_11) rfl ((if0 _ _).trans (teq (by decide : (0 : Int32) = (0 : Int32))).2) hr) ?_
  refine gs T56 (mkF m 15 #[rv a1, rv a2, .unset] [(.ref a2)]) (fun _ hr => XS.aloadN X56.here hx rfl (hb hby d20_14) rfl rfl hr) ?_
  have Zs57 : n0 ≤ h0.size := Nat.le_trans Z0 K0.1
  obtain ⟨cq58, kq58, q58a, q58b, q58c⟩ := isOf hZ e56 E_a2
  obtain ⟨_, _, ⟨T58, L58, k58, n58⟩, -, X58, ⟨Lc58, hQ58, l58, y58, z58⟩, st58⟩ := X56.virtualBack hx (y := Y7) (z := Y7) hown (mvT hZ (tw hw 149 rfl)) (mvT hZ (tw hw 150 rfl)) (notFace_of_selects (args := #[]) (mvT hZ (tw hw 152 rfl))) (mvT hZ (tw hw 152 rfl)) (mvT hZ (tw hw 151 rfl)) (by decide) (backOf (W := 0) (rm_olg l Z a0 hw [] a2 q1 h0 n0 Zs57 (Old.keep O0 K0 hws) F_a2_isPresent F_a2_value) hZ (tw hw 153 rfl) (tw hw 3 rfl) (by decide) (by decide)) q58a q58c (g := (mkF m 15 #[rv a1, rv a2, .unset] [(.ref a2)])) rfl (by rw [hml]; rfl) (Steps.refl _) (argsL := []) (rest := []) (lenOf pd_5 rfl) rfl (wle rfl) (hb hby d20_15) (fun _ _ => ⟨rfl, e56, (by decide : 0 + 0 ≤ _), (by decide : 0 + 0 ≤ _)⟩)
  dsimp only [Pt.U, Pt.locs, Pt.cells, Pt.slots] at X58 l58 y58 z58 st58 hQ58
  subst l58 y58 z58
  obtain ⟨rfl, N58q, e58⟩ := hQ58
  have N58 := Fr.app N56 N58q
  refine gs T58 (mkF m 18 #[rv a1, rv a2, .unset] [(.long q1)]) (fun _ hr => st58.trans hr) ?_
  refine gs T58 (mkF m 19 #[rv a1, rv a2, .unset] [(.ref a1), (.long q1)]) (fun _ hr => XS.aloadN X58.here hx rfl (hb hby d20_18) rfl rfl hr) ?_
  have Zs59 : n0 ≤ h0.size := Nat.le_trans Z0 K0.1
  obtain ⟨cq60, kq60, q60a, q60b, q60c⟩ := isOf hZ e58 E_a1
  obtain ⟨_, _, ⟨T60, L60, k60, n60⟩, -, X60, ⟨Lc60, hQ60, l60, y60, z60⟩, st60⟩ := X58.virtualBack hx (y := Y7) (z := Y7) hown (mvT hZ (tw hw 149 rfl)) (mvT hZ (tw hw 150 rfl)) (notFace_of_selects (args := #[]) (mvT hZ (tw hw 152 rfl))) (mvT hZ (tw hw 152 rfl)) (mvT hZ (tw hw 151 rfl)) (by decide) (backOf (W := 2) (rm_olg l Z a0 hw [] a1 q2 h0 n0 Zs59 (Old.keep O0 K0 hws) F_a1_isPresent F_a1_value) hZ (tw hw 153 rfl) (tw hw 3 rfl) (by decide) (by decide)) q60a q60c (g := (mkF m 19 #[rv a1, rv a2, .unset] [(.ref a1), (.long q1)])) rfl (by rw [hml]; rfl) (Steps.refl _) (argsL := []) (rest := [(.long q1)]) (lenOf pd_5 rfl) rfl (wle rfl) (hb hby d20_19) (fun _ _ => ⟨rfl, e58, (by decide : 0 + 0 ≤ _), (by decide : 0 + 0 ≤ _)⟩)
  dsimp only [Pt.U, Pt.locs, Pt.cells, Pt.slots] at X60 l60 y60 z60 st60 hQ60
  subst l60 y60 z60
  obtain ⟨rfl, N60q, e60⟩ := hQ60
  have N60 := Fr.app N58 N60q
  refine gs T60 (mkF m 22 #[rv a1, rv a2, .unset] [(.long q2), (.long q1)]) (fun _ hr => st60.trans hr) ?_
  refine gs T60 (mkF m 23 #[rv a1, rv a2, .unset] [(.int (XT.cmpL q1 q2))]) (fun _ hr => XT.lcmp X60.here hx rfl (hb hby d20_22) rfl hr) ?_
  refine gs T60 (mkF m 33 #[rv a1, rv a2, .unset] []) (fun _ hr => XS.ifYes X60.here hx rfl (pc0 := 23) (pc' := 33) rfl (hb hby d20_23) rfl ((if0 _ _).trans (flt (hle : ¬ ((0 : Int32) < (XT.cmpL q1 q2)))).2.2.2) (by decide) (by decide) hr) ?_
  refine gs T60 (mkF m 34 #[rv a1, rv a2, .unset] [(.ref a1)]) (fun _ hr => XS.aloadN X60.here hx rfl (hb hby d20_33) rfl rfl hr) ?_
  have Zs61 : n0 ≤ h0.size := Nat.le_trans Z0 K0.1
  obtain ⟨cq62, kq62, q62a, q62b, q62c⟩ := isOf hZ e60 E_a1
  obtain ⟨_, _, ⟨T62, L62, k62, n62⟩, -, X62, ⟨Lc62, hQ62, l62, y62, z62⟩, st62⟩ := X60.virtualBack hx (y := Y7) (z := Y7) hown (mvT hZ (tw hw 149 rfl)) (mvT hZ (tw hw 150 rfl)) (notFace_of_selects (args := #[]) (mvT hZ (tw hw 152 rfl))) (mvT hZ (tw hw 152 rfl)) (mvT hZ (tw hw 151 rfl)) (by decide) (backOf (W := 0) (rm_olg l Z a0 hw [] a1 q2 h0 n0 Zs61 (Old.keep O0 K0 hws) F_a1_isPresent F_a1_value) hZ (tw hw 153 rfl) (tw hw 3 rfl) (by decide) (by decide)) q62a q62c (g := (mkF m 34 #[rv a1, rv a2, .unset] [(.ref a1)])) rfl (by rw [hml]; rfl) (Steps.refl _) (argsL := []) (rest := []) (lenOf pd_5 rfl) rfl (wle rfl) (hb hby d20_34) (fun _ _ => ⟨rfl, e60, (by decide : 0 + 0 ≤ _), (by decide : 0 + 0 ≤ _)⟩)
  dsimp only [Pt.U, Pt.locs, Pt.cells, Pt.slots] at X62 l62 y62 z62 st62 hQ62
  subst l62 y62 z62
  obtain ⟨rfl, N62q, e62⟩ := hQ62
  have N62 := Fr.app N60 N62q
  refine gs T62 (mkF m 37 #[rv a1, rv a2, .unset] [(.long q2)]) (fun _ hr => st62.trans hr) ?_
  refine gs T62 (mkF m 38 #[rv a1, rv a2, .unset] [(.ref a2), (.long q2)]) (fun _ hr => XS.aloadN X62.here hx rfl (hb hby d20_37) rfl rfl hr) ?_
  have Zs63 : n0 ≤ h0.size := Nat.le_trans Z0 K0.1
  obtain ⟨cq64, kq64, q64a, q64b, q64c⟩ := isOf hZ e62 E_a2
  obtain ⟨_, _, ⟨T64, L64, k64, n64⟩, -, X64, ⟨Lc64, hQ64, l64, y64, z64⟩, st64⟩ := X62.virtualBack hx (y := Y7) (z := Y7) hown (mvT hZ (tw hw 149 rfl)) (mvT hZ (tw hw 150 rfl)) (notFace_of_selects (args := #[]) (mvT hZ (tw hw 152 rfl))) (mvT hZ (tw hw 152 rfl)) (mvT hZ (tw hw 151 rfl)) (by decide) (backOf (W := 2) (rm_olg l Z a0 hw [] a2 q1 h0 n0 Zs63 (Old.keep O0 K0 hws) F_a2_isPresent F_a2_value) hZ (tw hw 153 rfl) (tw hw 3 rfl) (by decide) (by decide)) q64a q64c (g := (mkF m 38 #[rv a1, rv a2, .unset] [(.ref a2), (.long q2)])) rfl (by rw [hml]; rfl) (Steps.refl _) (argsL := []) (rest := [(.long q2)]) (lenOf pd_5 rfl) rfl (wle rfl) (hb hby d20_38) (fun _ _ => ⟨rfl, e62, (by decide : 0 + 0 ≤ _), (by decide : 0 + 0 ≤ _)⟩)
  dsimp only [Pt.U, Pt.locs, Pt.cells, Pt.slots] at X64 l64 y64 z64 st64 hQ64
  subst l64 y64 z64
  obtain ⟨rfl, N64q, e64⟩ := hQ64
  have N64 := Fr.app N62 N64q
  refine gs T64 (mkF m 41 #[rv a1, rv a2, .unset] [(.long q1), (.long q2)]) (fun _ hr => st64.trans hr) ?_
  refine gs T64 (mkF m 42 #[rv a1, rv a2, .unset] [(.long (q2 - q1))]) (fun _ hr => XT.lsub X64.here hx rfl (hb hby d20_41) rfl hr) ?_
  have Zs65 : n0 ≤ h0.size := Nat.le_trans Z0 K0.1
  obtain ⟨_, _, ⟨T66, L66, k66, n66⟩, -, X66, ⟨Lc66, hQ66, l66, y66, z66⟩, st66⟩ := LawKit.callS X64 hx (y := Y3) hown (mvT hZ (tw hw 164 rfl)) (mvT hZ (tw hw 84 rfl)) (mvT hZ (tw hw 3 rfl)) (mvT hZ (tw hw 85 rfl)) (by decide) (backOf (W := 0) (rm_olof l Z a0 hw [] (q2 - q1) h0 n0 Zs65 (Old.keep O0 K0 hws)) hZ (tw hw 85 rfl) (tw hw 3 rfl) (by decide) (by decide)) (g := (mkF m 42 #[rv a1, rv a2, .unset] [(.long (q2 - q1))])) rfl (by rw [hml]; rfl) (argsL := [(.long (q2 - q1))]) (rest := []) (lenOf pd_7 rfl) rfl (wle rfl) (hb hby d20_42) (fun _ _ => ⟨rfl, e64, (by decide : 0 + 1 ≤ _), (by decide : 0 + 2 ≤ _)⟩)
  dsimp only [Pt.U, Pt.locs, Pt.cells, Pt.slots] at X66 l66 y66 z66 st66 hQ66
  subst l66 y66 z66
  obtain ⟨w66, rfl, N66q, Kc66, P66_0, P66_1, P66_2, P66_3⟩ := hQ66
  have N66 := Fr.app N64 N66q
  have K66 : Keep h0 T66.heap [] := K0.trans Kc66 all0
  have sz_w66 : h0.size ≤ w66 := Nat.le_trans K0.1 P66_0
  have E_w66_66c : Exa Z T66.heap w66 cOL := P66_1
  have F_w66_isPresent_66c : Fld Z T66.heap w66 cOL nIP "Z" (.int (1 : Int32)) := P66_2
  have F_w66_value_66c : Fld Z T66.heap w66 cOL "value" "J" (.long (q2 - q1)) := P66_3
  refine gs T66 (mkF m 45 #[rv a1, rv a2, .unset] [(.ref w66)]) st66 ?_
  refine gs T66 (mkF m 46 #[rv a1, rv a2, rv w66] []) (fun _ hr => XS.astoreN X66.here hx rfl (hb hby d20_45) rfl rfl (l' := #[rv a1, rv a2, rv w66]) rfl hr) ?_
  refine gs T66 (mkF m 47 #[rv a1, rv a2, rv w66] [(.ref w66)]) (fun _ hr => XS.aloadN X66.here hx rfl (hb hby d20_46) rfl rfl hr) ?_
  exact Goes.ret (v := some (.ref w66)) X66 (by decide) (by decide) (fun h => by rw [Bd.returns] at h; cases h) (by show Q_rm_offle Z a1 a2 q1 q2 em h0 n0 _ T66.heap _; exact ⟨w66, rfl, N66, K66, sz_w66, E_w66_66c, F_w66_isPresent_66c, F_w66_value_66c⟩) (fun fs hr => retOut X66 hx Bd.returns rfl (Or.inr (Or.inr (Or.inr (Or.inr ⟨rfl, rfl, rfl⟩)))) (hb hby d20_47) hr)
theorem d21_0 : decode jdk_29_method_66_code 0 = .ok (.lload_n 0, 1) := by decide +kernel
theorem d21_1 : decode jdk_29_method_66_code 1 = .ok (.lload_n 2, 1) := by decide +kernel
theorem d21_2 : decode jdk_29_method_66_code 2 = .ok (.lcmp, 1) := by decide +kernel
theorem d21_3 : decode jdk_29_method_66_code 3 = .ok (.ifCond .lt 7, 3) := by decide +kernel
theorem d21_10 : decode jdk_29_method_66_code 10 = .ok (.lload_n 2, 1) := by decide +kernel
theorem d21_11 : decode jdk_29_method_66_code 11 = .ok (.lreturn, 1) := by decide +kernel
def Q_rm_max1 (Z : State) (q1 : Int64) (q2 : Int64) (h0 : Heap) (n0 : Nat) (v : Option Value) (h : Heap) (L : List Loc) : Prop := v = some (.long q2) ∧ Fr n0 L ∧ h = h0
set_option maxRecDepth 65536 in
set_option maxHeartbeats 40000000 in
theorem rm_max1 (l : Launch) (Z : State) (a0 : Array Value) (hw : ∀ d ∈ tables_1, d.before a0 Z = true) (ws : List Jvm.Cond) (q1 : Int64) (q2 : Int64) (h0 : Heap) (n0 : Nat) (Z0 : n0 ≤ h0.size) (O0 : Old Z n0 h0) (hm : (XT.cmpL q1 q2) < (0 : Int32)) :
    MetFree l Y22 (head1 (Cond.code Y22 jdk_29_method_66_code 4 (some .long) :: ws) r2) (fun a U => a = #[(.long q1), (.long q2)] ∧ Z.Warmed39 U.vm ∧ U.heap = h0) (fun _ _ _ _ _ => True) (fun _ U o U' => ∃ v L, o = .returned v ∧ Q_rm_max1 Z q1 q2 h0 n0 v U'.heap L ∧ FrameEnd U o U' L r2.cells r2.slots) := by
  refine MetFree.of_bodySF (Jvm.Free.JP.mathPlain rfl (by decide +kernel)) hisR ?_
  intro p e s m args below meth c s₁ Bd hml0 hP hK
  obtain ⟨rfl, hZ, hh⟩ := hP
  have hx := Bd.exec
  have hby := Bd.bytes
  have hml : c.maxLocals = 4 := hml0
  have hown : s.vm.findClass "java/lang/Math" = some m.cls := findClass_of_methodNamed Bd.named
  have hnm := (name_of_methodNamed Bd.named Bd.method).1
  have X0 : Stand p l e r2 s m #[(.long q1), (.long q2)] below meth c s₁ [] 0 0 := Stand.of_body Bd
  have e0 : s₁.heap = h0 := by rw [← hh, Bd.state]; rfl
  have N0 := Fr.nil n0
  refine Goes.out (l := l) (c := c) (R := r2) (Q := Q_rm_max1 Z q1 q2 h0 n0) Bd.notSynchronized ?_
  refine Goes.cast (g2 := mkF m 0 #[.val (.long q1), .second, .val (.long q2), .second] []) (by first | (simp [entryFrame, mkF, argsToLocals, Value.category]; done) | rfl) ?_
  refine gs s₁ (mkF m 1 #[.val (.long q1), .second, .val (.long q2), .second] [(.long q1)]) (fun _ hr => XT.lloadN X0.here hx rfl (hb hby d21_0) rfl hr) ?_
  refine gs s₁ (mkF m 2 #[.val (.long q1), .second, .val (.long q2), .second] [(.long q2), (.long q1)]) (fun _ hr => XT.lloadN X0.here hx rfl (hb hby d21_1) rfl hr) ?_
  refine gs s₁ (mkF m 3 #[.val (.long q1), .second, .val (.long q2), .second] [(.int (XT.cmpL q1 q2))]) (fun _ hr => XT.lcmp X0.here hx rfl (hb hby d21_2) rfl hr) ?_
  refine gs s₁ (mkF m 10 #[.val (.long q1), .second, .val (.long q2), .second] []) (fun _ hr => XS.ifYes X0.here hx rfl (pc0 := 3) (pc' := 10) rfl (hb hby d21_3) rfl ((if0 _ _).trans (tlt (hm : (XT.cmpL q1 q2) < (0 : Int32))).1) (by decide) (by decide) hr) ?_
  refine gs s₁ (mkF m 11 #[.val (.long q1), .second, .val (.long q2), .second] [(.long q2)]) (fun _ hr => XT.lloadN X0.here hx rfl (hb hby d21_10) rfl hr) ?_
  exact Goes.ret (v := some (.long q2)) X0 (by decide) (by decide) (fun h => by rw [Bd.returns] at h; cases h) ⟨rfl, N0, e0⟩ (fun fs hr => retOut X0 hx Bd.returns rfl (Or.inr (Or.inl ⟨rfl, rfl, _, rfl⟩)) (hb hby d21_11) hr)
theorem d21_6 : decode jdk_29_method_66_code 6 = .ok (.lload_n 0, 1) := by decide +kernel
theorem d21_7 : decode jdk_29_method_66_code 7 = .ok (.goto 4, 3) := by decide +kernel
def Q_rm_max0 (Z : State) (q1 : Int64) (q2 : Int64) (h0 : Heap) (n0 : Nat) (v : Option Value) (h : Heap) (L : List Loc) : Prop := v = some (.long q1) ∧ Fr n0 L ∧ h = h0
set_option maxRecDepth 65536 in
set_option maxHeartbeats 40000000 in
theorem rm_max0 (l : Launch) (Z : State) (a0 : Array Value) (hw : ∀ d ∈ tables_1, d.before a0 Z = true) (ws : List Jvm.Cond) (q1 : Int64) (q2 : Int64) (h0 : Heap) (n0 : Nat) (Z0 : n0 ≤ h0.size) (O0 : Old Z n0 h0) (hm : ¬ ((XT.cmpL q1 q2) < (0 : Int32))) :
    MetFree l Y22 (head1 (Cond.code Y22 jdk_29_method_66_code 4 (some .long) :: ws) r2) (fun a U => a = #[(.long q1), (.long q2)] ∧ Z.Warmed39 U.vm ∧ U.heap = h0) (fun _ _ _ _ _ => True) (fun _ U o U' => ∃ v L, o = .returned v ∧ Q_rm_max0 Z q1 q2 h0 n0 v U'.heap L ∧ FrameEnd U o U' L r2.cells r2.slots) := by
  refine MetFree.of_bodySF (Jvm.Free.JP.mathPlain rfl (by decide +kernel)) hisR ?_
  intro p e s m args below meth c s₁ Bd hml0 hP hK
  obtain ⟨rfl, hZ, hh⟩ := hP
  have hx := Bd.exec
  have hby := Bd.bytes
  have hml : c.maxLocals = 4 := hml0
  have hown : s.vm.findClass "java/lang/Math" = some m.cls := findClass_of_methodNamed Bd.named
  have hnm := (name_of_methodNamed Bd.named Bd.method).1
  have X0 : Stand p l e r2 s m #[(.long q1), (.long q2)] below meth c s₁ [] 0 0 := Stand.of_body Bd
  have e0 : s₁.heap = h0 := by rw [← hh, Bd.state]; rfl
  have N0 := Fr.nil n0
  refine Goes.out (l := l) (c := c) (R := r2) (Q := Q_rm_max0 Z q1 q2 h0 n0) Bd.notSynchronized ?_
  refine Goes.cast (g2 := mkF m 0 #[.val (.long q1), .second, .val (.long q2), .second] []) (by first | (simp [entryFrame, mkF, argsToLocals, Value.category]; done) | rfl) ?_
  refine gs s₁ (mkF m 1 #[.val (.long q1), .second, .val (.long q2), .second] [(.long q1)]) (fun _ hr => XT.lloadN X0.here hx rfl (hb hby d21_0) rfl hr) ?_
  refine gs s₁ (mkF m 2 #[.val (.long q1), .second, .val (.long q2), .second] [(.long q2), (.long q1)]) (fun _ hr => XT.lloadN X0.here hx rfl (hb hby d21_1) rfl hr) ?_
  refine gs s₁ (mkF m 3 #[.val (.long q1), .second, .val (.long q2), .second] [(.int (XT.cmpL q1 q2))]) (fun _ hr => XT.lcmp X0.here hx rfl (hb hby d21_2) rfl hr) ?_
  refine gs s₁ (mkF m 6 #[.val (.long q1), .second, .val (.long q2), .second] []) (fun _ hr => XS.ifNo X0.here hx rfl (hb hby d21_3) rfl ((if0 _ _).trans (flt (hm : ¬ ((XT.cmpL q1 q2) < (0 : Int32)))).1) hr) ?_
  refine gs s₁ (mkF m 7 #[.val (.long q1), .second, .val (.long q2), .second] [(.long q1)]) (fun _ hr => XT.lloadN X0.here hx rfl (hb hby d21_6) rfl hr) ?_
  refine gs s₁ (mkF m 11 #[.val (.long q1), .second, .val (.long q2), .second] [(.long q1)]) (fun _ hr => XS.goto X0.here hx rfl (pc0 := 7) (pc' := 11) rfl (hb hby d21_7) (by decide) (by decide) hr) ?_
  exact Goes.ret (v := some (.long q1)) X0 (by decide) (by decide) (fun h => by rw [Bd.returns] at h; cases h) ⟨rfl, N0, e0⟩ (fun fs hr => retOut X0 hx Bd.returns rfl (Or.inr (Or.inl ⟨rfl, rfl, _, rfl⟩)) (hb hby d21_11) hr)
theorem d22_0 : decode prog_18_method_3_code 0 = .ok (.aload_n 0, 1) := by decide +kernel
theorem d22_1 : decode prog_18_method_3_code 1 = .ok (.invokevirtual 7, 3) := by decide +kernel
theorem d22_4 : decode prog_18_method_3_code 4 = .ok (.ifCond .ne 10, 3) := by decide +kernel
theorem d22_14 : decode prog_18_method_3_code 14 = .ok (.invokestatic 17, 3) := by decide +kernel
theorem d22_17 : decode prog_18_method_3_code 17 = .ok (.astore_n 2, 1) := by decide +kernel
theorem d22_18 : decode prog_18_method_3_code 18 = .ok (.goto 20, 3) := by decide +kernel
theorem d22_38 : decode prog_18_method_3_code 38 = .ok (.aload_n 2, 1) := by decide +kernel
theorem d22_39 : decode prog_18_method_3_code 39 = .ok (.areturn, 1) := by decide +kernel
def Q_rm_msem (Z : State) (em : Addr) (a2 : Addr) (h0 : Heap) (n0 : Nat) (v : Option Value) (h : Heap) (L : List Loc) : Prop := v = some (.ref em) ∧ Fr n0 L ∧ h = h0
set_option maxRecDepth 65536 in
set_option maxHeartbeats 40000000 in
theorem rm_msem (l : Launch) (Z : State) (a0 : Array Value) (hw : ∀ d ∈ tables_1, d.before a0 Z = true) (ws : List Jvm.Cond) (em : Addr) (a2 : Addr) (h0 : Heap) (n0 : Nat) (Z0 : n0 ≤ h0.size) (O0 : Old Z n0 h0) (S_OptionalLong_EMPTY_old : Sta Z Z.heap cOL "EMPTY" dOL (.ref em)) (E_em_old : Exa Z Z.heap em cOL) (F_em_isPresent_old : Fld Z Z.heap em cOL nIP "Z" (.int (0 : Int32))) (F_em_value_old : Fld Z Z.heap em cOL "value" "J" (.long (0 : Int64))) :
    MetFree l Y23 (head1 (Cond.code Y23 prog_18_method_3_code 3 (some (.object cOL)) :: ws) r0) (fun a U => a = #[(.ref em), (.ref a2)] ∧ Z.Warmed39 U.vm ∧ U.heap = h0) (fun _ _ _ _ _ => True) (fun _ U o U' => ∃ v L, o = .returned v ∧ Q_rm_msem Z em a2 h0 n0 v U'.heap L ∧ FrameEnd U o U' L r0.cells r0.slots) := by
  refine MetFree.of_bodySF (plainFor_of_name pn_com_example_log_lag_gauge_loglaggauge_model_Trailing) hisR ?_
  intro p e s m args below meth c s₁ Bd hml0 hP hK
  obtain ⟨rfl, hZ, hh⟩ := hP
  have hx := Bd.exec
  have hby := Bd.bytes
  have hml : c.maxLocals = 3 := hml0
  have hown : s.vm.findClass "com/example/log_lag_gauge/loglaggauge/model/Trailing" = some m.cls := findClass_of_methodNamed Bd.named
  have hnm := (name_of_methodNamed Bd.named Bd.method).1
  have X0 : Stand p l e r0 s m #[(.ref em), (.ref a2)] below meth c s₁ [] 0 0 := Stand.of_body Bd
  have e0 : s₁.heap = h0 := by rw [← hh, Bd.state]; rfl
  have N0 := Fr.nil n0
  refine Goes.out (l := l) (c := c) (R := r0) (Q := Q_rm_msem Z em a2 h0 n0) Bd.notSynchronized ?_
  refine Goes.cast (g2 := mkF m 0 #[rv em, rv a2, .unset] []) (by first | (simp [entryFrame, mkF, argsToLocals, Value.category]; done) | rfl) ?_
  have K0 : Keep h0 h0 [] := Keep.refl h0 _
  have hws : ∀ x ∈ ([] : List Addr), n0 ≤ x := all0
  refine gs s₁ (mkF m 1 #[rv em, rv a2, .unset] [(.ref em)]) (fun _ hr => XS.aloadN X0.here hx rfl (hb hby d22_0) rfl rfl hr) ?_
  have Zs67 : n0 ≤ h0.size := Nat.le_trans Z0 K0.1
  obtain ⟨cq68, kq68, q68a, q68b, q68c⟩ := isOf hZ e0 (E_em_old.ext (Old.keep O0 K0 hws).2)
  obtain ⟨_, _, ⟨T68, L68, k68, n68⟩, -, X68, ⟨Lc68, hQ68, l68, y68, z68⟩, st68⟩ := X0.virtualBack hx (y := Y6) (z := Y6) hown (mvT hZ (tw hw 148 rfl)) (mvT hZ (tw hw 77 rfl)) (notFace_of_selects (args := #[]) (mvT hZ (tw hw 79 rfl))) (mvT hZ (tw hw 79 rfl)) (mvT hZ (tw hw 78 rfl)) (by decide) (backOf (W := 0) (rm_ole0 l Z a0 hw [] em h0 n0 Zs67 (Old.keep O0 K0 hws) (F_em_isPresent_old.ext (Old.keep O0 K0 hws).2)) hZ (tw hw 80 rfl) (tw hw 3 rfl) (by decide) (by decide)) q68a q68c (g := (mkF m 1 #[rv em, rv a2, .unset] [(.ref em)])) rfl (by rw [hml]; rfl) (Steps.refl _) (argsL := []) (rest := []) (lenOf pd_1 rfl) rfl (wle rfl) (hb hby d22_1) (fun _ _ => ⟨rfl, e0, (by decide : 0 + 0 ≤ _), (by decide : 0 + 0 ≤ _)⟩)
  dsimp only [Pt.U, Pt.locs, Pt.cells, Pt.slots] at X68 l68 y68 z68 st68 hQ68
  subst l68 y68 z68
  obtain ⟨rfl, N68q, e68⟩ := hQ68
  have N68 := Fr.app N0 N68q
  refine gs T68 (mkF m 4 #[rv em, rv a2, .unset] [(.int (1 : Int32))]) (fun _ hr => st68.trans hr) ?_
  refine gs T68 (mkF m 14 #[rv em, rv a2, .unset] []) (fun _ hr => XS.ifYes X68.here hx rfl (pc0 := 4) (pc' := 14) rfl (hb hby d22_4) rfl ((if0 _ _).trans (feq (by decide : ¬ ((1 : Int32) = (0 : Int32)))).2) (by decide) (by decide) hr) ?_
  have Zs69 : n0 ≤ h0.size := Nat.le_trans Z0 K0.1
  obtain ⟨_, _, ⟨T70, L70, k70, n70⟩, -, X70, ⟨Lc70, hQ70, l70, y70, z70⟩, st70⟩ := LawKit.callS X68 hx (y := Y4) hown (mvT hZ (tw hw 154 rfl)) (mvT hZ (tw hw 2 rfl)) (mvT hZ (tw hw 3 rfl)) (mvT hZ (tw hw 4 rfl)) (by decide) (backOf (W := 0) (rm_olem l Z a0 hw [] em h0 n0 Zs69 (Old.keep O0 K0 hws) S_OptionalLong_EMPTY_old) hZ (tw hw 4 rfl) (tw hw 3 rfl) (by decide) (by decide)) (g := (mkF m 14 #[rv em, rv a2, .unset] [])) rfl (by rw [hml]; rfl) (argsL := []) (rest := []) (lenOf pd_6 rfl) rfl (wle rfl) (hb hby d22_14) (fun _ _ => ⟨rfl, e68, (by decide : 0 + 0 ≤ _), (by decide : 0 + 0 ≤ _)⟩)
  dsimp only [Pt.U, Pt.locs, Pt.cells, Pt.slots] at X70 l70 y70 z70 st70 hQ70
  subst l70 y70 z70
  obtain ⟨rfl, N70q, e70⟩ := hQ70
  have N70 := Fr.app N68 N70q
  refine gs T70 (mkF m 17 #[rv em, rv a2, .unset] [(.ref em)]) st70 ?_
  refine gs T70 (mkF m 18 #[rv em, rv a2, rv em] []) (fun _ hr => XS.astoreN X70.here hx rfl (hb hby d22_17) rfl rfl (l' := #[rv em, rv a2, rv em]) rfl hr) ?_
  refine gs T70 (mkF m 38 #[rv em, rv a2, rv em] []) (fun _ hr => XS.goto X70.here hx rfl (pc0 := 18) (pc' := 38) rfl (hb hby d22_18) (by decide) (by decide) hr) ?_
  refine gs T70 (mkF m 39 #[rv em, rv a2, rv em] [(.ref em)]) (fun _ hr => XS.aloadN X70.here hx rfl (hb hby d22_38) rfl rfl hr) ?_
  exact Goes.ret (v := some (.ref em)) X70 (by decide) (by decide) (fun h => by rw [Bd.returns] at h; cases h) ⟨rfl, N70, e70⟩ (fun fs hr => retOut X70 hx Bd.returns rfl (Or.inr (Or.inr (Or.inr (Or.inr ⟨rfl, rfl, rfl⟩)))) (hb hby d22_39) hr)
theorem d22_7 : decode prog_18_method_3_code 7 = .ok (.aload_n 1, 1) := by decide +kernel
theorem d22_8 : decode prog_18_method_3_code 8 = .ok (.invokevirtual 7, 3) := by decide +kernel
theorem d22_11 : decode prog_18_method_3_code 11 = .ok (.ifCond .eq 10, 3) := by decide +kernel
def Q_rm_ms1em (Z : State) (a1 : Addr) (q4 : Int64) (em : Addr) (h0 : Heap) (n0 : Nat) (v : Option Value) (h : Heap) (L : List Loc) : Prop := v = some (.ref em) ∧ Fr n0 L ∧ h = h0
set_option maxRecDepth 65536 in
set_option maxHeartbeats 40000000 in
theorem rm_ms1em (l : Launch) (Z : State) (a0 : Array Value) (hw : ∀ d ∈ tables_1, d.before a0 Z = true) (ws : List Jvm.Cond) (a1 : Addr) (q4 : Int64) (em : Addr) (h0 : Heap) (n0 : Nat) (Z0 : n0 ≤ h0.size) (O0 : Old Z n0 h0) (E_a1 : Exa Z h0 a1 cOL) (F_a1_isPresent : Fld Z h0 a1 cOL nIP "Z" (.int (1 : Int32))) (F_a1_value : Fld Z h0 a1 cOL "value" "J" (.long q4)) (S_OptionalLong_EMPTY_old : Sta Z Z.heap cOL "EMPTY" dOL (.ref em)) (E_em_old : Exa Z Z.heap em cOL) (F_em_isPresent_old : Fld Z Z.heap em cOL nIP "Z" (.int (0 : Int32))) (F_em_value_old : Fld Z Z.heap em cOL "value" "J" (.long (0 : Int64))) :
    MetFree l Y23 (head1 (Cond.code Y23 prog_18_method_3_code 3 (some (.object cOL)) :: ws) r0) (fun a U => a = #[(.ref a1), (.ref em)] ∧ Z.Warmed39 U.vm ∧ U.heap = h0) (fun _ _ _ _ _ => True) (fun _ U o U' => ∃ v L, o = .returned v ∧ Q_rm_ms1em Z a1 q4 em h0 n0 v U'.heap L ∧ FrameEnd U o U' L r0.cells r0.slots) := by
  refine MetFree.of_bodySF (plainFor_of_name pn_com_example_log_lag_gauge_loglaggauge_model_Trailing) hisR ?_
  intro p e s m args below meth c s₁ Bd hml0 hP hK
  obtain ⟨rfl, hZ, hh⟩ := hP
  have hx := Bd.exec
  have hby := Bd.bytes
  have hml : c.maxLocals = 3 := hml0
  have hown : s.vm.findClass "com/example/log_lag_gauge/loglaggauge/model/Trailing" = some m.cls := findClass_of_methodNamed Bd.named
  have hnm := (name_of_methodNamed Bd.named Bd.method).1
  have X0 : Stand p l e r0 s m #[(.ref a1), (.ref em)] below meth c s₁ [] 0 0 := Stand.of_body Bd
  have e0 : s₁.heap = h0 := by rw [← hh, Bd.state]; rfl
  have N0 := Fr.nil n0
  refine Goes.out (l := l) (c := c) (R := r0) (Q := Q_rm_ms1em Z a1 q4 em h0 n0) Bd.notSynchronized ?_
  refine Goes.cast (g2 := mkF m 0 #[rv a1, rv em, .unset] []) (by first | (simp [entryFrame, mkF, argsToLocals, Value.category]; done) | rfl) ?_
  have K0 : Keep h0 h0 [] := Keep.refl h0 _
  have hws : ∀ x ∈ ([] : List Addr), n0 ≤ x := all0
  refine gs s₁ (mkF m 1 #[rv a1, rv em, .unset] [(.ref a1)]) (fun _ hr => XS.aloadN X0.here hx rfl (hb hby d22_0) rfl rfl hr) ?_
  have Zs71 : n0 ≤ h0.size := Nat.le_trans Z0 K0.1
  obtain ⟨cq72, kq72, q72a, q72b, q72c⟩ := isOf hZ e0 E_a1
  obtain ⟨_, _, ⟨T72, L72, k72, n72⟩, -, X72, ⟨Lc72, hQ72, l72, y72, z72⟩, st72⟩ := X0.virtualBack hx (y := Y6) (z := Y6) hown (mvT hZ (tw hw 148 rfl)) (mvT hZ (tw hw 77 rfl)) (notFace_of_selects (args := #[]) (mvT hZ (tw hw 79 rfl))) (mvT hZ (tw hw 79 rfl)) (mvT hZ (tw hw 78 rfl)) (by decide) (backOf (W := 0) (rm_ole1 l Z a0 hw [] a1 h0 n0 Zs71 (Old.keep O0 K0 hws) F_a1_isPresent) hZ (tw hw 80 rfl) (tw hw 3 rfl) (by decide) (by decide)) q72a q72c (g := (mkF m 1 #[rv a1, rv em, .unset] [(.ref a1)])) rfl (by rw [hml]; rfl) (Steps.refl _) (argsL := []) (rest := []) (lenOf pd_1 rfl) rfl (wle rfl) (hb hby d22_1) (fun _ _ => ⟨rfl, e0, (by decide : 0 + 0 ≤ _), (by decide : 0 + 0 ≤ _)⟩)
  dsimp only [Pt.U, Pt.locs, Pt.cells, Pt.slots] at X72 l72 y72 z72 st72 hQ72
  subst l72 y72 z72
  obtain ⟨rfl, N72q, e72⟩ := hQ72
  have N72 := Fr.app N0 N72q
  refine gs T72 (mkF m 4 #[rv a1, rv em, .unset] [(.int (0 : Int32))]) (fun _ hr => st72.trans hr) ?_
  refine gs T72 (mkF m 7 #[rv a1, rv em, .unset] []) (fun _ hr => XS.ifNo X72.here hx rfl (hb hby d22_4) rfl ((if0 _ _).trans (teq (by decide : (0 : Int32) = (0 : Int32))).2) hr) ?_
  refine gs T72 (mkF m 8 #[rv a1, rv em, .unset] [(.ref em)]) (fun _ hr => XS.aloadN X72.here hx rfl (hb hby d22_7) rfl rfl hr) ?_
  have Zs73 : n0 ≤ h0.size := Nat.le_trans Z0 K0.1
  obtain ⟨cq74, kq74, q74a, q74b, q74c⟩ := isOf hZ e72 (E_em_old.ext (Old.keep O0 K0 hws).2)
  obtain ⟨_, _, ⟨T74, L74, k74, n74⟩, -, X74, ⟨Lc74, hQ74, l74, y74, z74⟩, st74⟩ := X72.virtualBack hx (y := Y6) (z := Y6) hown (mvT hZ (tw hw 148 rfl)) (mvT hZ (tw hw 77 rfl)) (notFace_of_selects (args := #[]) (mvT hZ (tw hw 79 rfl))) (mvT hZ (tw hw 79 rfl)) (mvT hZ (tw hw 78 rfl)) (by decide) (backOf (W := 0) (rm_ole0 l Z a0 hw [] em h0 n0 Zs73 (Old.keep O0 K0 hws) (F_em_isPresent_old.ext (Old.keep O0 K0 hws).2)) hZ (tw hw 80 rfl) (tw hw 3 rfl) (by decide) (by decide)) q74a q74c (g := (mkF m 8 #[rv a1, rv em, .unset] [(.ref em)])) rfl (by rw [hml]; rfl) (Steps.refl _) (argsL := []) (rest := []) (lenOf pd_1 rfl) rfl (wle rfl) (hb hby d22_8) (fun _ _ => ⟨rfl, e72, (by decide : 0 + 0 ≤ _), (by decide : 0 + 0 ≤ _)⟩)
  dsimp only [Pt.U, Pt.locs, Pt.cells, Pt.slots] at X74 l74 y74 z74 st74 hQ74
  subst l74 y74 z74
  obtain ⟨rfl, N74q, e74⟩ := hQ74
  have N74 := Fr.app N72 N74q
  refine gs T74 (mkF m 11 #[rv a1, rv em, .unset] [(.int (1 : Int32))]) (fun _ hr => st74.trans hr) ?_
  refine gs T74 (mkF m 14 #[rv a1, rv em, .unset] []) (fun _ hr => XS.ifNo X74.here hx rfl (hb hby d22_11) rfl ((if0 _ _).trans (feq (by decide : ¬ ((1 : Int32) = (0 : Int32)))).1) hr) ?_
  have Zs75 : n0 ≤ h0.size := Nat.le_trans Z0 K0.1
  obtain ⟨_, _, ⟨T76, L76, k76, n76⟩, -, X76, ⟨Lc76, hQ76, l76, y76, z76⟩, st76⟩ := LawKit.callS X74 hx (y := Y4) hown (mvT hZ (tw hw 154 rfl)) (mvT hZ (tw hw 2 rfl)) (mvT hZ (tw hw 3 rfl)) (mvT hZ (tw hw 4 rfl)) (by decide) (backOf (W := 0) (rm_olem l Z a0 hw [] em h0 n0 Zs75 (Old.keep O0 K0 hws) S_OptionalLong_EMPTY_old) hZ (tw hw 4 rfl) (tw hw 3 rfl) (by decide) (by decide)) (g := (mkF m 14 #[rv a1, rv em, .unset] [])) rfl (by rw [hml]; rfl) (argsL := []) (rest := []) (lenOf pd_6 rfl) rfl (wle rfl) (hb hby d22_14) (fun _ _ => ⟨rfl, e74, (by decide : 0 + 0 ≤ _), (by decide : 0 + 0 ≤ _)⟩)
  dsimp only [Pt.U, Pt.locs, Pt.cells, Pt.slots] at X76 l76 y76 z76 st76 hQ76
  subst l76 y76 z76
  obtain ⟨rfl, N76q, e76⟩ := hQ76
  have N76 := Fr.app N74 N76q
  refine gs T76 (mkF m 17 #[rv a1, rv em, .unset] [(.ref em)]) st76 ?_
  refine gs T76 (mkF m 18 #[rv a1, rv em, rv em] []) (fun _ hr => XS.astoreN X76.here hx rfl (hb hby d22_17) rfl rfl (l' := #[rv a1, rv em, rv em]) rfl hr) ?_
  refine gs T76 (mkF m 38 #[rv a1, rv em, rv em] []) (fun _ hr => XS.goto X76.here hx rfl (pc0 := 18) (pc' := 38) rfl (hb hby d22_18) (by decide) (by decide) hr) ?_
  refine gs T76 (mkF m 39 #[rv a1, rv em, rv em] [(.ref em)]) (fun _ hr => XS.aloadN X76.here hx rfl (hb hby d22_38) rfl rfl hr) ?_
  exact Goes.ret (v := some (.ref em)) X76 (by decide) (by decide) (fun h => by rw [Bd.returns] at h; cases h) ⟨rfl, N76, e76⟩ (fun fs hr => retOut X76 hx Bd.returns rfl (Or.inr (Or.inr (Or.inr (Or.inr ⟨rfl, rfl, rfl⟩)))) (hb hby d22_39) hr)
theorem d22_21 : decode prog_18_method_3_code 21 = .ok (.lconst 0, 1) := by decide +kernel
theorem d22_22 : decode prog_18_method_3_code 22 = .ok (.aload_n 0, 1) := by decide +kernel
theorem d22_23 : decode prog_18_method_3_code 23 = .ok (.invokevirtual 13, 3) := by decide +kernel
theorem d22_26 : decode prog_18_method_3_code 26 = .ok (.aload_n 1, 1) := by decide +kernel
theorem d22_27 : decode prog_18_method_3_code 27 = .ok (.invokevirtual 13, 3) := by decide +kernel
theorem d22_30 : decode prog_18_method_3_code 30 = .ok (.lsub, 1) := by decide +kernel
theorem d22_31 : decode prog_18_method_3_code 31 = .ok (.invokestatic 25, 3) := by decide +kernel
theorem d22_34 : decode prog_18_method_3_code 34 = .ok (.invokestatic 21, 3) := by decide +kernel
theorem d22_37 : decode prog_18_method_3_code 37 = .ok (.astore_n 2, 1) := by decide +kernel
def Q_rm_ms111 (Z : State) (a1 : Addr) (a2 : Addr) (q3 : Int64) (q4 : Int64) (em : Addr) (h0 : Heap) (n0 : Nat) (v : Option Value) (h : Heap) (L : List Loc) : Prop := ∃ w : Addr, v = some (.ref w) ∧ Fr n0 L ∧ Keep h0 h [] ∧ h0.size ≤ w ∧ Exa Z h w cOL ∧ Fld Z h w cOL nIP "Z" (.int (1 : Int32)) ∧ Fld Z h w cOL "value" "J" (.long (q4 - q3))
set_option maxRecDepth 65536 in
set_option maxHeartbeats 40000000 in
theorem rm_ms111 (l : Launch) (Z : State) (a0 : Array Value) (hw : ∀ d ∈ tables_1, d.before a0 Z = true) (ws : List Jvm.Cond) (a1 : Addr) (a2 : Addr) (q3 : Int64) (q4 : Int64) (em : Addr) (h0 : Heap) (n0 : Nat) (Z0 : n0 ≤ h0.size) (O0 : Old Z n0 h0) (E_a1 : Exa Z h0 a1 cOL) (F_a1_isPresent : Fld Z h0 a1 cOL nIP "Z" (.int (1 : Int32))) (F_a1_value : Fld Z h0 a1 cOL "value" "J" (.long q4)) (E_a2 : Exa Z h0 a2 cOL) (F_a2_isPresent : Fld Z h0 a2 cOL nIP "Z" (.int (1 : Int32))) (F_a2_value : Fld Z h0 a2 cOL "value" "J" (.long q3)) (S_OptionalLong_EMPTY_old : Sta Z Z.heap cOL "EMPTY" dOL (.ref em)) (E_em_old : Exa Z Z.heap em cOL) (F_em_isPresent_old : Fld Z Z.heap em cOL nIP "Z" (.int (0 : Int32))) (F_em_value_old : Fld Z Z.heap em cOL "value" "J" (.long (0 : Int64))) (hmx : (XT.cmpL (0 : Int64) (q4 - q3)) < (0 : Int32)) :
    MetFree l Y23 (head1 (Cond.code Y23 prog_18_method_3_code 3 (some (.object cOL)) :: ws) r5) (fun a U => a = #[(.ref a1), (.ref a2)] ∧ Z.Warmed39 U.vm ∧ U.heap = h0) (fun _ _ _ _ _ => True) (fun _ U o U' => ∃ v L, o = .returned v ∧ Q_rm_ms111 Z a1 a2 q3 q4 em h0 n0 v U'.heap L ∧ FrameEnd U o U' L r5.cells r5.slots) := by
  refine MetFree.of_bodySF (plainFor_of_name pn_com_example_log_lag_gauge_loglaggauge_model_Trailing) hisR ?_
  intro p e s m args below meth c s₁ Bd hml0 hP hK
  obtain ⟨rfl, hZ, hh⟩ := hP
  have hx := Bd.exec
  have hby := Bd.bytes
  have hml : c.maxLocals = 3 := hml0
  have hown : s.vm.findClass "com/example/log_lag_gauge/loglaggauge/model/Trailing" = some m.cls := findClass_of_methodNamed Bd.named
  have hnm := (name_of_methodNamed Bd.named Bd.method).1
  have X0 : Stand p l e r5 s m #[(.ref a1), (.ref a2)] below meth c s₁ [] 0 0 := Stand.of_body Bd
  have e0 : s₁.heap = h0 := by rw [← hh, Bd.state]; rfl
  have N0 := Fr.nil n0
  refine Goes.out (l := l) (c := c) (R := r5) (Q := Q_rm_ms111 Z a1 a2 q3 q4 em h0 n0) Bd.notSynchronized ?_
  refine Goes.cast (g2 := mkF m 0 #[rv a1, rv a2, .unset] []) (by first | (simp [entryFrame, mkF, argsToLocals, Value.category]; done) | rfl) ?_
  have K0 : Keep h0 h0 [] := Keep.refl h0 _
  have hws : ∀ x ∈ ([] : List Addr), n0 ≤ x := all0
  refine gs s₁ (mkF m 1 #[rv a1, rv a2, .unset] [(.ref a1)]) (fun _ hr => XS.aloadN X0.here hx rfl (hb hby d22_0) rfl rfl hr) ?_
  have Zs77 : n0 ≤ h0.size := Nat.le_trans Z0 K0.1
  obtain ⟨cq78, kq78, q78a, q78b, q78c⟩ := isOf hZ e0 E_a1
  obtain ⟨_, _, ⟨T78, L78, k78, n78⟩, -, X78, ⟨Lc78, hQ78, l78, y78, z78⟩, st78⟩ := X0.virtualBack hx (y := Y6) (z := Y6) hown (mvT hZ (tw hw 148 rfl)) (mvT hZ (tw hw 77 rfl)) (notFace_of_selects (args := #[]) (mvT hZ (tw hw 79 rfl))) (mvT hZ (tw hw 79 rfl)) (mvT hZ (tw hw 78 rfl)) (by decide) (backOf (W := 0) (rm_ole1 l Z a0 hw [] a1 h0 n0 Zs77 (Old.keep O0 K0 hws) F_a1_isPresent) hZ (tw hw 80 rfl) (tw hw 3 rfl) (by decide) (by decide)) q78a q78c (g := (mkF m 1 #[rv a1, rv a2, .unset] [(.ref a1)])) rfl (by rw [hml]; rfl) (Steps.refl _) (argsL := []) (rest := []) (lenOf pd_1 rfl) rfl (wle rfl) (hb hby d22_1) (fun _ _ => ⟨rfl, e0, (by decide : 0 + 0 ≤ _), (by decide : 0 + 0 ≤ _)⟩)
  dsimp only [Pt.U, Pt.locs, Pt.cells, Pt.slots] at X78 l78 y78 z78 st78 hQ78
  subst l78 y78 z78
  obtain ⟨rfl, N78q, e78⟩ := hQ78
  have N78 := Fr.app N0 N78q
  refine gs T78 (mkF m 4 #[rv a1, rv a2, .unset] [(.int (0 : Int32))]) (fun _ hr => st78.trans hr) ?_
  refine gs T78 (mkF m 7 #[rv a1, rv a2, .unset] []) (fun _ hr => XS.ifNo X78.here hx rfl (hb hby d22_4) rfl ((if0 _ _).trans (teq (by decide : (0 : Int32) = (0 : Int32))).2) hr) ?_
  refine gs T78 (mkF m 8 #[rv a1, rv a2, .unset] [(.ref a2)]) (fun _ hr => XS.aloadN X78.here hx rfl (hb hby d22_7) rfl rfl hr) ?_
  have Zs79 : n0 ≤ h0.size := Nat.le_trans Z0 K0.1
  obtain ⟨cq80, kq80, q80a, q80b, q80c⟩ := isOf hZ e78 E_a2
  obtain ⟨_, _, ⟨T80, L80, k80, n80⟩, -, X80, ⟨Lc80, hQ80, l80, y80, z80⟩, st80⟩ := X78.virtualBack hx (y := Y6) (z := Y6) hown (mvT hZ (tw hw 148 rfl)) (mvT hZ (tw hw 77 rfl)) (notFace_of_selects (args := #[]) (mvT hZ (tw hw 79 rfl))) (mvT hZ (tw hw 79 rfl)) (mvT hZ (tw hw 78 rfl)) (by decide) (backOf (W := 0) (rm_ole1 l Z a0 hw [] a2 h0 n0 Zs79 (Old.keep O0 K0 hws) F_a2_isPresent) hZ (tw hw 80 rfl) (tw hw 3 rfl) (by decide) (by decide)) q80a q80c (g := (mkF m 8 #[rv a1, rv a2, .unset] [(.ref a2)])) rfl (by rw [hml]; rfl) (Steps.refl _) (argsL := []) (rest := []) (lenOf pd_1 rfl) rfl (wle rfl) (hb hby d22_8) (fun _ _ => ⟨rfl, e78, (by decide : 0 + 0 ≤ _), (by decide : 0 + 0 ≤ _)⟩)
  dsimp only [Pt.U, Pt.locs, Pt.cells, Pt.slots] at X80 l80 y80 z80 st80 hQ80
  subst l80 y80 z80
  obtain ⟨rfl, N80q, e80⟩ := hQ80
  have N80 := Fr.app N78 N80q
  refine gs T80 (mkF m 11 #[rv a1, rv a2, .unset] [(.int (0 : Int32))]) (fun _ hr => st80.trans hr) ?_
  refine gs T80 (mkF m 21 #[rv a1, rv a2, .unset] []) (fun _ hr => XS.ifYes X80.here hx rfl (pc0 := 11) (pc' := 21) rfl (hb hby d22_11) rfl ((if0 _ _).trans (teq (by decide : (0 : Int32) = (0 : Int32))).1) (by decide) (by decide) hr) ?_
  refine gs T80 (mkF m 22 #[rv a1, rv a2, .unset] [(.long (0 : Int64))]) (fun _ hr => XT.lconst X80.here hx rfl (hb hby d22_21) hr) ?_
  refine gs T80 (mkF m 23 #[rv a1, rv a2, .unset] [(.ref a1), (.long (0 : Int64))]) (fun _ hr => XS.aloadN X80.here hx rfl (hb hby d22_22) rfl rfl hr) ?_
  have Zs81 : n0 ≤ h0.size := Nat.le_trans Z0 K0.1
  obtain ⟨cq82, kq82, q82a, q82b, q82c⟩ := isOf hZ e80 E_a1
  obtain ⟨_, _, ⟨T82, L82, k82, n82⟩, -, X82, ⟨Lc82, hQ82, l82, y82, z82⟩, st82⟩ := X80.virtualBack hx (y := Y7) (z := Y7) hown (mvT hZ (tw hw 149 rfl)) (mvT hZ (tw hw 150 rfl)) (notFace_of_selects (args := #[]) (mvT hZ (tw hw 152 rfl))) (mvT hZ (tw hw 152 rfl)) (mvT hZ (tw hw 151 rfl)) (by decide) (backOf (W := 2) (rm_olg l Z a0 hw [] a1 q4 h0 n0 Zs81 (Old.keep O0 K0 hws) F_a1_isPresent F_a1_value) hZ (tw hw 153 rfl) (tw hw 3 rfl) (by decide) (by decide)) q82a q82c (g := (mkF m 23 #[rv a1, rv a2, .unset] [(.ref a1), (.long (0 : Int64))])) rfl (by rw [hml]; rfl) (Steps.refl _) (argsL := []) (rest := [(.long (0 : Int64))]) (lenOf pd_5 rfl) rfl (wle rfl) (hb hby d22_23) (fun _ _ => ⟨rfl, e80, (by decide : 0 + 0 ≤ _), (by decide : 0 + 0 ≤ _)⟩)
  dsimp only [Pt.U, Pt.locs, Pt.cells, Pt.slots] at X82 l82 y82 z82 st82 hQ82
  subst l82 y82 z82
  obtain ⟨rfl, N82q, e82⟩ := hQ82
  have N82 := Fr.app N80 N82q
  refine gs T82 (mkF m 26 #[rv a1, rv a2, .unset] [(.long q4), (.long (0 : Int64))]) (fun _ hr => st82.trans hr) ?_
  refine gs T82 (mkF m 27 #[rv a1, rv a2, .unset] [(.ref a2), (.long q4), (.long (0 : Int64))]) (fun _ hr => XS.aloadN X82.here hx rfl (hb hby d22_26) rfl rfl hr) ?_
  have Zs83 : n0 ≤ h0.size := Nat.le_trans Z0 K0.1
  obtain ⟨cq84, kq84, q84a, q84b, q84c⟩ := isOf hZ e82 E_a2
  obtain ⟨_, _, ⟨T84, L84, k84, n84⟩, -, X84, ⟨Lc84, hQ84, l84, y84, z84⟩, st84⟩ := X82.virtualBack hx (y := Y7) (z := Y7) hown (mvT hZ (tw hw 149 rfl)) (mvT hZ (tw hw 150 rfl)) (notFace_of_selects (args := #[]) (mvT hZ (tw hw 152 rfl))) (mvT hZ (tw hw 152 rfl)) (mvT hZ (tw hw 151 rfl)) (by decide) (backOf (W := 4) (rm_olg l Z a0 hw [] a2 q3 h0 n0 Zs83 (Old.keep O0 K0 hws) F_a2_isPresent F_a2_value) hZ (tw hw 153 rfl) (tw hw 3 rfl) (by decide) (by decide)) q84a q84c (g := (mkF m 27 #[rv a1, rv a2, .unset] [(.ref a2), (.long q4), (.long (0 : Int64))])) rfl (by rw [hml]; rfl) (Steps.refl _) (argsL := []) (rest := [(.long q4), (.long (0 : Int64))]) (lenOf pd_5 rfl) rfl (wle rfl) (hb hby d22_27) (fun _ _ => ⟨rfl, e82, (by decide : 0 + 0 ≤ _), (by decide : 0 + 0 ≤ _)⟩)
  dsimp only [Pt.U, Pt.locs, Pt.cells, Pt.slots] at X84 l84 y84 z84 st84 hQ84
  subst l84 y84 z84
  obtain ⟨rfl, N84q, e84⟩ := hQ84
  have N84 := Fr.app N82 N84q
  refine gs T84 (mkF m 30 #[rv a1, rv a2, .unset] [(.long q3), (.long q4), (.long (0 : Int64))]) (fun _ hr => st84.trans hr) ?_
  refine gs T84 (mkF m 31 #[rv a1, rv a2, .unset] [(.long (q4 - q3)), (.long (0 : Int64))]) (fun _ hr => XT.lsub X84.here hx rfl (hb hby d22_30) rfl hr) ?_
  have Zs85 : n0 ≤ h0.size := Nat.le_trans Z0 K0.1
  obtain ⟨_, _, ⟨T86, L86, k86, n86⟩, -, X86, ⟨Lc86, hQ86, l86, y86, z86⟩, st86⟩ := LawKit.callS X84 hx (y := Y22) hown (mvT hZ (tw hw 195 rfl)) (mvT hZ (tw hw 196 rfl)) (mvT hZ (tw hw 197 rfl)) (mvT hZ (tw hw 198 rfl)) (by decide) (backOf (W := 0) (rm_max1 l Z a0 hw [] (0 : Int64) (q4 - q3) h0 n0 Zs85 (Old.keep O0 K0 hws) hmx) hZ (tw hw 198 rfl) (tw hw 197 rfl) (by decide) (by decide)) (g := (mkF m 31 #[rv a1, rv a2, .unset] [(.long (q4 - q3)), (.long (0 : Int64))])) rfl (by rw [hml]; rfl) (argsL := [(.long (0 : Int64)), (.long (q4 - q3))]) (rest := []) (lenOf pd_8 rfl) rfl (wle rfl) (hb hby d22_31) (fun _ _ => ⟨rfl, e84, (by decide : 0 + 0 ≤ _), (by decide : 0 + 0 ≤ _)⟩)
  dsimp only [Pt.U, Pt.locs, Pt.cells, Pt.slots] at X86 l86 y86 z86 st86 hQ86
  subst l86 y86 z86
  obtain ⟨rfl, N86q, e86⟩ := hQ86
  have N86 := Fr.app N84 N86q
  refine gs T86 (mkF m 34 #[rv a1, rv a2, .unset] [(.long (q4 - q3))]) st86 ?_
  have Zs87 : n0 ≤ h0.size := Nat.le_trans Z0 K0.1
  obtain ⟨_, _, ⟨T88, L88, k88, n88⟩, -, X88, ⟨Lc88, hQ88, l88, y88, z88⟩, st88⟩ := LawKit.callS X86 hx (y := Y3) hown (mvT hZ (tw hw 164 rfl)) (mvT hZ (tw hw 84 rfl)) (mvT hZ (tw hw 3 rfl)) (mvT hZ (tw hw 85 rfl)) (by decide) (backOf (W := 0) (rm_olof l Z a0 hw [] (q4 - q3) h0 n0 Zs87 (Old.keep O0 K0 hws)) hZ (tw hw 85 rfl) (tw hw 3 rfl) (by decide) (by decide)) (g := (mkF m 34 #[rv a1, rv a2, .unset] [(.long (q4 - q3))])) rfl (by rw [hml]; rfl) (argsL := [(.long (q4 - q3))]) (rest := []) (lenOf pd_7 rfl) rfl (wle rfl) (hb hby d22_34) (fun _ _ => ⟨rfl, e86, (by decide : 0 + 1 ≤ _), (by decide : 0 + 2 ≤ _)⟩)
  dsimp only [Pt.U, Pt.locs, Pt.cells, Pt.slots] at X88 l88 y88 z88 st88 hQ88
  subst l88 y88 z88
  obtain ⟨w88, rfl, N88q, Kc88, P88_0, P88_1, P88_2, P88_3⟩ := hQ88
  have N88 := Fr.app N86 N88q
  have K88 : Keep h0 T88.heap [] := K0.trans Kc88 all0
  have sz_w88 : h0.size ≤ w88 := Nat.le_trans K0.1 P88_0
  have E_w88_88c : Exa Z T88.heap w88 cOL := P88_1
  have F_w88_isPresent_88c : Fld Z T88.heap w88 cOL nIP "Z" (.int (1 : Int32)) := P88_2
  have F_w88_value_88c : Fld Z T88.heap w88 cOL "value" "J" (.long (q4 - q3)) := P88_3
  refine gs T88 (mkF m 37 #[rv a1, rv a2, .unset] [(.ref w88)]) st88 ?_
  refine gs T88 (mkF m 38 #[rv a1, rv a2, rv w88] []) (fun _ hr => XS.astoreN X88.here hx rfl (hb hby d22_37) rfl rfl (l' := #[rv a1, rv a2, rv w88]) rfl hr) ?_
  refine gs T88 (mkF m 39 #[rv a1, rv a2, rv w88] [(.ref w88)]) (fun _ hr => XS.aloadN X88.here hx rfl (hb hby d22_38) rfl rfl hr) ?_
  exact Goes.ret (v := some (.ref w88)) X88 (by decide) (by decide) (fun h => by rw [Bd.returns] at h; cases h) (by show Q_rm_ms111 Z a1 a2 q3 q4 em h0 n0 _ T88.heap _; exact ⟨w88, rfl, N88, K88, sz_w88, E_w88_88c, F_w88_isPresent_88c, F_w88_value_88c⟩) (fun fs hr => retOut X88 hx Bd.returns rfl (Or.inr (Or.inr (Or.inr (Or.inr ⟨rfl, rfl, rfl⟩)))) (hb hby d22_39) hr)
def Q_rm_ms110 (Z : State) (a1 : Addr) (a2 : Addr) (q3 : Int64) (q4 : Int64) (em : Addr) (h0 : Heap) (n0 : Nat) (v : Option Value) (h : Heap) (L : List Loc) : Prop := ∃ w : Addr, v = some (.ref w) ∧ Fr n0 L ∧ Keep h0 h [] ∧ h0.size ≤ w ∧ Exa Z h w cOL ∧ Fld Z h w cOL nIP "Z" (.int (1 : Int32)) ∧ Fld Z h w cOL "value" "J" (.long (0 : Int64))
set_option maxRecDepth 65536 in
set_option maxHeartbeats 40000000 in
theorem rm_ms110 (l : Launch) (Z : State) (a0 : Array Value) (hw : ∀ d ∈ tables_1, d.before a0 Z = true) (ws : List Jvm.Cond) (a1 : Addr) (a2 : Addr) (q3 : Int64) (q4 : Int64) (em : Addr) (h0 : Heap) (n0 : Nat) (Z0 : n0 ≤ h0.size) (O0 : Old Z n0 h0) (E_a1 : Exa Z h0 a1 cOL) (F_a1_isPresent : Fld Z h0 a1 cOL nIP "Z" (.int (1 : Int32))) (F_a1_value : Fld Z h0 a1 cOL "value" "J" (.long q4)) (E_a2 : Exa Z h0 a2 cOL) (F_a2_isPresent : Fld Z h0 a2 cOL nIP "Z" (.int (1 : Int32))) (F_a2_value : Fld Z h0 a2 cOL "value" "J" (.long q3)) (S_OptionalLong_EMPTY_old : Sta Z Z.heap cOL "EMPTY" dOL (.ref em)) (E_em_old : Exa Z Z.heap em cOL) (F_em_isPresent_old : Fld Z Z.heap em cOL nIP "Z" (.int (0 : Int32))) (F_em_value_old : Fld Z Z.heap em cOL "value" "J" (.long (0 : Int64))) (hmn : ¬ ((XT.cmpL (0 : Int64) (q4 - q3)) < (0 : Int32))) :
    MetFree l Y23 (head1 (Cond.code Y23 prog_18_method_3_code 3 (some (.object cOL)) :: ws) r5) (fun a U => a = #[(.ref a1), (.ref a2)] ∧ Z.Warmed39 U.vm ∧ U.heap = h0) (fun _ _ _ _ _ => True) (fun _ U o U' => ∃ v L, o = .returned v ∧ Q_rm_ms110 Z a1 a2 q3 q4 em h0 n0 v U'.heap L ∧ FrameEnd U o U' L r5.cells r5.slots) := by
  refine MetFree.of_bodySF (plainFor_of_name pn_com_example_log_lag_gauge_loglaggauge_model_Trailing) hisR ?_
  intro p e s m args below meth c s₁ Bd hml0 hP hK
  obtain ⟨rfl, hZ, hh⟩ := hP
  have hx := Bd.exec
  have hby := Bd.bytes
  have hml : c.maxLocals = 3 := hml0
  have hown : s.vm.findClass "com/example/log_lag_gauge/loglaggauge/model/Trailing" = some m.cls := findClass_of_methodNamed Bd.named
  have hnm := (name_of_methodNamed Bd.named Bd.method).1
  have X0 : Stand p l e r5 s m #[(.ref a1), (.ref a2)] below meth c s₁ [] 0 0 := Stand.of_body Bd
  have e0 : s₁.heap = h0 := by rw [← hh, Bd.state]; rfl
  have N0 := Fr.nil n0
  refine Goes.out (l := l) (c := c) (R := r5) (Q := Q_rm_ms110 Z a1 a2 q3 q4 em h0 n0) Bd.notSynchronized ?_
  refine Goes.cast (g2 := mkF m 0 #[rv a1, rv a2, .unset] []) (by first | (simp [entryFrame, mkF, argsToLocals, Value.category]; done) | rfl) ?_
  have K0 : Keep h0 h0 [] := Keep.refl h0 _
  have hws : ∀ x ∈ ([] : List Addr), n0 ≤ x := all0
  refine gs s₁ (mkF m 1 #[rv a1, rv a2, .unset] [(.ref a1)]) (fun _ hr => XS.aloadN X0.here hx rfl (hb hby d22_0) rfl rfl hr) ?_
  have Zs89 : n0 ≤ h0.size := Nat.le_trans Z0 K0.1
  obtain ⟨cq90, kq90, q90a, q90b, q90c⟩ := isOf hZ e0 E_a1
  obtain ⟨_, _, ⟨T90, L90, k90, n90⟩, -, X90, ⟨Lc90, hQ90, l90, y90, z90⟩, st90⟩ := X0.virtualBack hx (y := Y6) (z := Y6) hown (mvT hZ (tw hw 148 rfl)) (mvT hZ (tw hw 77 rfl)) (notFace_of_selects (args := #[]) (mvT hZ (tw hw 79 rfl))) (mvT hZ (tw hw 79 rfl)) (mvT hZ (tw hw 78 rfl)) (by decide) (backOf (W := 0) (rm_ole1 l Z a0 hw [] a1 h0 n0 Zs89 (Old.keep O0 K0 hws) F_a1_isPresent) hZ (tw hw 80 rfl) (tw hw 3 rfl) (by decide) (by decide)) q90a q90c (g := (mkF m 1 #[rv a1, rv a2, .unset] [(.ref a1)])) rfl (by rw [hml]; rfl) (Steps.refl _) (argsL := []) (rest := []) (lenOf pd_1 rfl) rfl (wle rfl) (hb hby d22_1) (fun _ _ => ⟨rfl, e0, (by decide : 0 + 0 ≤ _), (by decide : 0 + 0 ≤ _)⟩)
  dsimp only [Pt.U, Pt.locs, Pt.cells, Pt.slots] at X90 l90 y90 z90 st90 hQ90
  subst l90 y90 z90
  obtain ⟨rfl, N90q, e90⟩ := hQ90
  have N90 := Fr.app N0 N90q
  refine gs T90 (mkF m 4 #[rv a1, rv a2, .unset] [(.int (0 : Int32))]) (fun _ hr => st90.trans hr) ?_
  refine gs T90 (mkF m 7 #[rv a1, rv a2, .unset] []) (fun _ hr => XS.ifNo X90.here hx rfl (hb hby d22_4) rfl ((if0 _ _).trans (teq (by decide : (0 : Int32) = (0 : Int32))).2) hr) ?_
  refine gs T90 (mkF m 8 #[rv a1, rv a2, .unset] [(.ref a2)]) (fun _ hr => XS.aloadN X90.here hx rfl (hb hby d22_7) rfl rfl hr) ?_
  have Zs91 : n0 ≤ h0.size := Nat.le_trans Z0 K0.1
  obtain ⟨cq92, kq92, q92a, q92b, q92c⟩ := isOf hZ e90 E_a2
  obtain ⟨_, _, ⟨T92, L92, k92, n92⟩, -, X92, ⟨Lc92, hQ92, l92, y92, z92⟩, st92⟩ := X90.virtualBack hx (y := Y6) (z := Y6) hown (mvT hZ (tw hw 148 rfl)) (mvT hZ (tw hw 77 rfl)) (notFace_of_selects (args := #[]) (mvT hZ (tw hw 79 rfl))) (mvT hZ (tw hw 79 rfl)) (mvT hZ (tw hw 78 rfl)) (by decide) (backOf (W := 0) (rm_ole1 l Z a0 hw [] a2 h0 n0 Zs91 (Old.keep O0 K0 hws) F_a2_isPresent) hZ (tw hw 80 rfl) (tw hw 3 rfl) (by decide) (by decide)) q92a q92c (g := (mkF m 8 #[rv a1, rv a2, .unset] [(.ref a2)])) rfl (by rw [hml]; rfl) (Steps.refl _) (argsL := []) (rest := []) (lenOf pd_1 rfl) rfl (wle rfl) (hb hby d22_8) (fun _ _ => ⟨rfl, e90, (by decide : 0 + 0 ≤ _), (by decide : 0 + 0 ≤ _)⟩)
  dsimp only [Pt.U, Pt.locs, Pt.cells, Pt.slots] at X92 l92 y92 z92 st92 hQ92
  subst l92 y92 z92
  obtain ⟨rfl, N92q, e92⟩ := hQ92
  have N92 := Fr.app N90 N92q
  refine gs T92 (mkF m 11 #[rv a1, rv a2, .unset] [(.int (0 : Int32))]) (fun _ hr => st92.trans hr) ?_
  refine gs T92 (mkF m 21 #[rv a1, rv a2, .unset] []) (fun _ hr => XS.ifYes X92.here hx rfl (pc0 := 11) (pc' := 21) rfl (hb hby d22_11) rfl ((if0 _ _).trans (teq (by decide : (0 : Int32) = (0 : Int32))).1) (by decide) (by decide) hr) ?_
  refine gs T92 (mkF m 22 #[rv a1, rv a2, .unset] [(.long (0 : Int64))]) (fun _ hr => XT.lconst X92.here hx rfl (hb hby d22_21) hr) ?_
  refine gs T92 (mkF m 23 #[rv a1, rv a2, .unset] [(.ref a1), (.long (0 : Int64))]) (fun _ hr => XS.aloadN X92.here hx rfl (hb hby d22_22) rfl rfl hr) ?_
  have Zs93 : n0 ≤ h0.size := Nat.le_trans Z0 K0.1
  obtain ⟨cq94, kq94, q94a, q94b, q94c⟩ := isOf hZ e92 E_a1
  obtain ⟨_, _, ⟨T94, L94, k94, n94⟩, -, X94, ⟨Lc94, hQ94, l94, y94, z94⟩, st94⟩ := X92.virtualBack hx (y := Y7) (z := Y7) hown (mvT hZ (tw hw 149 rfl)) (mvT hZ (tw hw 150 rfl)) (notFace_of_selects (args := #[]) (mvT hZ (tw hw 152 rfl))) (mvT hZ (tw hw 152 rfl)) (mvT hZ (tw hw 151 rfl)) (by decide) (backOf (W := 2) (rm_olg l Z a0 hw [] a1 q4 h0 n0 Zs93 (Old.keep O0 K0 hws) F_a1_isPresent F_a1_value) hZ (tw hw 153 rfl) (tw hw 3 rfl) (by decide) (by decide)) q94a q94c (g := (mkF m 23 #[rv a1, rv a2, .unset] [(.ref a1), (.long (0 : Int64))])) rfl (by rw [hml]; rfl) (Steps.refl _) (argsL := []) (rest := [(.long (0 : Int64))]) (lenOf pd_5 rfl) rfl (wle rfl) (hb hby d22_23) (fun _ _ => ⟨rfl, e92, (by decide : 0 + 0 ≤ _), (by decide : 0 + 0 ≤ _)⟩)
  dsimp only [Pt.U, Pt.locs, Pt.cells, Pt.slots] at X94 l94 y94 z94 st94 hQ94
  subst l94 y94 z94
  obtain ⟨rfl, N94q, e94⟩ := hQ94
  have N94 := Fr.app N92 N94q
  refine gs T94 (mkF m 26 #[rv a1, rv a2, .unset] [(.long q4), (.long (0 : Int64))]) (fun _ hr => st94.trans hr) ?_
  refine gs T94 (mkF m 27 #[rv a1, rv a2, .unset] [(.ref a2), (.long q4), (.long (0 : Int64))]) (fun _ hr => XS.aloadN X94.here hx rfl (hb hby d22_26) rfl rfl hr) ?_
  have Zs95 : n0 ≤ h0.size := Nat.le_trans Z0 K0.1
  obtain ⟨cq96, kq96, q96a, q96b, q96c⟩ := isOf hZ e94 E_a2
  obtain ⟨_, _, ⟨T96, L96, k96, n96⟩, -, X96, ⟨Lc96, hQ96, l96, y96, z96⟩, st96⟩ := X94.virtualBack hx (y := Y7) (z := Y7) hown (mvT hZ (tw hw 149 rfl)) (mvT hZ (tw hw 150 rfl)) (notFace_of_selects (args := #[]) (mvT hZ (tw hw 152 rfl))) (mvT hZ (tw hw 152 rfl)) (mvT hZ (tw hw 151 rfl)) (by decide) (backOf (W := 4) (rm_olg l Z a0 hw [] a2 q3 h0 n0 Zs95 (Old.keep O0 K0 hws) F_a2_isPresent F_a2_value) hZ (tw hw 153 rfl) (tw hw 3 rfl) (by decide) (by decide)) q96a q96c (g := (mkF m 27 #[rv a1, rv a2, .unset] [(.ref a2), (.long q4), (.long (0 : Int64))])) rfl (by rw [hml]; rfl) (Steps.refl _) (argsL := []) (rest := [(.long q4), (.long (0 : Int64))]) (lenOf pd_5 rfl) rfl (wle rfl) (hb hby d22_27) (fun _ _ => ⟨rfl, e94, (by decide : 0 + 0 ≤ _), (by decide : 0 + 0 ≤ _)⟩)
  dsimp only [Pt.U, Pt.locs, Pt.cells, Pt.slots] at X96 l96 y96 z96 st96 hQ96
  subst l96 y96 z96
  obtain ⟨rfl, N96q, e96⟩ := hQ96
  have N96 := Fr.app N94 N96q
  refine gs T96 (mkF m 30 #[rv a1, rv a2, .unset] [(.long q3), (.long q4), (.long (0 : Int64))]) (fun _ hr => st96.trans hr) ?_
  refine gs T96 (mkF m 31 #[rv a1, rv a2, .unset] [(.long (q4 - q3)), (.long (0 : Int64))]) (fun _ hr => XT.lsub X96.here hx rfl (hb hby d22_30) rfl hr) ?_
  have Zs97 : n0 ≤ h0.size := Nat.le_trans Z0 K0.1
  obtain ⟨_, _, ⟨T98, L98, k98, n98⟩, -, X98, ⟨Lc98, hQ98, l98, y98, z98⟩, st98⟩ := LawKit.callS X96 hx (y := Y22) hown (mvT hZ (tw hw 195 rfl)) (mvT hZ (tw hw 196 rfl)) (mvT hZ (tw hw 197 rfl)) (mvT hZ (tw hw 198 rfl)) (by decide) (backOf (W := 0) (rm_max0 l Z a0 hw [] (0 : Int64) (q4 - q3) h0 n0 Zs97 (Old.keep O0 K0 hws) hmn) hZ (tw hw 198 rfl) (tw hw 197 rfl) (by decide) (by decide)) (g := (mkF m 31 #[rv a1, rv a2, .unset] [(.long (q4 - q3)), (.long (0 : Int64))])) rfl (by rw [hml]; rfl) (argsL := [(.long (0 : Int64)), (.long (q4 - q3))]) (rest := []) (lenOf pd_8 rfl) rfl (wle rfl) (hb hby d22_31) (fun _ _ => ⟨rfl, e96, (by decide : 0 + 0 ≤ _), (by decide : 0 + 0 ≤ _)⟩)
  dsimp only [Pt.U, Pt.locs, Pt.cells, Pt.slots] at X98 l98 y98 z98 st98 hQ98
  subst l98 y98 z98
  obtain ⟨rfl, N98q, e98⟩ := hQ98
  have N98 := Fr.app N96 N98q
  refine gs T98 (mkF m 34 #[rv a1, rv a2, .unset] [(.long (0 : Int64))]) st98 ?_
  have Zs99 : n0 ≤ h0.size := Nat.le_trans Z0 K0.1
  obtain ⟨_, _, ⟨T100, L100, k100, n100⟩, -, X100, ⟨Lc100, hQ100, l100, y100, z100⟩, st100⟩ := LawKit.callS X98 hx (y := Y3) hown (mvT hZ (tw hw 164 rfl)) (mvT hZ (tw hw 84 rfl)) (mvT hZ (tw hw 3 rfl)) (mvT hZ (tw hw 85 rfl)) (by decide) (backOf (W := 0) (rm_olof l Z a0 hw [] (0 : Int64) h0 n0 Zs99 (Old.keep O0 K0 hws)) hZ (tw hw 85 rfl) (tw hw 3 rfl) (by decide) (by decide)) (g := (mkF m 34 #[rv a1, rv a2, .unset] [(.long (0 : Int64))])) rfl (by rw [hml]; rfl) (argsL := [(.long (0 : Int64))]) (rest := []) (lenOf pd_7 rfl) rfl (wle rfl) (hb hby d22_34) (fun _ _ => ⟨rfl, e98, (by decide : 0 + 1 ≤ _), (by decide : 0 + 2 ≤ _)⟩)
  dsimp only [Pt.U, Pt.locs, Pt.cells, Pt.slots] at X100 l100 y100 z100 st100 hQ100
  subst l100 y100 z100
  obtain ⟨w100, rfl, N100q, Kc100, P100_0, P100_1, P100_2, P100_3⟩ := hQ100
  have N100 := Fr.app N98 N100q
  have K100 : Keep h0 T100.heap [] := K0.trans Kc100 all0
  have sz_w100 : h0.size ≤ w100 := Nat.le_trans K0.1 P100_0
  have E_w100_100c : Exa Z T100.heap w100 cOL := P100_1
  have F_w100_isPresent_100c : Fld Z T100.heap w100 cOL nIP "Z" (.int (1 : Int32)) := P100_2
  have F_w100_value_100c : Fld Z T100.heap w100 cOL "value" "J" (.long (0 : Int64)) := P100_3
  refine gs T100 (mkF m 37 #[rv a1, rv a2, .unset] [(.ref w100)]) st100 ?_
  refine gs T100 (mkF m 38 #[rv a1, rv a2, rv w100] []) (fun _ hr => XS.astoreN X100.here hx rfl (hb hby d22_37) rfl rfl (l' := #[rv a1, rv a2, rv w100]) rfl hr) ?_
  refine gs T100 (mkF m 39 #[rv a1, rv a2, rv w100] [(.ref w100)]) (fun _ hr => XS.aloadN X100.here hx rfl (hb hby d22_38) rfl rfl hr) ?_
  exact Goes.ret (v := some (.ref w100)) X100 (by decide) (by decide) (fun h => by rw [Bd.returns] at h; cases h) (by show Q_rm_ms110 Z a1 a2 q3 q4 em h0 n0 _ T100.heap _; exact ⟨w100, rfl, N100, K100, sz_w100, E_w100_100c, F_w100_isPresent_100c, F_w100_value_100c⟩) (fun fs hr => retOut X100 hx Bd.returns rfl (Or.inr (Or.inr (Or.inr (Or.inr ⟨rfl, rfl, rfl⟩)))) (hb hby d22_39) hr)
theorem d23_0 : decode jdk_32_method_10_code 0 = .ok (.aload_n 1, 1) := by decide +kernel
theorem d23_1 : decode jdk_32_method_10_code 1 = .ok (.invokestatic 17, 3) := by decide +kernel
theorem d23_4 : decode jdk_32_method_10_code 4 = .ok (.pop, 1) := by decide +kernel
theorem d23_5 : decode jdk_32_method_10_code 5 = .ok (.aload_n 0, 1) := by decide +kernel
theorem d23_6 : decode jdk_32_method_10_code 6 = .ok (.invokevirtual 43, 3) := by decide +kernel
theorem d23_9 : decode jdk_32_method_10_code 9 = .ok (.ifCond .eq 5, 3) := by decide +kernel
theorem d23_14 : decode jdk_32_method_10_code 14 = .ok (.aload_n 1, 1) := by decide +kernel
theorem d23_15 : decode jdk_32_method_10_code 15 = .ok (.aload_n 0, 1) := by decide +kernel
theorem d23_16 : decode jdk_32_method_10_code 16 = .ok (.getfield 13, 3) := by decide +kernel
theorem d23_19 : decode jdk_32_method_10_code 19 = .ok (.invokeinterface 47 2, 5) := by decide +kernel
theorem d23_24 : decode jdk_32_method_10_code 24 = .ok (.ifCond .eq 7, 3) := by decide +kernel
theorem d23_31 : decode jdk_32_method_10_code 31 = .ok (.invokestatic 53, 3) := by decide +kernel
theorem d23_34 : decode jdk_32_method_10_code 34 = .ok (.areturn, 1) := by decide +kernel
def Q_rm_filt0 (Z : State) (op : Addr) (fa : Addr) (rr : Addr) (eo : Addr) (cK : ClassId) (h0 : Heap) (n0 : Nat) (v : Option Value) (h : Heap) (L : List Loc) : Prop := v = some (.ref eo) ∧ Fr n0 L ∧ h = h0
set_option maxRecDepth 65536 in
set_option maxHeartbeats 40000000 in
theorem rm_filt0 (l : Launch) (Z : State) (a0 : Array Value) (hw : ∀ d ∈ tables_1, d.before a0 Z = true) (ws : List Jvm.Cond) (op : Addr) (fa : Addr) (rr : Addr) (eo : Addr) (cK : ClassId) (h0 : Heap) (n0 : Nat) (Z0 : n0 ≤ h0.size) (O0 : Old Z n0 h0) (E_op : Exa Z h0 op cOP) (F_op_value : Fld Z h0 op cOP "value" dOB (.ref rr)) (E_rr : Exa Z h0 rr cRR) (F_rr_onlyMarkersLeft : Fld Z h0 rr cRR nOM "Z" (.int (0 : Int32))) (G_fa : FnV h0 fa cK #[]) (S_Optional_EMPTY_old : Sta Z Z.heap cOP "EMPTY" dOP (.ref eo)) (E_eo_old : Exa Z Z.heap eo cOP) (F_eo_value_old : Fld Z Z.heap eo cOP "value" dOB .null) (Md : Jvm.LamKit.Made Z cPL sgP cK) :
    MetFree l Y25 (head1 (Cond.code Y25 jdk_32_method_10_code 2 (some (.object cOP)) :: ws) r6) (fun a U => a = #[(.ref op), (.ref fa)] ∧ Z.Warmed39 U.vm ∧ U.heap = h0) (fun _ _ _ _ _ => True) (fun _ U o U' => ∃ v L, o = .returned v ∧ Q_rm_filt0 Z op fa rr eo cK h0 n0 v U'.heap L ∧ FrameEnd U o U' L r6.cells r6.slots) := by
  refine MetFree.of_bodySF (plainFor_of_name pn_java_util_Optional) hisR ?_
  intro p e s m args below meth c s₁ Bd hml0 hP hK
  obtain ⟨rfl, hZ, hh⟩ := hP
  have hx := Bd.exec
  have hby := Bd.bytes
  have hml : c.maxLocals = 2 := hml0
  have hown : s.vm.findClass cOP = some m.cls := findClass_of_methodNamed Bd.named
  have hnm := (name_of_methodNamed Bd.named Bd.method).1
  have X0 : Stand p l e r6 s m #[(.ref op), (.ref fa)] below meth c s₁ [] 0 0 := Stand.of_body Bd
  have e0 : s₁.heap = h0 := by rw [← hh, Bd.state]; rfl
  have N0 := Fr.nil n0
  refine Goes.out (l := l) (c := c) (R := r6) (Q := Q_rm_filt0 Z op fa rr eo cK h0 n0) Bd.notSynchronized ?_
  refine Goes.cast (g2 := mkF m 0 #[rv op, rv fa] []) (by first | (simp [entryFrame, mkF, argsToLocals, Value.category]; done) | rfl) ?_
  have K0 : Keep h0 h0 [] := Keep.refl h0 _
  have hws : ∀ x ∈ ([] : List Addr), n0 ≤ x := all0
  refine gs s₁ (mkF m 1 #[rv op, rv fa] [(.ref fa)]) (fun _ hr => XS.aloadN X0.here hx rfl (hb hby d23_0) rfl rfl hr) ?_
  have Zs101 : n0 ≤ h0.size := Nat.le_trans Z0 K0.1
  obtain ⟨_, _, ⟨T102, L102, k102, n102⟩, -, X102, ⟨Lc102, hQ102, l102, y102, z102⟩, st102⟩ := LawKit.callS X0 hx (y := Y13) hown (mvT hZ (tw hw 57 rfl)) (mvT hZ (tw hw 58 rfl)) (mvT hZ (tw hw 35 rfl)) (mvT hZ (tw hw 59 rfl)) (by decide) (backOf (W := 0) (rm_rnn1 l Z a0 hw [] fa h0 n0 Zs101 (Old.keep O0 K0 hws)) hZ (tw hw 59 rfl) (tw hw 35 rfl) (by decide) (by decide)) (g := (mkF m 1 #[rv op, rv fa] [(.ref fa)])) rfl (by rw [hml]; rfl) (argsL := [(.ref fa)]) (rest := []) (lenOf pd_3 rfl) rfl (wle rfl) (hb hby d23_1) (fun _ _ => ⟨rfl, e0, (by decide : 0 + 0 ≤ _), (by decide : 0 + 0 ≤ _)⟩)
  dsimp only [Pt.U, Pt.locs, Pt.cells, Pt.slots] at X102 l102 y102 z102 st102 hQ102
  subst l102 y102 z102
  obtain ⟨rfl, N102q, e102⟩ := hQ102
  have N102 := Fr.app N0 N102q
  refine gs T102 (mkF m 4 #[rv op, rv fa] [(.ref fa)]) st102 ?_
  refine gs T102 (mkF m 5 #[rv op, rv fa] []) (fun _ hr => XT.pop X102.here hx rfl (hb hby d23_4) rfl rfl hr) ?_
  refine gs T102 (mkF m 6 #[rv op, rv fa] [(.ref op)]) (fun _ hr => XS.aloadN X102.here hx rfl (hb hby d23_5) rfl rfl hr) ?_
  have Zs103 : n0 ≤ h0.size := Nat.le_trans Z0 K0.1
  obtain ⟨cq104, kq104, q104a, q104b, q104c⟩ := isOf hZ e102 E_op
  obtain ⟨_, _, ⟨T104, L104, k104, n104⟩, -, X104, ⟨Lc104, hQ104, l104, y104, z104⟩, st104⟩ := X102.virtualBack hx (y := Y18) (z := Y18) hown (mvT hZ (tw hw 60 rfl)) (mvT hZ (tw hw 61 rfl)) (notFace_of_selects (args := #[]) (mvT hZ (tw hw 63 rfl))) (mvT hZ (tw hw 63 rfl)) (mvT hZ (tw hw 62 rfl)) (by decide) (backOf (W := 0) (rm_oise1 l Z a0 hw [] op rr h0 n0 Zs103 (Old.keep O0 K0 hws) F_op_value) hZ (tw hw 64 rfl) (tw hw 8 rfl) (by decide) (by decide)) q104a q104c (g := (mkF m 6 #[rv op, rv fa] [(.ref op)])) rfl (by rw [hml]; rfl) (Steps.refl _) (argsL := []) (rest := []) (lenOf pd_1 rfl) rfl (wle rfl) (hb hby d23_6) (fun _ _ => ⟨rfl, e102, (by decide : 0 + 0 ≤ _), (by decide : 0 + 0 ≤ _)⟩)
  dsimp only [Pt.U, Pt.locs, Pt.cells, Pt.slots] at X104 l104 y104 z104 st104 hQ104
  subst l104 y104 z104
  obtain ⟨rfl, N104q, e104⟩ := hQ104
  have N104 := Fr.app N102 N104q
  refine gs T104 (mkF m 9 #[rv op, rv fa] [(.int (0 : Int32))]) (fun _ hr => st104.trans hr) ?_
  refine gs T104 (mkF m 14 #[rv op, rv fa] []) (fun _ hr => XS.ifYes X104.here hx rfl (pc0 := 9) (pc' := 14) rfl (hb hby d23_9) rfl ((if0 _ _).trans (teq (by decide : (0 : Int32) = (0 : Int32))).1) (by decide) (by decide) hr) ?_
  refine gs T104 (mkF m 15 #[rv op, rv fa] [(.ref fa)]) (fun _ hr => XS.aloadN X104.here hx rfl (hb hby d23_14) rfl rfl hr) ?_
  refine gs T104 (mkF m 16 #[rv op, rv fa] [(.ref op), (.ref fa)]) (fun _ hr => XS.aloadN X104.here hx rfl (hb hby d23_15) rfl rfl hr) ?_
  obtain ⟨T105, X105, e105, st105⟩ := getF X104 hx hZ hown (host := "") (Or.inl (tw hw 65 rfl)) Via.refl e104 F_op_value (g := (mkF m 16 #[rv op, rv fa] [(.ref op), (.ref fa)])) rfl rfl (hb hby d23_16)
  refine gs T105 (mkF m 19 #[rv op, rv fa] [(.ref rr), (.ref fa)]) st105 ?_
  have Zs106 : n0 ≤ h0.size := Nat.le_trans Z0 K0.1
  obtain ⟨_, T107, Lc107, X107, hQ107, st107⟩ := own_callFace X105 hx hZ (xi := Y24) hown (tw hw 172 rfl) (tw hw 173 rfl) (tw hw 174 rfl) ⟨rfl, rfl, by decide +kernel⟩ (by decide) Md e105 G_fa okP (g := (mkF m 19 #[rv op, rv fa] [(.ref rr), (.ref fa)])) rfl (by rw [hml]; rfl) (argsL := [(.ref rr)]) (rest := []) (lenOf pd_9 rfl) rfl (hb hby d23_19) (R' := r0) (Q := Q_rm_onlyMarkersLeft0 Z rr h0 n0) (by decide) (by show 2 * 0 + 0 + 13 + 12 ≤ _; decide) (by decide) (by decide) (fun s' U bl mk ck Y' hZ' eU zq1 zq2 zq3 => bodyP hx Y' hZ' hw Md zq1 zq2 zq3 eU E_rr (rm_onlyMarkersLeft0 l Z a0 hw [] rr h0 n0 Zs106 (Old.keep O0 K0 hws) F_rr_onlyMarkersLeft) (fun v h L q => by obtain ⟨rfl, -⟩ := q; exact Or.inl rfl) (by decide) (by decide) (by decide) (by decide))
  obtain ⟨rfl, N107q, e107⟩ := hQ107
  have N107 := Fr.app N104 N107q
  refine gs T107 (mkF m 24 #[rv op, rv fa] [(.int (0 : Int32))]) st107 ?_
  refine gs T107 (mkF m 31 #[rv op, rv fa] []) (fun _ hr => XS.ifYes X107.here hx rfl (pc0 := 24) (pc' := 31) rfl (hb hby d23_24) rfl ((if0 _ _).trans (teq (by decide : (0 : Int32) = (0 : Int32))).1) (by decide) (by decide) hr) ?_
  have Zs108 : n0 ≤ h0.size := Nat.le_trans Z0 K0.1
  obtain ⟨_, _, ⟨T109, L109, k109, n109⟩, -, X109, ⟨Lc109, hQ109, l109, y109, z109⟩, st109⟩ := LawKit.callS X107 hx (y := Y17) hown (mvT hZ (tw hw 67 rfl)) (mvT hZ (tw hw 7 rfl)) (mvT hZ (tw hw 8 rfl)) (mvT hZ (tw hw 9 rfl)) (by decide) (backOf (W := 0) (rm_oem l Z a0 hw [] eo h0 n0 Zs108 (Old.keep O0 K0 hws) S_Optional_EMPTY_old) hZ (tw hw 9 rfl) (tw hw 8 rfl) (by decide) (by decide)) (g := (mkF m 31 #[rv op, rv fa] [])) rfl (by rw [hml]; rfl) (argsL := []) (rest := []) (lenOf pd_10 rfl) rfl (wle rfl) (hb hby d23_31) (fun _ _ => ⟨rfl, e107, (by decide : 0 + 0 ≤ _), (by decide : 0 + 0 ≤ _)⟩)
  dsimp only [Pt.U, Pt.locs, Pt.cells, Pt.slots] at X109 l109 y109 z109 st109 hQ109
  subst l109 y109 z109
  obtain ⟨rfl, N109q, e109⟩ := hQ109
  have N109 := Fr.app N107 N109q
  refine gs T109 (mkF m 34 #[rv op, rv fa] [(.ref eo)]) st109 ?_
  exact Goes.ret (v := some (.ref eo)) X109 (by decide) (by decide) (fun h => by rw [Bd.returns] at h; cases h) ⟨rfl, N109, e109⟩ (fun fs hr => retOut X109 hx Bd.returns rfl (Or.inr (Or.inr (Or.inr (Or.inr ⟨rfl, rfl, rfl⟩)))) (hb hby d23_34) hr)
theorem d23_27 : decode jdk_32_method_10_code 27 = .ok (.aload_n 0, 1) := by decide +kernel
theorem d23_28 : decode jdk_32_method_10_code 28 = .ok (.goto 6, 3) := by decide +kernel
def Q_rm_filt1 (Z : State) (op : Addr) (fa : Addr) (rr : Addr) (eo : Addr) (cK : ClassId) (h0 : Heap) (n0 : Nat) (v : Option Value) (h : Heap) (L : List Loc) : Prop := v = some (.ref op) ∧ Fr n0 L ∧ h = h0
set_option maxRecDepth 65536 in
set_option maxHeartbeats 40000000 in
theorem rm_filt1 (l : Launch) (Z : State) (a0 : Array Value) (hw : ∀ d ∈ tables_1, d.before a0 Z = true) (ws : List Jvm.Cond) (op : Addr) (fa : Addr) (rr : Addr) (eo : Addr) (cK : ClassId) (h0 : Heap) (n0 : Nat) (Z0 : n0 ≤ h0.size) (O0 : Old Z n0 h0) (E_op : Exa Z h0 op cOP) (F_op_value : Fld Z h0 op cOP "value" dOB (.ref rr)) (E_rr : Exa Z h0 rr cRR) (F_rr_onlyMarkersLeft : Fld Z h0 rr cRR nOM "Z" (.int (1 : Int32))) (G_fa : FnV h0 fa cK #[]) (S_Optional_EMPTY_old : Sta Z Z.heap cOP "EMPTY" dOP (.ref eo)) (E_eo_old : Exa Z Z.heap eo cOP) (F_eo_value_old : Fld Z Z.heap eo cOP "value" dOB .null) (Md : Jvm.LamKit.Made Z cPL sgP cK) :
    MetFree l Y25 (head1 (Cond.code Y25 jdk_32_method_10_code 2 (some (.object cOP)) :: ws) r6) (fun a U => a = #[(.ref op), (.ref fa)] ∧ Z.Warmed39 U.vm ∧ U.heap = h0) (fun _ _ _ _ _ => True) (fun _ U o U' => ∃ v L, o = .returned v ∧ Q_rm_filt1 Z op fa rr eo cK h0 n0 v U'.heap L ∧ FrameEnd U o U' L r6.cells r6.slots) := by
  refine MetFree.of_bodySF (plainFor_of_name pn_java_util_Optional) hisR ?_
  intro p e s m args below meth c s₁ Bd hml0 hP hK
  obtain ⟨rfl, hZ, hh⟩ := hP
  have hx := Bd.exec
  have hby := Bd.bytes
  have hml : c.maxLocals = 2 := hml0
  have hown : s.vm.findClass cOP = some m.cls := findClass_of_methodNamed Bd.named
  have hnm := (name_of_methodNamed Bd.named Bd.method).1
  have X0 : Stand p l e r6 s m #[(.ref op), (.ref fa)] below meth c s₁ [] 0 0 := Stand.of_body Bd
  have e0 : s₁.heap = h0 := by rw [← hh, Bd.state]; rfl
  have N0 := Fr.nil n0
  refine Goes.out (l := l) (c := c) (R := r6) (Q := Q_rm_filt1 Z op fa rr eo cK h0 n0) Bd.notSynchronized ?_
  refine Goes.cast (g2 := mkF m 0 #[rv op, rv fa] []) (by first | (simp [entryFrame, mkF, argsToLocals, Value.category]; done) | rfl) ?_
  have K0 : Keep h0 h0 [] := Keep.refl h0 _
  have hws : ∀ x ∈ ([] : List Addr), n0 ≤ x := all0
  refine gs s₁ (mkF m 1 #[rv op, rv fa] [(.ref fa)]) (fun _ hr => XS.aloadN X0.here hx rfl (hb hby d23_0) rfl rfl hr) ?_
  have Zs110 : n0 ≤ h0.size := Nat.le_trans Z0 K0.1
  obtain ⟨_, _, ⟨T111, L111, k111, n111⟩, -, X111, ⟨Lc111, hQ111, l111, y111, z111⟩, st111⟩ := LawKit.callS X0 hx (y := Y13) hown (mvT hZ (tw hw 57 rfl)) (mvT hZ (tw hw 58 rfl)) (mvT hZ (tw hw 35 rfl)) (mvT hZ (tw hw 59 rfl)) (by decide) (backOf (W := 0) (rm_rnn1 l Z a0 hw [] fa h0 n0 Zs110 (Old.keep O0 K0 hws)) hZ (tw hw 59 rfl) (tw hw 35 rfl) (by decide) (by decide)) (g := (mkF m 1 #[rv op, rv fa] [(.ref fa)])) rfl (by rw [hml]; rfl) (argsL := [(.ref fa)]) (rest := []) (lenOf pd_3 rfl) rfl (wle rfl) (hb hby d23_1) (fun _ _ => ⟨rfl, e0, (by decide : 0 + 0 ≤ _), (by decide : 0 + 0 ≤ _)⟩)
  dsimp only [Pt.U, Pt.locs, Pt.cells, Pt.slots] at X111 l111 y111 z111 st111 hQ111
  subst l111 y111 z111
  obtain ⟨rfl, N111q, e111⟩ := hQ111
  have N111 := Fr.app N0 N111q
  refine gs T111 (mkF m 4 #[rv op, rv fa] [(.ref fa)]) st111 ?_
  refine gs T111 (mkF m 5 #[rv op, rv fa] []) (fun _ hr => XT.pop X111.here hx rfl (hb hby d23_4) rfl rfl hr) ?_
  refine gs T111 (mkF m 6 #[rv op, rv fa] [(.ref op)]) (fun _ hr => XS.aloadN X111.here hx rfl (hb hby d23_5) rfl rfl hr) ?_
  have Zs112 : n0 ≤ h0.size := Nat.le_trans Z0 K0.1
  obtain ⟨cq113, kq113, q113a, q113b, q113c⟩ := isOf hZ e111 E_op
  obtain ⟨_, _, ⟨T113, L113, k113, n113⟩, -, X113, ⟨Lc113, hQ113, l113, y113, z113⟩, st113⟩ := X111.virtualBack hx (y := Y18) (z := Y18) hown (mvT hZ (tw hw 60 rfl)) (mvT hZ (tw hw 61 rfl)) (notFace_of_selects (args := #[]) (mvT hZ (tw hw 63 rfl))) (mvT hZ (tw hw 63 rfl)) (mvT hZ (tw hw 62 rfl)) (by decide) (backOf (W := 0) (rm_oise1 l Z a0 hw [] op rr h0 n0 Zs112 (Old.keep O0 K0 hws) F_op_value) hZ (tw hw 64 rfl) (tw hw 8 rfl) (by decide) (by decide)) q113a q113c (g := (mkF m 6 #[rv op, rv fa] [(.ref op)])) rfl (by rw [hml]; rfl) (Steps.refl _) (argsL := []) (rest := []) (lenOf pd_1 rfl) rfl (wle rfl) (hb hby d23_6) (fun _ _ => ⟨rfl, e111, (by decide : 0 + 0 ≤ _), (by decide : 0 + 0 ≤ _)⟩)
  dsimp only [Pt.U, Pt.locs, Pt.cells, Pt.slots] at X113 l113 y113 z113 st113 hQ113
  subst l113 y113 z113
  obtain ⟨rfl, N113q, e113⟩ := hQ113
  have N113 := Fr.app N111 N113q
  refine gs T113 (mkF m 9 #[rv op, rv fa] [(.int (0 : Int32))]) (fun _ hr => st113.trans hr) ?_
  refine gs T113 (mkF m 14 #[rv op, rv fa] []) (fun _ hr => XS.ifYes X113.here hx rfl (pc0 := 9) (pc' := 14) rfl (hb hby d23_9) rfl ((if0 _ _).trans (teq (by decide : (0 : Int32) = (0 : Int32))).1) (by decide) (by decide) hr) ?_
  refine gs T113 (mkF m 15 #[rv op, rv fa] [(.ref fa)]) (fun _ hr => XS.aloadN X113.here hx rfl (hb hby d23_14) rfl rfl hr) ?_
  refine gs T113 (mkF m 16 #[rv op, rv fa] [(.ref op), (.ref fa)]) (fun _ hr => XS.aloadN X113.here hx rfl (hb hby d23_15) rfl rfl hr) ?_
  obtain ⟨T114, X114, e114, st114⟩ := getF X113 hx hZ hown (host := "") (Or.inl (tw hw 65 rfl)) Via.refl e113 F_op_value (g := (mkF m 16 #[rv op, rv fa] [(.ref op), (.ref fa)])) rfl rfl (hb hby d23_16)
  refine gs T114 (mkF m 19 #[rv op, rv fa] [(.ref rr), (.ref fa)]) st114 ?_
  have Zs115 : n0 ≤ h0.size := Nat.le_trans Z0 K0.1
  obtain ⟨_, T116, Lc116, X116, hQ116, st116⟩ := own_callFace X114 hx hZ (xi := Y24) hown (tw hw 172 rfl) (tw hw 173 rfl) (tw hw 174 rfl) ⟨rfl, rfl, by decide +kernel⟩ (by decide) Md e114 G_fa okP (g := (mkF m 19 #[rv op, rv fa] [(.ref rr), (.ref fa)])) rfl (by rw [hml]; rfl) (argsL := [(.ref rr)]) (rest := []) (lenOf pd_9 rfl) rfl (hb hby d23_19) (R' := r0) (Q := Q_rm_onlyMarkersLeft1 Z rr h0 n0) (by decide) (by show 2 * 0 + 0 + 13 + 12 ≤ _; decide) (by decide) (by decide) (fun s' U bl mk ck Y' hZ' eU zq1 zq2 zq3 => bodyP hx Y' hZ' hw Md zq1 zq2 zq3 eU E_rr (rm_onlyMarkersLeft1 l Z a0 hw [] rr h0 n0 Zs115 (Old.keep O0 K0 hws) F_rr_onlyMarkersLeft) (fun v h L q => by obtain ⟨rfl, -⟩ := q; exact Or.inr rfl) (by decide) (by decide) (by decide) (by decide))
  obtain ⟨rfl, N116q, e116⟩ := hQ116
  have N116 := Fr.app N113 N116q
  refine gs T116 (mkF m 24 #[rv op, rv fa] [(.int (1 : Int32))]) st116 ?_
  refine gs T116 (mkF m 27 #[rv op, rv fa] []) (fun _ hr => XS.ifNo X116.here hx rfl (hb hby d23_24) rfl ((if0 _ _).trans (feq (by decide : ¬ ((1 : Int32) = (0 : Int32)))).1) hr) ?_
  refine gs T116 (mkF m 28 #[rv op, rv fa] [(.ref op)]) (fun _ hr => XS.aloadN X116.here hx rfl (hb hby d23_27) rfl rfl hr) ?_
  refine gs T116 (mkF m 34 #[rv op, rv fa] [(.ref op)]) (fun _ hr => XS.goto X116.here hx rfl (pc0 := 28) (pc' := 34) rfl (hb hby d23_28) (by decide) (by decide) hr) ?_
  exact Goes.ret (v := some (.ref op)) X116 (by decide) (by decide) (fun h => by rw [Bd.returns] at h; cases h) ⟨rfl, N116, e116⟩ (fun fs hr => retOut X116 hx Bd.returns rfl (Or.inr (Or.inr (Or.inr (Or.inr ⟨rfl, rfl, rfl⟩)))) (hb hby d23_34) hr)
theorem d24_0 : decode prog_13_method_3_code 0 = .ok (.aload_n 0, 1) := by decide +kernel
theorem d24_1 : decode prog_13_method_3_code 1 = .ok (.getfield 21, 3) := by decide +kernel
theorem d24_4 : decode prog_13_method_3_code 4 = .ok (.invokestatic 41, 3) := by decide +kernel
theorem d24_7 : decode prog_13_method_3_code 7 = .ok (.aload_n 0, 1) := by decide +kernel
theorem d24_8 : decode prog_13_method_3_code 8 = .ok (.getfield 15, 3) := by decide +kernel
theorem d24_11 : decode prog_13_method_3_code 11 = .ok (.invokestatic 41, 3) := by decide +kernel
theorem d24_14 : decode prog_13_method_3_code 14 = .ok (.invokestatic 46, 3) := by decide +kernel
theorem d24_17 : decode prog_13_method_3_code 17 = .ok (.astore_n 1, 1) := by decide +kernel
theorem d24_18 : decode prog_13_method_3_code 18 = .ok (.aload_n 1, 1) := by decide +kernel
theorem d24_19 : decode prog_13_method_3_code 19 = .ok (.invokevirtual 52, 3) := by decide +kernel
theorem d24_22 : decode prog_13_method_3_code 22 = .ok (.ifCond .eq 29, 3) := by decide +kernel
theorem d24_51 : decode prog_13_method_3_code 51 = .ok (.aload_n 1, 1) := by decide +kernel
theorem d24_52 : decode prog_13_method_3_code 52 = .ok (.astore_n 2, 1) := by decide +kernel
theorem d24_53 : decode prog_13_method_3_code 53 = .ok (.aload_n 2, 1) := by decide +kernel
theorem d24_54 : decode prog_13_method_3_code 54 = .ok (.areturn, 1) := by decide +kernel
theorem pn_com_example_log_lag_gauge_loglaggauge_model_PositionLag : plainName cPL = true := by first | (simp [plainName, overriddenIn]; done) | decide +kernel
def Q_rm_laggt (Z : State) (th : Addr) (em : Addr) (q1 : Int64) (q2 : Int64) (h0 : Heap) (n0 : Nat) (v : Option Value) (h : Heap) (L : List Loc) : Prop := v = some (.ref em) ∧ Fr n0 L ∧ Keep h0 h []
set_option maxRecDepth 65536 in
set_option maxHeartbeats 40000000 in
theorem rm_laggt (l : Launch) (Z : State) (a0 : Array Value) (hw : ∀ d ∈ tables_1, d.before a0 Z = true) (ws : List Jvm.Cond) (th : Addr) (em : Addr) (q1 : Int64) (q2 : Int64) (h0 : Heap) (n0 : Nat) (Z0 : n0 ≤ h0.size) (O0 : Old Z n0 h0) (E_th : Exa Z h0 th cPL) (F_th_offset : Fld Z h0 th cPL "offset" "J" (.long q1)) (F_th_end : Fld Z h0 th cPL "end" "J" (.long q2)) (S_OptionalLong_EMPTY_old : Sta Z Z.heap cOL "EMPTY" dOL (.ref em)) (E_em_old : Exa Z Z.heap em cOL) (F_em_isPresent_old : Fld Z Z.heap em cOL nIP "Z" (.int (0 : Int32))) (F_em_value_old : Fld Z Z.heap em cOL "value" "J" (.long (0 : Int64))) (hgt : (0 : Int32) < (XT.cmpL q1 q2)) :
    MetFree l Y26 (head1 (Cond.code Y26 prog_13_method_3_code 3 (some (.object cOL)) :: ws) r7) (fun a U => a = #[(.ref th)] ∧ Z.Warmed39 U.vm ∧ U.heap = h0) (fun _ _ _ _ _ => True) (fun _ U o U' => ∃ v L, o = .returned v ∧ Q_rm_laggt Z th em q1 q2 h0 n0 v U'.heap L ∧ FrameEnd U o U' L r7.cells r7.slots) := by
  refine MetFree.of_bodySF (plainFor_of_name pn_com_example_log_lag_gauge_loglaggauge_model_PositionLag) hisR ?_
  intro p e s m args below meth c s₁ Bd hml0 hP hK
  obtain ⟨rfl, hZ, hh⟩ := hP
  have hx := Bd.exec
  have hby := Bd.bytes
  have hml : c.maxLocals = 3 := hml0
  have hown : s.vm.findClass cPL = some m.cls := findClass_of_methodNamed Bd.named
  have hnm := (name_of_methodNamed Bd.named Bd.method).1
  have X0 : Stand p l e r7 s m #[(.ref th)] below meth c s₁ [] 0 0 := Stand.of_body Bd
  have e0 : s₁.heap = h0 := by rw [← hh, Bd.state]; rfl
  have N0 := Fr.nil n0
  refine Goes.out (l := l) (c := c) (R := r7) (Q := Q_rm_laggt Z th em q1 q2 h0 n0) Bd.notSynchronized ?_
  refine Goes.cast (g2 := mkF m 0 #[rv th, .unset, .unset] []) (by first | (simp [entryFrame, mkF, argsToLocals, Value.category]; done) | rfl) ?_
  have K0 : Keep h0 h0 [] := Keep.refl h0 _
  have hws : ∀ x ∈ ([] : List Addr), n0 ≤ x := all0
  refine gs s₁ (mkF m 1 #[rv th, .unset, .unset] [(.ref th)]) (fun _ hr => XS.aloadN X0.here hx rfl (hb hby d24_0) rfl rfl hr) ?_
  obtain ⟨T117, X117, e117, st117⟩ := getF X0 hx hZ hown (host := "") (Or.inl (tw hw 39 rfl)) Via.refl e0 F_th_end (g := (mkF m 1 #[rv th, .unset, .unset] [(.ref th)])) rfl rfl (hb hby d24_1)
  refine gs T117 (mkF m 4 #[rv th, .unset, .unset] [(.long q2)]) st117 ?_
  have Zs118 : n0 ≤ h0.size := Nat.le_trans Z0 K0.1
  obtain ⟨_, _, ⟨T119, L119, k119, n119⟩, -, X119, ⟨Lc119, hQ119, l119, y119, z119⟩, st119⟩ := LawKit.callS X117 hx (y := Y3) hown (mvT hZ (tw hw 143 rfl)) (mvT hZ (tw hw 84 rfl)) (mvT hZ (tw hw 3 rfl)) (mvT hZ (tw hw 85 rfl)) (by decide) (backOf (W := 0) (rm_olof l Z a0 hw [] q2 h0 n0 Zs118 (Old.keep O0 K0 hws)) hZ (tw hw 85 rfl) (tw hw 3 rfl) (by decide) (by decide)) (g := (mkF m 4 #[rv th, .unset, .unset] [(.long q2)])) rfl (by rw [hml]; rfl) (argsL := [(.long q2)]) (rest := []) (lenOf pd_7 rfl) rfl (wle rfl) (hb hby d24_4) (fun _ _ => ⟨rfl, e117, (by decide : 0 + 1 ≤ _), (by decide : 0 + 2 ≤ _)⟩)
  dsimp only [Pt.U, Pt.locs, Pt.cells, Pt.slots] at X119 l119 y119 z119 st119 hQ119
  subst l119 y119 z119
  obtain ⟨w119, rfl, N119q, Kc119, P119_0, P119_1, P119_2, P119_3⟩ := hQ119
  have N119 := Fr.app N0 N119q
  have F_th_offset_119 : Fld Z T119.heap th cPL "offset" "J" (.long q1) := F_th_offset.keep Kc119 nin0
  have K119 : Keep h0 T119.heap [] := K0.trans Kc119 all0
  have E_w119_119c : Exa Z T119.heap w119 cOL := P119_1
  have F_w119_isPresent_119c : Fld Z T119.heap w119 cOL nIP "Z" (.int (1 : Int32)) := P119_2
  have F_w119_value_119c : Fld Z T119.heap w119 cOL "value" "J" (.long q2) := P119_3
  refine gs T119 (mkF m 7 #[rv th, .unset, .unset] [(.ref w119)]) st119 ?_
  refine gs T119 (mkF m 8 #[rv th, .unset, .unset] [(.ref th), (.ref w119)]) (fun _ hr => XS.aloadN X119.here hx rfl (hb hby d24_7) rfl rfl hr) ?_
  obtain ⟨T120, X120, e120, st120⟩ := getF X119 hx hZ hown (host := "") (Or.inl (tw hw 37 rfl)) Via.refl rfl F_th_offset_119 (g := (mkF m 8 #[rv th, .unset, .unset] [(.ref th), (.ref w119)])) rfl rfl (hb hby d24_8)
  refine gs T120 (mkF m 11 #[rv th, .unset, .unset] [(.long q1), (.ref w119)]) st120 ?_
  have Zs121 : n0 ≤ T119.heap.size := Nat.le_trans Z0 K119.1
  obtain ⟨_, _, ⟨T122, L122, k122, n122⟩, -, X122, ⟨Lc122, hQ122, l122, y122, z122⟩, st122⟩ := LawKit.callS X120 hx (y := Y3) hown (mvT hZ (tw hw 143 rfl)) (mvT hZ (tw hw 84 rfl)) (mvT hZ (tw hw 3 rfl)) (mvT hZ (tw hw 85 rfl)) (by decide) (backOf (W := 1) (rm_olof l Z a0 hw [] q1 T119.heap n0 Zs121 (Old.keep O0 K119 hws)) hZ (tw hw 85 rfl) (tw hw 3 rfl) (by decide) (by decide)) (g := (mkF m 11 #[rv th, .unset, .unset] [(.long q1), (.ref w119)])) rfl (by rw [hml]; rfl) (argsL := [(.long q1)]) (rest := [(.ref w119)]) (lenOf pd_7 rfl) rfl (wle rfl) (hb hby d24_11) (fun _ _ => ⟨rfl, e120, (by decide : 1 + 1 ≤ _), (by decide : 2 + 2 ≤ _)⟩)
  dsimp only [Pt.U, Pt.locs, Pt.cells, Pt.slots] at X122 l122 y122 z122 st122 hQ122
  subst l122 y122 z122
  obtain ⟨w122, rfl, N122q, Kc122, P122_0, P122_1, P122_2, P122_3⟩ := hQ122
  have N122 := Fr.app N119 N122q
  have E_w119_122 : Exa Z T122.heap w119 cOL := E_w119_119c.keep Kc122
  have F_w119_isPresent_122 : Fld Z T122.heap w119 cOL nIP "Z" (.int (1 : Int32)) := F_w119_isPresent_119c.keep Kc122 nin0
  have F_w119_value_122 : Fld Z T122.heap w119 cOL "value" "J" (.long q2) := F_w119_value_119c.keep Kc122 nin0
  have K122 : Keep h0 T122.heap [] := K119.trans Kc122 all0
  have E_w122_122c : Exa Z T122.heap w122 cOL := P122_1
  have F_w122_isPresent_122c : Fld Z T122.heap w122 cOL nIP "Z" (.int (1 : Int32)) := P122_2
  have F_w122_value_122c : Fld Z T122.heap w122 cOL "value" "J" (.long q1) := P122_3
  refine gs T122 (mkF m 14 #[rv th, .unset, .unset] [(.ref w122), (.ref w119)]) st122 ?_
  have Zs123 : n0 ≤ T122.heap.size := Nat.le_trans Z0 K122.1
  obtain ⟨_, _, ⟨T124, L124, k124, n124⟩, -, X124, ⟨Lc124, hQ124, l124, y124, z124⟩, st124⟩ := LawKit.callS X122 hx (y := Y21) hown (mvT hZ (tw hw 144 rfl)) (mvT hZ (tw hw 145 rfl)) (mvT hZ (tw hw 146 rfl)) (mvT hZ (tw hw 147 rfl)) (by decide) (backOf (W := 0) (rm_offgt l Z a0 hw [] w119 w122 q1 q2 em T122.heap n0 Zs123 (Old.keep O0 K122 hws) E_w119_122 F_w119_isPresent_122 F_w119_value_122 E_w122_122c F_w122_isPresent_122c F_w122_value_122c S_OptionalLong_EMPTY_old E_em_old F_em_isPresent_old F_em_value_old hgt) hZ (tw hw 147 rfl) (tw hw 146 rfl) (by decide) (by decide)) (g := (mkF m 14 #[rv th, .unset, .unset] [(.ref w122), (.ref w119)])) rfl (by rw [hml]; rfl) (argsL := [(.ref w119), (.ref w122)]) (rest := []) (lenOf pd_11 rfl) rfl (wle rfl) (hb hby d24_14) (fun _ _ => ⟨rfl, rfl, (by decide : 2 + 0 ≤ _), (by decide : 4 + 0 ≤ _)⟩)
  dsimp only [Pt.U, Pt.locs, Pt.cells, Pt.slots] at X124 l124 y124 z124 st124 hQ124
  subst l124 y124 z124
  obtain ⟨rfl, N124q, Kc124⟩ := hQ124
  have N124 := Fr.app N122 N124q
  have K124 : Keep h0 T124.heap [] := K122.trans Kc124 all0
  refine gs T124 (mkF m 17 #[rv th, .unset, .unset] [(.ref em)]) st124 ?_
  refine gs T124 (mkF m 18 #[rv th, rv em, .unset] []) (fun _ hr => XS.astoreN X124.here hx rfl (hb hby d24_17) rfl rfl (l' := #[rv th, rv em, .unset]) rfl hr) ?_
  refine gs T124 (mkF m 19 #[rv th, rv em, .unset] [(.ref em)]) (fun _ hr => XS.aloadN X124.here hx rfl (hb hby d24_18) rfl rfl hr) ?_
  have Zs125 : n0 ≤ T124.heap.size := Nat.le_trans Z0 K124.1
  obtain ⟨cq126, kq126, q126a, q126b, q126c⟩ := isOf hZ rfl (E_em_old.ext (Old.keep O0 K124 hws).2)
  obtain ⟨_, _, ⟨T126, L126, k126, n126⟩, -, X126, ⟨Lc126, hQ126, l126, y126, z126⟩, st126⟩ := X124.virtualBack hx (y := Y5) (z := Y5) hown (mvT hZ (tw hw 155 rfl)) (mvT hZ (tw hw 156 rfl)) (notFace_of_selects (args := #[]) (mvT hZ (tw hw 158 rfl))) (mvT hZ (tw hw 158 rfl)) (mvT hZ (tw hw 157 rfl)) (by decide) (backOf (W := 0) (rm_olp0 l Z a0 hw [] em T124.heap n0 Zs125 (Old.keep O0 K124 hws) (F_em_isPresent_old.ext (Old.keep O0 K124 hws).2)) hZ (tw hw 159 rfl) (tw hw 3 rfl) (by decide) (by decide)) q126a q126c (g := (mkF m 19 #[rv th, rv em, .unset] [(.ref em)])) rfl (by rw [hml]; rfl) (Steps.refl _) (argsL := []) (rest := []) (lenOf pd_1 rfl) rfl (wle rfl) (hb hby d24_19) (fun _ _ => ⟨rfl, rfl, (by decide : 2 + 0 ≤ _), (by decide : 4 + 0 ≤ _)⟩)
  dsimp only [Pt.U, Pt.locs, Pt.cells, Pt.slots] at X126 l126 y126 z126 st126 hQ126
  subst l126 y126 z126
  obtain ⟨rfl, N126q, e126⟩ := hQ126
  have N126 := Fr.app N124 N126q
  refine gs T126 (mkF m 22 #[rv th, rv em, .unset] [(.int (0 : Int32))]) (fun _ hr => st126.trans hr) ?_
  refine gs T126 (mkF m 51 #[rv th, rv em, .unset] []) (fun _ hr => XS.ifYes X126.here hx rfl (pc0 := 22) (pc' := 51) rfl (hb hby d24_22) rfl ((if0 _ _).trans (teq (by decide : (0 : Int32) = (0 : Int32))).1) (by decide) (by decide) hr) ?_
  refine gs T126 (mkF m 52 #[rv th, rv em, .unset] [(.ref em)]) (fun _ hr => XS.aloadN X126.here hx rfl (hb hby d24_51) rfl rfl hr) ?_
  refine gs T126 (mkF m 53 #[rv th, rv em, rv em] []) (fun _ hr => XS.astoreN X126.here hx rfl (hb hby d24_52) rfl rfl (l' := #[rv th, rv em, rv em]) rfl hr) ?_
  refine gs T126 (mkF m 54 #[rv th, rv em, rv em] [(.ref em)]) (fun _ hr => XS.aloadN X126.here hx rfl (hb hby d24_53) rfl rfl hr) ?_
  exact Goes.ret (v := some (.ref em)) X126 (by decide) (by decide) (fun h => by rw [Bd.returns] at h; cases h) (by show Q_rm_laggt Z th em q1 q2 h0 n0 _ T126.heap _; rw [e126]; exact ⟨rfl, N126, K124⟩) (fun fs hr => retOut X126 hx Bd.returns rfl (Or.inr (Or.inr (Or.inr (Or.inr ⟨rfl, rfl, rfl⟩)))) (hb hby d24_54) hr)
theorem d24_25 : decode prog_13_method_3_code 25 = .ok (.aload_n 0, 1) := by decide +kernel
theorem d24_26 : decode prog_13_method_3_code 26 = .ok (.getfield 24, 3) := by decide +kernel
theorem d24_29 : decode prog_13_method_3_code 29 = .ok (.invokedynamic 56, 5) := by decide +kernel
theorem d24_34 : decode prog_13_method_3_code 34 = .ok (.invokevirtual 60, 3) := by decide +kernel
theorem d24_37 : decode prog_13_method_3_code 37 = .ok (.invokevirtual 64, 3) := by decide +kernel
theorem d24_40 : decode prog_13_method_3_code 40 = .ok (.ifCond .eq 11, 3) := by decide +kernel
theorem d24_43 : decode prog_13_method_3_code 43 = .ok (.lconst 0, 1) := by decide +kernel
theorem d24_44 : decode prog_13_method_3_code 44 = .ok (.invokestatic 41, 3) := by decide +kernel
theorem d24_47 : decode prog_13_method_3_code 47 = .ok (.astore_n 2, 1) := by decide +kernel
theorem d24_48 : decode prog_13_method_3_code 48 = .ok (.goto 5, 3) := by decide +kernel
def Q_rm_lag1 (Z : State) (th : Addr) (op : Addr) (rr : Addr) (em : Addr) (eo : Addr) (q1 : Int64) (q2 : Int64) (h0 : Heap) (n0 : Nat) (v : Option Value) (h : Heap) (L : List Loc) : Prop := ∃ w : Addr, v = some (.ref w) ∧ Fr n0 L ∧ Keep h0 h [] ∧ h0.size ≤ w ∧ Exa Z h w cOL ∧ Fld Z h w cOL nIP "Z" (.int (1 : Int32)) ∧ Fld Z h w cOL "value" "J" (.long (0 : Int64))
set_option maxRecDepth 65536 in
set_option maxHeartbeats 40000000 in
theorem rm_lag1 (l : Launch) (Z : State) (a0 : Array Value) (hw : ∀ d ∈ tables_1, d.before a0 Z = true) (ws : List Jvm.Cond) (th : Addr) (op : Addr) (rr : Addr) (em : Addr) (eo : Addr) (q1 : Int64) (q2 : Int64) (h0 : Heap) (n0 : Nat) (Z0 : n0 ≤ h0.size) (O0 : Old Z n0 h0) (E_th : Exa Z h0 th cPL) (F_th_offset : Fld Z h0 th cPL "offset" "J" (.long q1)) (F_th_end : Fld Z h0 th cPL "end" "J" (.long q2)) (F_th_records : Fld Z h0 th cPL "records" dOP (.ref op)) (E_op : Exa Z h0 op cOP) (F_op_value : Fld Z h0 op cOP "value" dOB (.ref rr)) (E_rr : Exa Z h0 rr cRR) (F_rr_onlyMarkersLeft : Fld Z h0 rr cRR nOM "Z" (.int (1 : Int32))) (S_OptionalLong_EMPTY_old : Sta Z Z.heap cOL "EMPTY" dOL (.ref em)) (E_em_old : Exa Z Z.heap em cOL) (F_em_isPresent_old : Fld Z Z.heap em cOL nIP "Z" (.int (0 : Int32))) (F_em_value_old : Fld Z Z.heap em cOL "value" "J" (.long (0 : Int64))) (S_Optional_EMPTY_old : Sta Z Z.heap cOP "EMPTY" dOP (.ref eo)) (E_eo_old : Exa Z Z.heap eo cOP) (F_eo_value_old : Fld Z Z.heap eo cOP "value" dOB .null) (hle : ¬ ((0 : Int32) < (XT.cmpL q1 q2))) :
    MetFree l Y26 (head1 (Cond.code Y26 prog_13_method_3_code 3 (some (.object cOL)) :: ws) r8) (fun a U => a = #[(.ref th)] ∧ Z.Warmed39 U.vm ∧ U.heap = h0) (fun _ _ _ _ _ => True) (fun _ U o U' => ∃ v L, o = .returned v ∧ Q_rm_lag1 Z th op rr em eo q1 q2 h0 n0 v U'.heap L ∧ FrameEnd U o U' L r8.cells r8.slots) := by
  refine MetFree.of_bodySF (plainFor_of_name pn_com_example_log_lag_gauge_loglaggauge_model_PositionLag) hisR ?_
  intro p e s m args below meth c s₁ Bd hml0 hP hK
  obtain ⟨rfl, hZ, hh⟩ := hP
  have hx := Bd.exec
  have hby := Bd.bytes
  have hml : c.maxLocals = 3 := hml0
  have hown : s.vm.findClass cPL = some m.cls := findClass_of_methodNamed Bd.named
  have hnm := (name_of_methodNamed Bd.named Bd.method).1
  have X0 : Stand p l e r8 s m #[(.ref th)] below meth c s₁ [] 0 0 := Stand.of_body Bd
  have e0 : s₁.heap = h0 := by rw [← hh, Bd.state]; rfl
  have N0 := Fr.nil n0
  refine Goes.out (l := l) (c := c) (R := r8) (Q := Q_rm_lag1 Z th op rr em eo q1 q2 h0 n0) Bd.notSynchronized ?_
  refine Goes.cast (g2 := mkF m 0 #[rv th, .unset, .unset] []) (by first | (simp [entryFrame, mkF, argsToLocals, Value.category]; done) | rfl) ?_
  have K0 : Keep h0 h0 [] := Keep.refl h0 _
  have hws : ∀ x ∈ ([] : List Addr), n0 ≤ x := all0
  refine gs s₁ (mkF m 1 #[rv th, .unset, .unset] [(.ref th)]) (fun _ hr => XS.aloadN X0.here hx rfl (hb hby d24_0) rfl rfl hr) ?_
  obtain ⟨T127, X127, e127, st127⟩ := getF X0 hx hZ hown (host := "") (Or.inl (tw hw 39 rfl)) Via.refl e0 F_th_end (g := (mkF m 1 #[rv th, .unset, .unset] [(.ref th)])) rfl rfl (hb hby d24_1)
  refine gs T127 (mkF m 4 #[rv th, .unset, .unset] [(.long q2)]) st127 ?_
  have Zs128 : n0 ≤ h0.size := Nat.le_trans Z0 K0.1
  obtain ⟨_, _, ⟨T129, L129, k129, n129⟩, -, X129, ⟨Lc129, hQ129, l129, y129, z129⟩, st129⟩ := LawKit.callS X127 hx (y := Y3) hown (mvT hZ (tw hw 143 rfl)) (mvT hZ (tw hw 84 rfl)) (mvT hZ (tw hw 3 rfl)) (mvT hZ (tw hw 85 rfl)) (by decide) (backOf (W := 0) (rm_olof l Z a0 hw [] q2 h0 n0 Zs128 (Old.keep O0 K0 hws)) hZ (tw hw 85 rfl) (tw hw 3 rfl) (by decide) (by decide)) (g := (mkF m 4 #[rv th, .unset, .unset] [(.long q2)])) rfl (by rw [hml]; rfl) (argsL := [(.long q2)]) (rest := []) (lenOf pd_7 rfl) rfl (wle rfl) (hb hby d24_4) (fun _ _ => ⟨rfl, e127, (by decide : 0 + 1 ≤ _), (by decide : 0 + 2 ≤ _)⟩)
  dsimp only [Pt.U, Pt.locs, Pt.cells, Pt.slots] at X129 l129 y129 z129 st129 hQ129
  subst l129 y129 z129
  obtain ⟨w129, rfl, N129q, Kc129, P129_0, P129_1, P129_2, P129_3⟩ := hQ129
  have N129 := Fr.app N0 N129q
  have F_th_offset_129 : Fld Z T129.heap th cPL "offset" "J" (.long q1) := F_th_offset.keep Kc129 nin0
  have F_th_records_129 : Fld Z T129.heap th cPL "records" dOP (.ref op) := F_th_records.keep Kc129 nin0
  have E_op_129 : Exa Z T129.heap op cOP := E_op.keep Kc129
  have F_op_value_129 : Fld Z T129.heap op cOP "value" dOB (.ref rr) := F_op_value.keep Kc129 nin0
  have E_rr_129 : Exa Z T129.heap rr cRR := E_rr.keep Kc129
  have F_rr_onlyMarkersLeft_129 : Fld Z T129.heap rr cRR nOM "Z" (.int (1 : Int32)) := F_rr_onlyMarkersLeft.keep Kc129 nin0
  have K129 : Keep h0 T129.heap [] := K0.trans Kc129 all0
  have E_w129_129c : Exa Z T129.heap w129 cOL := P129_1
  have F_w129_isPresent_129c : Fld Z T129.heap w129 cOL nIP "Z" (.int (1 : Int32)) := P129_2
  have F_w129_value_129c : Fld Z T129.heap w129 cOL "value" "J" (.long q2) := P129_3
  refine gs T129 (mkF m 7 #[rv th, .unset, .unset] [(.ref w129)]) st129 ?_
  refine gs T129 (mkF m 8 #[rv th, .unset, .unset] [(.ref th), (.ref w129)]) (fun _ hr => XS.aloadN X129.here hx rfl (hb hby d24_7) rfl rfl hr) ?_
  obtain ⟨T130, X130, e130, st130⟩ := getF X129 hx hZ hown (host := "") (Or.inl (tw hw 37 rfl)) Via.refl rfl F_th_offset_129 (g := (mkF m 8 #[rv th, .unset, .unset] [(.ref th), (.ref w129)])) rfl rfl (hb hby d24_8)
  refine gs T130 (mkF m 11 #[rv th, .unset, .unset] [(.long q1), (.ref w129)]) st130 ?_
  have Zs131 : n0 ≤ T129.heap.size := Nat.le_trans Z0 K129.1
  obtain ⟨_, _, ⟨T132, L132, k132, n132⟩, -, X132, ⟨Lc132, hQ132, l132, y132, z132⟩, st132⟩ := LawKit.callS X130 hx (y := Y3) hown (mvT hZ (tw hw 143 rfl)) (mvT hZ (tw hw 84 rfl)) (mvT hZ (tw hw 3 rfl)) (mvT hZ (tw hw 85 rfl)) (by decide) (backOf (W := 1) (rm_olof l Z a0 hw [] q1 T129.heap n0 Zs131 (Old.keep O0 K129 hws)) hZ (tw hw 85 rfl) (tw hw 3 rfl) (by decide) (by decide)) (g := (mkF m 11 #[rv th, .unset, .unset] [(.long q1), (.ref w129)])) rfl (by rw [hml]; rfl) (argsL := [(.long q1)]) (rest := [(.ref w129)]) (lenOf pd_7 rfl) rfl (wle rfl) (hb hby d24_11) (fun _ _ => ⟨rfl, e130, (by decide : 1 + 1 ≤ _), (by decide : 2 + 2 ≤ _)⟩)
  dsimp only [Pt.U, Pt.locs, Pt.cells, Pt.slots] at X132 l132 y132 z132 st132 hQ132
  subst l132 y132 z132
  obtain ⟨w132, rfl, N132q, Kc132, P132_0, P132_1, P132_2, P132_3⟩ := hQ132
  have N132 := Fr.app N129 N132q
  have F_th_records_132 : Fld Z T132.heap th cPL "records" dOP (.ref op) := F_th_records_129.keep Kc132 nin0
  have E_op_132 : Exa Z T132.heap op cOP := E_op_129.keep Kc132
  have F_op_value_132 : Fld Z T132.heap op cOP "value" dOB (.ref rr) := F_op_value_129.keep Kc132 nin0
  have E_rr_132 : Exa Z T132.heap rr cRR := E_rr_129.keep Kc132
  have F_rr_onlyMarkersLeft_132 : Fld Z T132.heap rr cRR nOM "Z" (.int (1 : Int32)) := F_rr_onlyMarkersLeft_129.keep Kc132 nin0
  have E_w129_132 : Exa Z T132.heap w129 cOL := E_w129_129c.keep Kc132
  have F_w129_isPresent_132 : Fld Z T132.heap w129 cOL nIP "Z" (.int (1 : Int32)) := F_w129_isPresent_129c.keep Kc132 nin0
  have F_w129_value_132 : Fld Z T132.heap w129 cOL "value" "J" (.long q2) := F_w129_value_129c.keep Kc132 nin0
  have K132 : Keep h0 T132.heap [] := K129.trans Kc132 all0
  have E_w132_132c : Exa Z T132.heap w132 cOL := P132_1
  have F_w132_isPresent_132c : Fld Z T132.heap w132 cOL nIP "Z" (.int (1 : Int32)) := P132_2
  have F_w132_value_132c : Fld Z T132.heap w132 cOL "value" "J" (.long q1) := P132_3
  refine gs T132 (mkF m 14 #[rv th, .unset, .unset] [(.ref w132), (.ref w129)]) st132 ?_
  have Zs133 : n0 ≤ T132.heap.size := Nat.le_trans Z0 K132.1
  obtain ⟨_, _, ⟨T134, L134, k134, n134⟩, -, X134, ⟨Lc134, hQ134, l134, y134, z134⟩, st134⟩ := LawKit.callS X132 hx (y := Y21) hown (mvT hZ (tw hw 144 rfl)) (mvT hZ (tw hw 145 rfl)) (mvT hZ (tw hw 146 rfl)) (mvT hZ (tw hw 147 rfl)) (by decide) (backOf (W := 0) (rm_offle l Z a0 hw [] w129 w132 q1 q2 em T132.heap n0 Zs133 (Old.keep O0 K132 hws) E_w129_132 F_w129_isPresent_132 F_w129_value_132 E_w132_132c F_w132_isPresent_132c F_w132_value_132c S_OptionalLong_EMPTY_old E_em_old F_em_isPresent_old F_em_value_old hle) hZ (tw hw 147 rfl) (tw hw 146 rfl) (by decide) (by decide)) (g := (mkF m 14 #[rv th, .unset, .unset] [(.ref w132), (.ref w129)])) rfl (by rw [hml]; rfl) (argsL := [(.ref w129), (.ref w132)]) (rest := []) (lenOf pd_11 rfl) rfl (wle rfl) (hb hby d24_14) (fun _ _ => ⟨rfl, rfl, (by decide : 2 + 1 ≤ _), (by decide : 4 + 2 ≤ _)⟩)
  dsimp only [Pt.U, Pt.locs, Pt.cells, Pt.slots] at X134 l134 y134 z134 st134 hQ134
  subst l134 y134 z134
  obtain ⟨w134, rfl, N134q, Kc134, P134_0, P134_1, P134_2, P134_3⟩ := hQ134
  have N134 := Fr.app N132 N134q
  have F_th_records_134 : Fld Z T134.heap th cPL "records" dOP (.ref op) := F_th_records_132.keep Kc134 nin0
  have E_op_134 : Exa Z T134.heap op cOP := E_op_132.keep Kc134
  have F_op_value_134 : Fld Z T134.heap op cOP "value" dOB (.ref rr) := F_op_value_132.keep Kc134 nin0
  have E_rr_134 : Exa Z T134.heap rr cRR := E_rr_132.keep Kc134
  have F_rr_onlyMarkersLeft_134 : Fld Z T134.heap rr cRR nOM "Z" (.int (1 : Int32)) := F_rr_onlyMarkersLeft_132.keep Kc134 nin0
  have K134 : Keep h0 T134.heap [] := K132.trans Kc134 all0
  have E_w134_134c : Exa Z T134.heap w134 cOL := P134_1
  have F_w134_isPresent_134c : Fld Z T134.heap w134 cOL nIP "Z" (.int (1 : Int32)) := P134_2
  refine gs T134 (mkF m 17 #[rv th, .unset, .unset] [(.ref w134)]) st134 ?_
  refine gs T134 (mkF m 18 #[rv th, rv w134, .unset] []) (fun _ hr => XS.astoreN X134.here hx rfl (hb hby d24_17) rfl rfl (l' := #[rv th, rv w134, .unset]) rfl hr) ?_
  refine gs T134 (mkF m 19 #[rv th, rv w134, .unset] [(.ref w134)]) (fun _ hr => XS.aloadN X134.here hx rfl (hb hby d24_18) rfl rfl hr) ?_
  have Zs135 : n0 ≤ T134.heap.size := Nat.le_trans Z0 K134.1
  obtain ⟨cq136, kq136, q136a, q136b, q136c⟩ := isOf hZ rfl E_w134_134c
  obtain ⟨_, _, ⟨T136, L136, k136, n136⟩, -, X136, ⟨Lc136, hQ136, l136, y136, z136⟩, st136⟩ := X134.virtualBack hx (y := Y5) (z := Y5) hown (mvT hZ (tw hw 155 rfl)) (mvT hZ (tw hw 156 rfl)) (notFace_of_selects (args := #[]) (mvT hZ (tw hw 158 rfl))) (mvT hZ (tw hw 158 rfl)) (mvT hZ (tw hw 157 rfl)) (by decide) (backOf (W := 0) (rm_olp1 l Z a0 hw [] w134 T134.heap n0 Zs135 (Old.keep O0 K134 hws) F_w134_isPresent_134c) hZ (tw hw 159 rfl) (tw hw 3 rfl) (by decide) (by decide)) q136a q136c (g := (mkF m 19 #[rv th, rv w134, .unset] [(.ref w134)])) rfl (by rw [hml]; rfl) (Steps.refl _) (argsL := []) (rest := []) (lenOf pd_1 rfl) rfl (wle rfl) (hb hby d24_19) (fun _ _ => ⟨rfl, rfl, (by decide : 3 + 0 ≤ _), (by decide : 6 + 0 ≤ _)⟩)
  dsimp only [Pt.U, Pt.locs, Pt.cells, Pt.slots] at X136 l136 y136 z136 st136 hQ136
  subst l136 y136 z136
  obtain ⟨rfl, N136q, e136⟩ := hQ136
  have N136 := Fr.app N134 N136q
  refine gs T136 (mkF m 22 #[rv th, rv w134, .unset] [(.int (1 : Int32))]) (fun _ hr => st136.trans hr) ?_
  refine gs T136 (mkF m 25 #[rv th, rv w134, .unset] []) (fun _ hr => XS.ifNo X136.here hx rfl (hb hby d24_22) rfl ((if0 _ _).trans (feq (by decide : ¬ ((1 : Int32) = (0 : Int32)))).1) hr) ?_
  refine gs T136 (mkF m 26 #[rv th, rv w134, .unset] [(.ref th)]) (fun _ hr => XS.aloadN X136.here hx rfl (hb hby d24_25) rfl rfl hr) ?_
  obtain ⟨T137, X137, e137, st137⟩ := getF X136 hx hZ hown (host := "") (Or.inl (tw hw 41 rfl)) Via.refl e136 F_th_records_134 (g := (mkF m 26 #[rv th, rv w134, .unset] [(.ref th)])) rfl rfl (hb hby d24_26)
  refine gs T137 (mkF m 29 #[rv th, rv w134, .unset] [(.ref op)]) st137 ?_
  obtain ⟨f138, c138, Md138, Gz138, st138⟩ := own_siteConst X137 hx hZ (x := Y26) (pc := 29) (σ := sgP) Bd.named (tw hw 165 rfl) rfl (g := (mkF m 29 #[rv th, rv w134, .unset] [(.ref op)])) rfl rfl (by rw [hml]; rfl) (hb hby d24_29) (by show 2 * 0 + 1 + 3072 ≤ _; decide)
  refine gs T137 (mkF m 34 #[rv th, rv w134, .unset] [(.ref f138), (.ref op)]) st138 ?_
  have Zs139 : n0 ≤ T134.heap.size := Nat.le_trans Z0 K134.1
  obtain ⟨cq140, kq140, q140a, q140b, q140c⟩ := isOf hZ e137 E_op_134
  obtain ⟨_, _, ⟨T140, L140, k140, n140⟩, -, X140, ⟨Lc140, hQ140, l140, y140, z140⟩, st140⟩ := X137.virtualBack hx (y := Y25) (z := Y25) hown (mvT hZ (tw hw 167 rfl)) (mvT hZ (tw hw 168 rfl)) (notFace_of_selects (args := #[]) (mvT hZ (tw hw 170 rfl))) (mvT hZ (tw hw 170 rfl)) (mvT hZ (tw hw 169 rfl)) (by decide) (backOf (W := 0) (rm_filt1 l Z a0 hw [] op f138 rr eo c138 T134.heap n0 Zs139 (Old.keep O0 K134 hws) E_op_134 F_op_value_134 E_rr_134 F_rr_onlyMarkersLeft_134 (Gz138.ext (Old.keep O0 K134 hws).2) S_Optional_EMPTY_old E_eo_old F_eo_value_old Md138) hZ (tw hw 171 rfl) (tw hw 8 rfl) (by decide) (by decide)) q140a q140c (g := (mkF m 34 #[rv th, rv w134, .unset] [(.ref f138), (.ref op)])) rfl (by rw [hml]; rfl) (Steps.refl _) (argsL := [(.ref f138)]) (rest := []) (lenOf pd_12 rfl) rfl (wle rfl) (hb hby d24_34) (fun _ _ => ⟨rfl, e137, (by decide : 3 + 0 ≤ _), (by decide : 6 + 0 ≤ _)⟩)
  dsimp only [Pt.U, Pt.locs, Pt.cells, Pt.slots] at X140 l140 y140 z140 st140 hQ140
  subst l140 y140 z140
  obtain ⟨rfl, N140q, e140⟩ := hQ140
  have N140 := Fr.app N136 N140q
  refine gs T140 (mkF m 37 #[rv th, rv w134, .unset] [(.ref op)]) (fun _ hr => st140.trans hr) ?_
  have Zs141 : n0 ≤ T134.heap.size := Nat.le_trans Z0 K134.1
  obtain ⟨cq142, kq142, q142a, q142b, q142c⟩ := isOf hZ e140 E_op_134
  obtain ⟨_, _, ⟨T142, L142, k142, n142⟩, -, X142, ⟨Lc142, hQ142, l142, y142, z142⟩, st142⟩ := X140.virtualBack hx (y := Y19) (z := Y19) hown (mvT hZ (tw hw 179 rfl)) (mvT hZ (tw hw 180 rfl)) (notFace_of_selects (args := #[]) (mvT hZ (tw hw 182 rfl))) (mvT hZ (tw hw 182 rfl)) (mvT hZ (tw hw 181 rfl)) (by decide) (backOf (W := 0) (rm_oisp1 l Z a0 hw [] op rr T134.heap n0 Zs141 (Old.keep O0 K134 hws) F_op_value_134) hZ (tw hw 183 rfl) (tw hw 8 rfl) (by decide) (by decide)) q142a q142c (g := (mkF m 37 #[rv th, rv w134, .unset] [(.ref op)])) rfl (by rw [hml]; rfl) (Steps.refl _) (argsL := []) (rest := []) (lenOf pd_1 rfl) rfl (wle rfl) (hb hby d24_37) (fun _ _ => ⟨rfl, e140, (by decide : 3 + 0 ≤ _), (by decide : 6 + 0 ≤ _)⟩)
  dsimp only [Pt.U, Pt.locs, Pt.cells, Pt.slots] at X142 l142 y142 z142 st142 hQ142
  subst l142 y142 z142
  obtain ⟨rfl, N142q, e142⟩ := hQ142
  have N142 := Fr.app N140 N142q
  refine gs T142 (mkF m 40 #[rv th, rv w134, .unset] [(.int (1 : Int32))]) (fun _ hr => st142.trans hr) ?_
  refine gs T142 (mkF m 43 #[rv th, rv w134, .unset] []) (fun _ hr => XS.ifNo X142.here hx rfl (hb hby d24_40) rfl ((if0 _ _).trans (feq (by decide : ¬ ((1 : Int32) = (0 : Int32)))).1) hr) ?_
  refine gs T142 (mkF m 44 #[rv th, rv w134, .unset] [(.long (0 : Int64))]) (fun _ hr => XT.lconst X142.here hx rfl (hb hby d24_43) hr) ?_
  have Zs143 : n0 ≤ T134.heap.size := Nat.le_trans Z0 K134.1
  obtain ⟨_, _, ⟨T144, L144, k144, n144⟩, -, X144, ⟨Lc144, hQ144, l144, y144, z144⟩, st144⟩ := LawKit.callS X142 hx (y := Y3) hown (mvT hZ (tw hw 143 rfl)) (mvT hZ (tw hw 84 rfl)) (mvT hZ (tw hw 3 rfl)) (mvT hZ (tw hw 85 rfl)) (by decide) (backOf (W := 0) (rm_olof l Z a0 hw [] (0 : Int64) T134.heap n0 Zs143 (Old.keep O0 K134 hws)) hZ (tw hw 85 rfl) (tw hw 3 rfl) (by decide) (by decide)) (g := (mkF m 44 #[rv th, rv w134, .unset] [(.long (0 : Int64))])) rfl (by rw [hml]; rfl) (argsL := [(.long (0 : Int64))]) (rest := []) (lenOf pd_7 rfl) rfl (wle rfl) (hb hby d24_44) (fun _ _ => ⟨rfl, e142, (by decide : 3 + 1 ≤ _), (by decide : 6 + 2 ≤ _)⟩)
  dsimp only [Pt.U, Pt.locs, Pt.cells, Pt.slots] at X144 l144 y144 z144 st144 hQ144
  subst l144 y144 z144
  obtain ⟨w144, rfl, N144q, Kc144, P144_0, P144_1, P144_2, P144_3⟩ := hQ144
  have N144 := Fr.app N142 N144q
  have K144 : Keep h0 T144.heap [] := K134.trans Kc144 all0
  have sz_w144 : h0.size ≤ w144 := Nat.le_trans K134.1 P144_0
  have E_w144_144c : Exa Z T144.heap w144 cOL := P144_1
  have F_w144_isPresent_144c : Fld Z T144.heap w144 cOL nIP "Z" (.int (1 : Int32)) := P144_2
  have F_w144_value_144c : Fld Z T144.heap w144 cOL "value" "J" (.long (0 : Int64)) := P144_3
  refine gs T144 (mkF m 47 #[rv th, rv w134, .unset] [(.ref w144)]) st144 ?_
  refine gs T144 (mkF m 48 #[rv th, rv w134, rv w144] []) (fun _ hr => XS.astoreN X144.here hx rfl (hb hby d24_47) rfl rfl (l' := #[rv th, rv w134, rv w144]) rfl hr) ?_
  refine gs T144 (mkF m 53 #[rv th, rv w134, rv w144] []) (fun _ hr => XS.goto X144.here hx rfl (pc0 := 48) (pc' := 53) rfl (hb hby d24_48) (by decide) (by decide) hr) ?_
  refine gs T144 (mkF m 54 #[rv th, rv w134, rv w144] [(.ref w144)]) (fun _ hr => XS.aloadN X144.here hx rfl (hb hby d24_53) rfl rfl hr) ?_
  exact Goes.ret (v := some (.ref w144)) X144 (by decide) (by decide) (fun h => by rw [Bd.returns] at h; cases h) (by show Q_rm_lag1 Z th op rr em eo q1 q2 h0 n0 _ T144.heap _; exact ⟨w144, rfl, N144, K144, sz_w144, E_w144_144c, F_w144_isPresent_144c, F_w144_value_144c⟩) (fun fs hr => retOut X144 hx Bd.returns rfl (Or.inr (Or.inr (Or.inr (Or.inr ⟨rfl, rfl, rfl⟩)))) (hb hby d24_54) hr)
def Q_rm_lag0 (Z : State) (th : Addr) (op : Addr) (rr : Addr) (em : Addr) (eo : Addr) (q1 : Int64) (q2 : Int64) (h0 : Heap) (n0 : Nat) (v : Option Value) (h : Heap) (L : List Loc) : Prop := ∃ w : Addr, v = some (.ref w) ∧ Fr n0 L ∧ Keep h0 h [] ∧ h0.size ≤ w ∧ Exa Z h w cOL ∧ Fld Z h w cOL nIP "Z" (.int (1 : Int32)) ∧ Fld Z h w cOL "value" "J" (.long (q2 - q1))
set_option maxRecDepth 65536 in
set_option maxHeartbeats 40000000 in
theorem rm_lag0 (l : Launch) (Z : State) (a0 : Array Value) (hw : ∀ d ∈ tables_1, d.before a0 Z = true) (ws : List Jvm.Cond) (th : Addr) (op : Addr) (rr : Addr) (em : Addr) (eo : Addr) (q1 : Int64) (q2 : Int64) (h0 : Heap) (n0 : Nat) (Z0 : n0 ≤ h0.size) (O0 : Old Z n0 h0) (E_th : Exa Z h0 th cPL) (F_th_offset : Fld Z h0 th cPL "offset" "J" (.long q1)) (F_th_end : Fld Z h0 th cPL "end" "J" (.long q2)) (F_th_records : Fld Z h0 th cPL "records" dOP (.ref op)) (E_op : Exa Z h0 op cOP) (F_op_value : Fld Z h0 op cOP "value" dOB (.ref rr)) (E_rr : Exa Z h0 rr cRR) (F_rr_onlyMarkersLeft : Fld Z h0 rr cRR nOM "Z" (.int (0 : Int32))) (S_OptionalLong_EMPTY_old : Sta Z Z.heap cOL "EMPTY" dOL (.ref em)) (E_em_old : Exa Z Z.heap em cOL) (F_em_isPresent_old : Fld Z Z.heap em cOL nIP "Z" (.int (0 : Int32))) (F_em_value_old : Fld Z Z.heap em cOL "value" "J" (.long (0 : Int64))) (S_Optional_EMPTY_old : Sta Z Z.heap cOP "EMPTY" dOP (.ref eo)) (E_eo_old : Exa Z Z.heap eo cOP) (F_eo_value_old : Fld Z Z.heap eo cOP "value" dOB .null) (hle : ¬ ((0 : Int32) < (XT.cmpL q1 q2))) :
    MetFree l Y26 (head1 (Cond.code Y26 prog_13_method_3_code 3 (some (.object cOL)) :: ws) r9) (fun a U => a = #[(.ref th)] ∧ Z.Warmed39 U.vm ∧ U.heap = h0) (fun _ _ _ _ _ => True) (fun _ U o U' => ∃ v L, o = .returned v ∧ Q_rm_lag0 Z th op rr em eo q1 q2 h0 n0 v U'.heap L ∧ FrameEnd U o U' L r9.cells r9.slots) := by
  refine MetFree.of_bodySF (plainFor_of_name pn_com_example_log_lag_gauge_loglaggauge_model_PositionLag) hisR ?_
  intro p e s m args below meth c s₁ Bd hml0 hP hK
  obtain ⟨rfl, hZ, hh⟩ := hP
  have hx := Bd.exec
  have hby := Bd.bytes
  have hml : c.maxLocals = 3 := hml0
  have hown : s.vm.findClass cPL = some m.cls := findClass_of_methodNamed Bd.named
  have hnm := (name_of_methodNamed Bd.named Bd.method).1
  have X0 : Stand p l e r9 s m #[(.ref th)] below meth c s₁ [] 0 0 := Stand.of_body Bd
  have e0 : s₁.heap = h0 := by rw [← hh, Bd.state]; rfl
  have N0 := Fr.nil n0
  refine Goes.out (l := l) (c := c) (R := r9) (Q := Q_rm_lag0 Z th op rr em eo q1 q2 h0 n0) Bd.notSynchronized ?_
  refine Goes.cast (g2 := mkF m 0 #[rv th, .unset, .unset] []) (by first | (simp [entryFrame, mkF, argsToLocals, Value.category]; done) | rfl) ?_
  have K0 : Keep h0 h0 [] := Keep.refl h0 _
  have hws : ∀ x ∈ ([] : List Addr), n0 ≤ x := all0
  refine gs s₁ (mkF m 1 #[rv th, .unset, .unset] [(.ref th)]) (fun _ hr => XS.aloadN X0.here hx rfl (hb hby d24_0) rfl rfl hr) ?_
  obtain ⟨T145, X145, e145, st145⟩ := getF X0 hx hZ hown (host := "") (Or.inl (tw hw 39 rfl)) Via.refl e0 F_th_end (g := (mkF m 1 #[rv th, .unset, .unset] [(.ref th)])) rfl rfl (hb hby d24_1)
  refine gs T145 (mkF m 4 #[rv th, .unset, .unset] [(.long q2)]) st145 ?_
  have Zs146 : n0 ≤ h0.size := Nat.le_trans Z0 K0.1
  obtain ⟨_, _, ⟨T147, L147, k147, n147⟩, -, X147, ⟨Lc147, hQ147, l147, y147, z147⟩, st147⟩ := LawKit.callS X145 hx (y := Y3) hown (mvT hZ (tw hw 143 rfl)) (mvT hZ (tw hw 84 rfl)) (mvT hZ (tw hw 3 rfl)) (mvT hZ (tw hw 85 rfl)) (by decide) (backOf (W := 0) (rm_olof l Z a0 hw [] q2 h0 n0 Zs146 (Old.keep O0 K0 hws)) hZ (tw hw 85 rfl) (tw hw 3 rfl) (by decide) (by decide)) (g := (mkF m 4 #[rv th, .unset, .unset] [(.long q2)])) rfl (by rw [hml]; rfl) (argsL := [(.long q2)]) (rest := []) (lenOf pd_7 rfl) rfl (wle rfl) (hb hby d24_4) (fun _ _ => ⟨rfl, e145, (by decide : 0 + 1 ≤ _), (by decide : 0 + 2 ≤ _)⟩)
  dsimp only [Pt.U, Pt.locs, Pt.cells, Pt.slots] at X147 l147 y147 z147 st147 hQ147
  subst l147 y147 z147
  obtain ⟨w147, rfl, N147q, Kc147, P147_0, P147_1, P147_2, P147_3⟩ := hQ147
  have N147 := Fr.app N0 N147q
  have F_th_offset_147 : Fld Z T147.heap th cPL "offset" "J" (.long q1) := F_th_offset.keep Kc147 nin0
  have F_th_records_147 : Fld Z T147.heap th cPL "records" dOP (.ref op) := F_th_records.keep Kc147 nin0
  have E_op_147 : Exa Z T147.heap op cOP := E_op.keep Kc147
  have F_op_value_147 : Fld Z T147.heap op cOP "value" dOB (.ref rr) := F_op_value.keep Kc147 nin0
  have E_rr_147 : Exa Z T147.heap rr cRR := E_rr.keep Kc147
  have F_rr_onlyMarkersLeft_147 : Fld Z T147.heap rr cRR nOM "Z" (.int (0 : Int32)) := F_rr_onlyMarkersLeft.keep Kc147 nin0
  have K147 : Keep h0 T147.heap [] := K0.trans Kc147 all0
  have E_w147_147c : Exa Z T147.heap w147 cOL := P147_1
  have F_w147_isPresent_147c : Fld Z T147.heap w147 cOL nIP "Z" (.int (1 : Int32)) := P147_2
  have F_w147_value_147c : Fld Z T147.heap w147 cOL "value" "J" (.long q2) := P147_3
  refine gs T147 (mkF m 7 #[rv th, .unset, .unset] [(.ref w147)]) st147 ?_
  refine gs T147 (mkF m 8 #[rv th, .unset, .unset] [(.ref th), (.ref w147)]) (fun _ hr => XS.aloadN X147.here hx rfl (hb hby d24_7) rfl rfl hr) ?_
  obtain ⟨T148, X148, e148, st148⟩ := getF X147 hx hZ hown (host := "") (Or.inl (tw hw 37 rfl)) Via.refl rfl F_th_offset_147 (g := (mkF m 8 #[rv th, .unset, .unset] [(.ref th), (.ref w147)])) rfl rfl (hb hby d24_8)
  refine gs T148 (mkF m 11 #[rv th, .unset, .unset] [(.long q1), (.ref w147)]) st148 ?_
  have Zs149 : n0 ≤ T147.heap.size := Nat.le_trans Z0 K147.1
  obtain ⟨_, _, ⟨T150, L150, k150, n150⟩, -, X150, ⟨Lc150, hQ150, l150, y150, z150⟩, st150⟩ := LawKit.callS X148 hx (y := Y3) hown (mvT hZ (tw hw 143 rfl)) (mvT hZ (tw hw 84 rfl)) (mvT hZ (tw hw 3 rfl)) (mvT hZ (tw hw 85 rfl)) (by decide) (backOf (W := 1) (rm_olof l Z a0 hw [] q1 T147.heap n0 Zs149 (Old.keep O0 K147 hws)) hZ (tw hw 85 rfl) (tw hw 3 rfl) (by decide) (by decide)) (g := (mkF m 11 #[rv th, .unset, .unset] [(.long q1), (.ref w147)])) rfl (by rw [hml]; rfl) (argsL := [(.long q1)]) (rest := [(.ref w147)]) (lenOf pd_7 rfl) rfl (wle rfl) (hb hby d24_11) (fun _ _ => ⟨rfl, e148, (by decide : 1 + 1 ≤ _), (by decide : 2 + 2 ≤ _)⟩)
  dsimp only [Pt.U, Pt.locs, Pt.cells, Pt.slots] at X150 l150 y150 z150 st150 hQ150
  subst l150 y150 z150
  obtain ⟨w150, rfl, N150q, Kc150, P150_0, P150_1, P150_2, P150_3⟩ := hQ150
  have N150 := Fr.app N147 N150q
  have F_th_records_150 : Fld Z T150.heap th cPL "records" dOP (.ref op) := F_th_records_147.keep Kc150 nin0
  have E_op_150 : Exa Z T150.heap op cOP := E_op_147.keep Kc150
  have F_op_value_150 : Fld Z T150.heap op cOP "value" dOB (.ref rr) := F_op_value_147.keep Kc150 nin0
  have E_rr_150 : Exa Z T150.heap rr cRR := E_rr_147.keep Kc150
  have F_rr_onlyMarkersLeft_150 : Fld Z T150.heap rr cRR nOM "Z" (.int (0 : Int32)) := F_rr_onlyMarkersLeft_147.keep Kc150 nin0
  have E_w147_150 : Exa Z T150.heap w147 cOL := E_w147_147c.keep Kc150
  have F_w147_isPresent_150 : Fld Z T150.heap w147 cOL nIP "Z" (.int (1 : Int32)) := F_w147_isPresent_147c.keep Kc150 nin0
  have F_w147_value_150 : Fld Z T150.heap w147 cOL "value" "J" (.long q2) := F_w147_value_147c.keep Kc150 nin0
  have K150 : Keep h0 T150.heap [] := K147.trans Kc150 all0
  have E_w150_150c : Exa Z T150.heap w150 cOL := P150_1
  have F_w150_isPresent_150c : Fld Z T150.heap w150 cOL nIP "Z" (.int (1 : Int32)) := P150_2
  have F_w150_value_150c : Fld Z T150.heap w150 cOL "value" "J" (.long q1) := P150_3
  refine gs T150 (mkF m 14 #[rv th, .unset, .unset] [(.ref w150), (.ref w147)]) st150 ?_
  have Zs151 : n0 ≤ T150.heap.size := Nat.le_trans Z0 K150.1
  obtain ⟨_, _, ⟨T152, L152, k152, n152⟩, -, X152, ⟨Lc152, hQ152, l152, y152, z152⟩, st152⟩ := LawKit.callS X150 hx (y := Y21) hown (mvT hZ (tw hw 144 rfl)) (mvT hZ (tw hw 145 rfl)) (mvT hZ (tw hw 146 rfl)) (mvT hZ (tw hw 147 rfl)) (by decide) (backOf (W := 0) (rm_offle l Z a0 hw [] w147 w150 q1 q2 em T150.heap n0 Zs151 (Old.keep O0 K150 hws) E_w147_150 F_w147_isPresent_150 F_w147_value_150 E_w150_150c F_w150_isPresent_150c F_w150_value_150c S_OptionalLong_EMPTY_old E_em_old F_em_isPresent_old F_em_value_old hle) hZ (tw hw 147 rfl) (tw hw 146 rfl) (by decide) (by decide)) (g := (mkF m 14 #[rv th, .unset, .unset] [(.ref w150), (.ref w147)])) rfl (by rw [hml]; rfl) (argsL := [(.ref w147), (.ref w150)]) (rest := []) (lenOf pd_11 rfl) rfl (wle rfl) (hb hby d24_14) (fun _ _ => ⟨rfl, rfl, (by decide : 2 + 1 ≤ _), (by decide : 4 + 2 ≤ _)⟩)
  dsimp only [Pt.U, Pt.locs, Pt.cells, Pt.slots] at X152 l152 y152 z152 st152 hQ152
  subst l152 y152 z152
  obtain ⟨w152, rfl, N152q, Kc152, P152_0, P152_1, P152_2, P152_3⟩ := hQ152
  have N152 := Fr.app N150 N152q
  have F_th_records_152 : Fld Z T152.heap th cPL "records" dOP (.ref op) := F_th_records_150.keep Kc152 nin0
  have E_op_152 : Exa Z T152.heap op cOP := E_op_150.keep Kc152
  have F_op_value_152 : Fld Z T152.heap op cOP "value" dOB (.ref rr) := F_op_value_150.keep Kc152 nin0
  have E_rr_152 : Exa Z T152.heap rr cRR := E_rr_150.keep Kc152
  have F_rr_onlyMarkersLeft_152 : Fld Z T152.heap rr cRR nOM "Z" (.int (0 : Int32)) := F_rr_onlyMarkersLeft_150.keep Kc152 nin0
  have K152 : Keep h0 T152.heap [] := K150.trans Kc152 all0
  have sz_w152 : h0.size ≤ w152 := Nat.le_trans K150.1 P152_0
  have E_w152_152c : Exa Z T152.heap w152 cOL := P152_1
  have F_w152_isPresent_152c : Fld Z T152.heap w152 cOL nIP "Z" (.int (1 : Int32)) := P152_2
  have F_w152_value_152c : Fld Z T152.heap w152 cOL "value" "J" (.long (q2 - q1)) := P152_3
  refine gs T152 (mkF m 17 #[rv th, .unset, .unset] [(.ref w152)]) st152 ?_
  refine gs T152 (mkF m 18 #[rv th, rv w152, .unset] []) (fun _ hr => XS.astoreN X152.here hx rfl (hb hby d24_17) rfl rfl (l' := #[rv th, rv w152, .unset]) rfl hr) ?_
  refine gs T152 (mkF m 19 #[rv th, rv w152, .unset] [(.ref w152)]) (fun _ hr => XS.aloadN X152.here hx rfl (hb hby d24_18) rfl rfl hr) ?_
  have Zs153 : n0 ≤ T152.heap.size := Nat.le_trans Z0 K152.1
  obtain ⟨cq154, kq154, q154a, q154b, q154c⟩ := isOf hZ rfl E_w152_152c
  obtain ⟨_, _, ⟨T154, L154, k154, n154⟩, -, X154, ⟨Lc154, hQ154, l154, y154, z154⟩, st154⟩ := X152.virtualBack hx (y := Y5) (z := Y5) hown (mvT hZ (tw hw 155 rfl)) (mvT hZ (tw hw 156 rfl)) (notFace_of_selects (args := #[]) (mvT hZ (tw hw 158 rfl))) (mvT hZ (tw hw 158 rfl)) (mvT hZ (tw hw 157 rfl)) (by decide) (backOf (W := 0) (rm_olp1 l Z a0 hw [] w152 T152.heap n0 Zs153 (Old.keep O0 K152 hws) F_w152_isPresent_152c) hZ (tw hw 159 rfl) (tw hw 3 rfl) (by decide) (by decide)) q154a q154c (g := (mkF m 19 #[rv th, rv w152, .unset] [(.ref w152)])) rfl (by rw [hml]; rfl) (Steps.refl _) (argsL := []) (rest := []) (lenOf pd_1 rfl) rfl (wle rfl) (hb hby d24_19) (fun _ _ => ⟨rfl, rfl, (by decide : 3 + 0 ≤ _), (by decide : 6 + 0 ≤ _)⟩)
  dsimp only [Pt.U, Pt.locs, Pt.cells, Pt.slots] at X154 l154 y154 z154 st154 hQ154
  subst l154 y154 z154
  obtain ⟨rfl, N154q, e154⟩ := hQ154
  have N154 := Fr.app N152 N154q
  refine gs T154 (mkF m 22 #[rv th, rv w152, .unset] [(.int (1 : Int32))]) (fun _ hr => st154.trans hr) ?_
  refine gs T154 (mkF m 25 #[rv th, rv w152, .unset] []) (fun _ hr => XS.ifNo X154.here hx rfl (hb hby d24_22) rfl ((if0 _ _).trans (feq (by decide : ¬ ((1 : Int32) = (0 : Int32)))).1) hr) ?_
  refine gs T154 (mkF m 26 #[rv th, rv w152, .unset] [(.ref th)]) (fun _ hr => XS.aloadN X154.here hx rfl (hb hby d24_25) rfl rfl hr) ?_
  obtain ⟨T155, X155, e155, st155⟩ := getF X154 hx hZ hown (host := "") (Or.inl (tw hw 41 rfl)) Via.refl e154 F_th_records_152 (g := (mkF m 26 #[rv th, rv w152, .unset] [(.ref th)])) rfl rfl (hb hby d24_26)
  refine gs T155 (mkF m 29 #[rv th, rv w152, .unset] [(.ref op)]) st155 ?_
  obtain ⟨f156, c156, Md156, Gz156, st156⟩ := own_siteConst X155 hx hZ (x := Y26) (pc := 29) (σ := sgP) Bd.named (tw hw 165 rfl) rfl (g := (mkF m 29 #[rv th, rv w152, .unset] [(.ref op)])) rfl rfl (by rw [hml]; rfl) (hb hby d24_29) (by show 2 * 0 + 1 + 3072 ≤ _; decide)
  refine gs T155 (mkF m 34 #[rv th, rv w152, .unset] [(.ref f156), (.ref op)]) st156 ?_
  have Zs157 : n0 ≤ T152.heap.size := Nat.le_trans Z0 K152.1
  obtain ⟨cq158, kq158, q158a, q158b, q158c⟩ := isOf hZ e155 E_op_152
  obtain ⟨_, _, ⟨T158, L158, k158, n158⟩, -, X158, ⟨Lc158, hQ158, l158, y158, z158⟩, st158⟩ := X155.virtualBack hx (y := Y25) (z := Y25) hown (mvT hZ (tw hw 167 rfl)) (mvT hZ (tw hw 168 rfl)) (notFace_of_selects (args := #[]) (mvT hZ (tw hw 170 rfl))) (mvT hZ (tw hw 170 rfl)) (mvT hZ (tw hw 169 rfl)) (by decide) (backOf (W := 0) (rm_filt0 l Z a0 hw [] op f156 rr eo c156 T152.heap n0 Zs157 (Old.keep O0 K152 hws) E_op_152 F_op_value_152 E_rr_152 F_rr_onlyMarkersLeft_152 (Gz156.ext (Old.keep O0 K152 hws).2) S_Optional_EMPTY_old E_eo_old F_eo_value_old Md156) hZ (tw hw 171 rfl) (tw hw 8 rfl) (by decide) (by decide)) q158a q158c (g := (mkF m 34 #[rv th, rv w152, .unset] [(.ref f156), (.ref op)])) rfl (by rw [hml]; rfl) (Steps.refl _) (argsL := [(.ref f156)]) (rest := []) (lenOf pd_12 rfl) rfl (wle rfl) (hb hby d24_34) (fun _ _ => ⟨rfl, e155, (by decide : 3 + 0 ≤ _), (by decide : 6 + 0 ≤ _)⟩)
  dsimp only [Pt.U, Pt.locs, Pt.cells, Pt.slots] at X158 l158 y158 z158 st158 hQ158
  subst l158 y158 z158
  obtain ⟨rfl, N158q, e158⟩ := hQ158
  have N158 := Fr.app N154 N158q
  refine gs T158 (mkF m 37 #[rv th, rv w152, .unset] [(.ref eo)]) (fun _ hr => st158.trans hr) ?_
  have Zs159 : n0 ≤ T152.heap.size := Nat.le_trans Z0 K152.1
  obtain ⟨cq160, kq160, q160a, q160b, q160c⟩ := isOf hZ e158 (E_eo_old.ext (Old.keep O0 K152 hws).2)
  obtain ⟨_, _, ⟨T160, L160, k160, n160⟩, -, X160, ⟨Lc160, hQ160, l160, y160, z160⟩, st160⟩ := X158.virtualBack hx (y := Y19) (z := Y19) hown (mvT hZ (tw hw 179 rfl)) (mvT hZ (tw hw 180 rfl)) (notFace_of_selects (args := #[]) (mvT hZ (tw hw 182 rfl))) (mvT hZ (tw hw 182 rfl)) (mvT hZ (tw hw 181 rfl)) (by decide) (backOf (W := 0) (rm_oisp0 l Z a0 hw [] eo T152.heap n0 Zs159 (Old.keep O0 K152 hws) (F_eo_value_old.ext (Old.keep O0 K152 hws).2)) hZ (tw hw 183 rfl) (tw hw 8 rfl) (by decide) (by decide)) q160a q160c (g := (mkF m 37 #[rv th, rv w152, .unset] [(.ref eo)])) rfl (by rw [hml]; rfl) (Steps.refl _) (argsL := []) (rest := []) (lenOf pd_1 rfl) rfl (wle rfl) (hb hby d24_37) (fun _ _ => ⟨rfl, e158, (by decide : 3 + 0 ≤ _), (by decide : 6 + 0 ≤ _)⟩)
  dsimp only [Pt.U, Pt.locs, Pt.cells, Pt.slots] at X160 l160 y160 z160 st160 hQ160
  subst l160 y160 z160
  obtain ⟨rfl, N160q, e160⟩ := hQ160
  have N160 := Fr.app N158 N160q
  refine gs T160 (mkF m 40 #[rv th, rv w152, .unset] [(.int (0 : Int32))]) (fun _ hr => st160.trans hr) ?_
  refine gs T160 (mkF m 51 #[rv th, rv w152, .unset] []) (fun _ hr => XS.ifYes X160.here hx rfl (pc0 := 40) (pc' := 51) rfl (hb hby d24_40) rfl ((if0 _ _).trans (teq (by decide : (0 : Int32) = (0 : Int32))).1) (by decide) (by decide) hr) ?_
  refine gs T160 (mkF m 52 #[rv th, rv w152, .unset] [(.ref w152)]) (fun _ hr => XS.aloadN X160.here hx rfl (hb hby d24_51) rfl rfl hr) ?_
  refine gs T160 (mkF m 53 #[rv th, rv w152, rv w152] []) (fun _ hr => XS.astoreN X160.here hx rfl (hb hby d24_52) rfl rfl (l' := #[rv th, rv w152, rv w152]) rfl hr) ?_
  refine gs T160 (mkF m 54 #[rv th, rv w152, rv w152] [(.ref w152)]) (fun _ hr => XS.aloadN X160.here hx rfl (hb hby d24_53) rfl rfl hr) ?_
  exact Goes.ret (v := some (.ref w152)) X160 (by decide) (by decide) (fun h => by rw [Bd.returns] at h; cases h) (by show Q_rm_lag0 Z th op rr em eo q1 q2 h0 n0 _ T160.heap _; rw [e160]; exact ⟨w152, rfl, N160, K152, sz_w152, E_w152_152c, F_w152_isPresent_152c, F_w152_value_152c⟩) (fun fs hr => retOut X160 hx Bd.returns rfl (Or.inr (Or.inr (Or.inr (Or.inr ⟨rfl, rfl, rfl⟩)))) (hb hby d24_54) hr)
theorem d25_0 : decode prog_13_method_6_code 0 = .ok (.aload_n 0, 1) := by decide +kernel
theorem d25_1 : decode prog_13_method_6_code 1 = .ok (.invokevirtual 82, 3) := by decide +kernel
theorem d25_4 : decode prog_13_method_6_code 4 = .ok (.astore_n 3, 1) := by decide +kernel
theorem d25_5 : decode prog_13_method_6_code 5 = .ok (.aload_n 3, 1) := by decide +kernel
theorem d25_6 : decode prog_13_method_6_code 6 = .ok (.invokevirtual 85, 3) := by decide +kernel
theorem d25_9 : decode prog_13_method_6_code 9 = .ok (.ifCond .eq 11, 3) := by decide +kernel
theorem d25_12 : decode prog_13_method_6_code 12 = .ok (.invokestatic 73, 3) := by decide +kernel
theorem d25_15 : decode prog_13_method_6_code 15 = .ok (.astore 4, 2) := by decide +kernel
theorem d25_17 : decode prog_13_method_6_code 17 = .ok (.goto 38, 3) := by decide +kernel
theorem d25_55 : decode prog_13_method_6_code 55 = .ok (.aload 4, 2) := by decide +kernel
theorem d25_57 : decode prog_13_method_6_code 57 = .ok (.areturn, 1) := by decide +kernel
def Q_rm_beh_gt (Z : State) (th : Addr) (rr : Addr) (em : Addr) (q1 : Int64) (q2 : Int64) (nw : Addr) (h0 : Heap) (n0 : Nat) (v : Option Value) (h : Heap) (L : List Loc) : Prop := v = some (.ref em) ∧ Fr n0 L ∧ Keep h0 h []
set_option maxRecDepth 65536 in
set_option maxHeartbeats 40000000 in
theorem rm_beh_gt (l : Launch) (Z : State) (a0 : Array Value) (hw : ∀ d ∈ tables_1, d.before a0 Z = true) (ws : List Jvm.Cond) (th : Addr) (rr : Addr) (em : Addr) (q1 : Int64) (q2 : Int64) (nw : Addr) (h0 : Heap) (n0 : Nat) (Z0 : n0 ≤ h0.size) (O0 : Old Z n0 h0) (E_th : Exa Z h0 th cPL) (F_th_offset : Fld Z h0 th cPL "offset" "J" (.long q1)) (F_th_end : Fld Z h0 th cPL "end" "J" (.long q2)) (S_OptionalLong_EMPTY_old : Sta Z Z.heap cOL "EMPTY" dOL (.ref em)) (E_em_old : Exa Z Z.heap em cOL) (F_em_isPresent_old : Fld Z Z.heap em cOL nIP "Z" (.int (0 : Int32))) (F_em_value_old : Fld Z Z.heap em cOL "value" "J" (.long (0 : Int64))) (hgt : (0 : Int32) < (XT.cmpL q1 q2)) :
    MetFree l Y27 (head1 (Cond.code Y27 prog_13_method_6_code 5 (some (.object cOL)) :: ws) r10) (fun a U => a = #[(.ref th), (.ref rr), (.ref nw)] ∧ Z.Warmed39 U.vm ∧ U.heap = h0) (fun _ _ _ _ _ => True) (fun _ U o U' => ∃ v L, o = .returned v ∧ Q_rm_beh_gt Z th rr em q1 q2 nw h0 n0 v U'.heap L ∧ FrameEnd U o U' L r10.cells r10.slots) := by
  refine MetFree.of_bodySF (plainFor_of_name pn_com_example_log_lag_gauge_loglaggauge_model_PositionLag) hisR ?_
  intro p e s m args below meth c s₁ Bd hml0 hP hK
  obtain ⟨rfl, hZ, hh⟩ := hP
  have hx := Bd.exec
  have hby := Bd.bytes
  have hml : c.maxLocals = 5 := hml0
  have hown : s.vm.findClass cPL = some m.cls := findClass_of_methodNamed Bd.named
  have hnm := (name_of_methodNamed Bd.named Bd.method).1
  have X0 : Stand p l e r10 s m #[(.ref th), (.ref rr), (.ref nw)] below meth c s₁ [] 0 0 := Stand.of_body Bd
  have e0 : s₁.heap = h0 := by rw [← hh, Bd.state]; rfl
  have N0 := Fr.nil n0
  refine Goes.out (l := l) (c := c) (R := r10) (Q := Q_rm_beh_gt Z th rr em q1 q2 nw h0 n0) Bd.notSynchronized ?_
  refine Goes.cast (g2 := mkF m 0 #[rv th, rv rr, rv nw, .unset, .unset] []) (by first | (simp [entryFrame, mkF, argsToLocals, Value.category]; done) | rfl) ?_
  have K0 : Keep h0 h0 [] := Keep.refl h0 _
  have hws : ∀ x ∈ ([] : List Addr), n0 ≤ x := all0
  refine gs s₁ (mkF m 1 #[rv th, rv rr, rv nw, .unset, .unset] [(.ref th)]) (fun _ hr => XS.aloadN X0.here hx rfl (hb hby d25_0) rfl rfl hr) ?_
  have Zs161 : n0 ≤ h0.size := Nat.le_trans Z0 K0.1
  obtain ⟨cq162, kq162, q162a, q162b, q162c⟩ := isOf hZ e0 E_th
  obtain ⟨_, _, ⟨T162, L162, k162, n162⟩, -, X162, ⟨Lc162, hQ162, l162, y162, z162⟩, st162⟩ := X0.virtualBack hx (y := Y26) (z := Y26) hown (mvT hZ (tw hw 138 rfl)) (mvT hZ (tw hw 139 rfl)) (notFace_of_selects (args := #[]) (mvT hZ (tw hw 141 rfl))) (mvT hZ (tw hw 141 rfl)) (mvT hZ (tw hw 140 rfl)) (by decide) (backOf (W := 0) (rm_laggt l Z a0 hw [] th em q1 q2 h0 n0 Zs161 (Old.keep O0 K0 hws) E_th F_th_offset F_th_end S_OptionalLong_EMPTY_old E_em_old F_em_isPresent_old F_em_value_old hgt) hZ (tw hw 142 rfl) (tw hw 13 rfl) (by decide) (by decide)) q162a q162c (g := (mkF m 1 #[rv th, rv rr, rv nw, .unset, .unset] [(.ref th)])) rfl (by rw [hml]; rfl) (Steps.refl _) (argsL := []) (rest := []) (lenOf pd_6 rfl) rfl (wle rfl) (hb hby d25_1) (fun _ _ => ⟨rfl, e0, (by decide : 0 + 2 ≤ _), (by decide : 0 + 4 ≤ _)⟩)
  dsimp only [Pt.U, Pt.locs, Pt.cells, Pt.slots] at X162 l162 y162 z162 st162 hQ162
  subst l162 y162 z162
  obtain ⟨rfl, N162q, Kc162⟩ := hQ162
  have N162 := Fr.app N0 N162q
  have K162 : Keep h0 T162.heap [] := K0.trans Kc162 all0
  refine gs T162 (mkF m 4 #[rv th, rv rr, rv nw, .unset, .unset] [(.ref em)]) (fun _ hr => st162.trans hr) ?_
  refine gs T162 (mkF m 5 #[rv th, rv rr, rv nw, rv em, .unset] []) (fun _ hr => XS.astoreN X162.here hx rfl (hb hby d25_4) rfl rfl (l' := #[rv th, rv rr, rv nw, rv em, .unset]) rfl hr) ?_
  refine gs T162 (mkF m 6 #[rv th, rv rr, rv nw, rv em, .unset] [(.ref em)]) (fun _ hr => XS.aloadN X162.here hx rfl (hb hby d25_5) rfl rfl hr) ?_
  have Zs163 : n0 ≤ T162.heap.size := Nat.le_trans Z0 K162.1
  obtain ⟨cq164, kq164, q164a, q164b, q164c⟩ := isOf hZ rfl (E_em_old.ext (Old.keep O0 K162 hws).2)
  obtain ⟨_, _, ⟨T164, L164, k164, n164⟩, -, X164, ⟨Lc164, hQ164, l164, y164, z164⟩, st164⟩ := X162.virtualBack hx (y := Y6) (z := Y6) hown (mvT hZ (tw hw 160 rfl)) (mvT hZ (tw hw 77 rfl)) (notFace_of_selects (args := #[]) (mvT hZ (tw hw 79 rfl))) (mvT hZ (tw hw 79 rfl)) (mvT hZ (tw hw 78 rfl)) (by decide) (backOf (W := 0) (rm_ole0 l Z a0 hw [] em T162.heap n0 Zs163 (Old.keep O0 K162 hws) (F_em_isPresent_old.ext (Old.keep O0 K162 hws).2)) hZ (tw hw 80 rfl) (tw hw 3 rfl) (by decide) (by decide)) q164a q164c (g := (mkF m 6 #[rv th, rv rr, rv nw, rv em, .unset] [(.ref em)])) rfl (by rw [hml]; rfl) (Steps.refl _) (argsL := []) (rest := []) (lenOf pd_1 rfl) rfl (wle rfl) (hb hby d25_6) (fun _ _ => ⟨rfl, rfl, (by decide : 2 + 0 ≤ _), (by decide : 4 + 0 ≤ _)⟩)
  dsimp only [Pt.U, Pt.locs, Pt.cells, Pt.slots] at X164 l164 y164 z164 st164 hQ164
  subst l164 y164 z164
  obtain ⟨rfl, N164q, e164⟩ := hQ164
  have N164 := Fr.app N162 N164q
  refine gs T164 (mkF m 9 #[rv th, rv rr, rv nw, rv em, .unset] [(.int (1 : Int32))]) (fun _ hr => st164.trans hr) ?_
  refine gs T164 (mkF m 12 #[rv th, rv rr, rv nw, rv em, .unset] []) (fun _ hr => XS.ifNo X164.here hx rfl (hb hby d25_9) rfl ((if0 _ _).trans (feq (by decide : ¬ ((1 : Int32) = (0 : Int32)))).1) hr) ?_
  have Zs165 : n0 ≤ T162.heap.size := Nat.le_trans Z0 K162.1
  obtain ⟨_, _, ⟨T166, L166, k166, n166⟩, -, X166, ⟨Lc166, hQ166, l166, y166, z166⟩, st166⟩ := LawKit.callS X164 hx (y := Y4) hown (mvT hZ (tw hw 68 rfl)) (mvT hZ (tw hw 2 rfl)) (mvT hZ (tw hw 3 rfl)) (mvT hZ (tw hw 4 rfl)) (by decide) (backOf (W := 0) (rm_olem l Z a0 hw [] em T162.heap n0 Zs165 (Old.keep O0 K162 hws) S_OptionalLong_EMPTY_old) hZ (tw hw 4 rfl) (tw hw 3 rfl) (by decide) (by decide)) (g := (mkF m 12 #[rv th, rv rr, rv nw, rv em, .unset] [])) rfl (by rw [hml]; rfl) (argsL := []) (rest := []) (lenOf pd_6 rfl) rfl (wle rfl) (hb hby d25_12) (fun _ _ => ⟨rfl, e164, (by decide : 2 + 0 ≤ _), (by decide : 4 + 0 ≤ _)⟩)
  dsimp only [Pt.U, Pt.locs, Pt.cells, Pt.slots] at X166 l166 y166 z166 st166 hQ166
  subst l166 y166 z166
  obtain ⟨rfl, N166q, e166⟩ := hQ166
  have N166 := Fr.app N164 N166q
  refine gs T166 (mkF m 15 #[rv th, rv rr, rv nw, rv em, .unset] [(.ref em)]) st166 ?_
  refine gs T166 (mkF m 17 #[rv th, rv rr, rv nw, rv em, rv em] []) (fun _ hr => XS.astore X166.here hx rfl (hb hby d25_15) rfl rfl (l' := #[rv th, rv rr, rv nw, rv em, rv em]) rfl hr) ?_
  refine gs T166 (mkF m 55 #[rv th, rv rr, rv nw, rv em, rv em] []) (fun _ hr => XS.goto X166.here hx rfl (pc0 := 17) (pc' := 55) rfl (hb hby d25_17) (by decide) (by decide) hr) ?_
  refine gs T166 (mkF m 57 #[rv th, rv rr, rv nw, rv em, rv em] [(.ref em)]) (fun _ hr => XS.aload X166.here hx rfl (hb hby d25_55) rfl rfl hr) ?_
  exact Goes.ret (v := some (.ref em)) X166 (by decide) (by decide) (fun h => by rw [Bd.returns] at h; cases h) (by show Q_rm_beh_gt Z th rr em q1 q2 nw h0 n0 _ T166.heap _; rw [e166]; exact ⟨rfl, N166, K162⟩) (fun fs hr => retOut X166 hx Bd.returns rfl (Or.inr (Or.inr (Or.inr (Or.inr ⟨rfl, rfl, rfl⟩)))) (hb hby d25_57) hr)
theorem d25_20 : decode prog_13_method_6_code 20 = .ok (.aload_n 3, 1) := by decide +kernel
theorem d25_21 : decode prog_13_method_6_code 21 = .ok (.invokevirtual 88, 3) := by decide +kernel
theorem d25_24 : decode prog_13_method_6_code 24 = .ok (.lconst 0, 1) := by decide +kernel
theorem d25_25 : decode prog_13_method_6_code 25 = .ok (.lcmp, 1) := by decide +kernel
theorem d25_26 : decode prog_13_method_6_code 26 = .ok (.ifCond .le 23, 3) := by decide +kernel
theorem d25_49 : decode prog_13_method_6_code 49 = .ok (.lconst 0, 1) := by decide +kernel
theorem d25_50 : decode prog_13_method_6_code 50 = .ok (.invokestatic 41, 3) := by decide +kernel
theorem d25_53 : decode prog_13_method_6_code 53 = .ok (.astore 4, 2) := by decide +kernel
def Q_rm_beh_z1 (Z : State) (th : Addr) (rr : Addr) (em : Addr) (q1 : Int64) (q2 : Int64) (op : Addr) (eo : Addr) (nw : Addr) (h0 : Heap) (n0 : Nat) (v : Option Value) (h : Heap) (L : List Loc) : Prop := ∃ w : Addr, v = some (.ref w) ∧ Fr n0 L ∧ Keep h0 h [] ∧ h0.size ≤ w ∧ Exa Z h w cOL ∧ Fld Z h w cOL nIP "Z" (.int (1 : Int32)) ∧ Fld Z h w cOL "value" "J" (.long (0 : Int64))
set_option maxRecDepth 65536 in
set_option maxHeartbeats 40000000 in
theorem rm_beh_z1 (l : Launch) (Z : State) (a0 : Array Value) (hw : ∀ d ∈ tables_1, d.before a0 Z = true) (ws : List Jvm.Cond) (th : Addr) (rr : Addr) (em : Addr) (q1 : Int64) (q2 : Int64) (op : Addr) (eo : Addr) (nw : Addr) (h0 : Heap) (n0 : Nat) (Z0 : n0 ≤ h0.size) (O0 : Old Z n0 h0) (E_th : Exa Z h0 th cPL) (F_th_offset : Fld Z h0 th cPL "offset" "J" (.long q1)) (F_th_end : Fld Z h0 th cPL "end" "J" (.long q2)) (F_th_records : Fld Z h0 th cPL "records" dOP (.ref op)) (E_op : Exa Z h0 op cOP) (F_op_value : Fld Z h0 op cOP "value" dOB (.ref rr)) (E_rr : Exa Z h0 rr cRR) (F_rr_onlyMarkersLeft : Fld Z h0 rr cRR nOM "Z" (.int (1 : Int32))) (S_OptionalLong_EMPTY_old : Sta Z Z.heap cOL "EMPTY" dOL (.ref em)) (E_em_old : Exa Z Z.heap em cOL) (F_em_isPresent_old : Fld Z Z.heap em cOL nIP "Z" (.int (0 : Int32))) (F_em_value_old : Fld Z Z.heap em cOL "value" "J" (.long (0 : Int64))) (S_Optional_EMPTY_old : Sta Z Z.heap cOP "EMPTY" dOP (.ref eo)) (E_eo_old : Exa Z Z.heap eo cOP) (F_eo_value_old : Fld Z Z.heap eo cOP "value" dOB .null) (hle : ¬ ((0 : Int32) < (XT.cmpL q1 q2))) :
    MetFree l Y27 (head1 (Cond.code Y27 prog_13_method_6_code 5 (some (.object cOL)) :: ws) r11) (fun a U => a = #[(.ref th), (.ref rr), (.ref nw)] ∧ Z.Warmed39 U.vm ∧ U.heap = h0) (fun _ _ _ _ _ => True) (fun _ U o U' => ∃ v L, o = .returned v ∧ Q_rm_beh_z1 Z th rr em q1 q2 op eo nw h0 n0 v U'.heap L ∧ FrameEnd U o U' L r11.cells r11.slots) := by
  refine MetFree.of_bodySF (plainFor_of_name pn_com_example_log_lag_gauge_loglaggauge_model_PositionLag) hisR ?_
  intro p e s m args below meth c s₁ Bd hml0 hP hK
  obtain ⟨rfl, hZ, hh⟩ := hP
  have hx := Bd.exec
  have hby := Bd.bytes
  have hml : c.maxLocals = 5 := hml0
  have hown : s.vm.findClass cPL = some m.cls := findClass_of_methodNamed Bd.named
  have hnm := (name_of_methodNamed Bd.named Bd.method).1
  have X0 : Stand p l e r11 s m #[(.ref th), (.ref rr), (.ref nw)] below meth c s₁ [] 0 0 := Stand.of_body Bd
  have e0 : s₁.heap = h0 := by rw [← hh, Bd.state]; rfl
  have N0 := Fr.nil n0
  refine Goes.out (l := l) (c := c) (R := r11) (Q := Q_rm_beh_z1 Z th rr em q1 q2 op eo nw h0 n0) Bd.notSynchronized ?_
  refine Goes.cast (g2 := mkF m 0 #[rv th, rv rr, rv nw, .unset, .unset] []) (by first | (simp [entryFrame, mkF, argsToLocals, Value.category]; done) | rfl) ?_
  have K0 : Keep h0 h0 [] := Keep.refl h0 _
  have hws : ∀ x ∈ ([] : List Addr), n0 ≤ x := all0
  refine gs s₁ (mkF m 1 #[rv th, rv rr, rv nw, .unset, .unset] [(.ref th)]) (fun _ hr => XS.aloadN X0.here hx rfl (hb hby d25_0) rfl rfl hr) ?_
  have Zs167 : n0 ≤ h0.size := Nat.le_trans Z0 K0.1
  obtain ⟨cq168, kq168, q168a, q168b, q168c⟩ := isOf hZ e0 E_th
  obtain ⟨_, _, ⟨T168, L168, k168, n168⟩, -, X168, ⟨Lc168, hQ168, l168, y168, z168⟩, st168⟩ := X0.virtualBack hx (y := Y26) (z := Y26) hown (mvT hZ (tw hw 138 rfl)) (mvT hZ (tw hw 139 rfl)) (notFace_of_selects (args := #[]) (mvT hZ (tw hw 141 rfl))) (mvT hZ (tw hw 141 rfl)) (mvT hZ (tw hw 140 rfl)) (by decide) (backOf (W := 0) (rm_lag1 l Z a0 hw [] th op rr em eo q1 q2 h0 n0 Zs167 (Old.keep O0 K0 hws) E_th F_th_offset F_th_end F_th_records E_op F_op_value E_rr F_rr_onlyMarkersLeft S_OptionalLong_EMPTY_old E_em_old F_em_isPresent_old F_em_value_old S_Optional_EMPTY_old E_eo_old F_eo_value_old hle) hZ (tw hw 142 rfl) (tw hw 13 rfl) (by decide) (by decide)) q168a q168c (g := (mkF m 1 #[rv th, rv rr, rv nw, .unset, .unset] [(.ref th)])) rfl (by rw [hml]; rfl) (Steps.refl _) (argsL := []) (rest := []) (lenOf pd_6 rfl) rfl (wle rfl) (hb hby d25_1) (fun _ _ => ⟨rfl, e0, (by decide : 0 + 4 ≤ _), (by decide : 0 + 8 ≤ _)⟩)
  dsimp only [Pt.U, Pt.locs, Pt.cells, Pt.slots] at X168 l168 y168 z168 st168 hQ168
  subst l168 y168 z168
  obtain ⟨w168, rfl, N168q, Kc168, P168_0, P168_1, P168_2, P168_3⟩ := hQ168
  have N168 := Fr.app N0 N168q
  have K168 : Keep h0 T168.heap [] := K0.trans Kc168 all0
  have E_w168_168c : Exa Z T168.heap w168 cOL := P168_1
  have F_w168_isPresent_168c : Fld Z T168.heap w168 cOL nIP "Z" (.int (1 : Int32)) := P168_2
  have F_w168_value_168c : Fld Z T168.heap w168 cOL "value" "J" (.long (0 : Int64)) := P168_3
  refine gs T168 (mkF m 4 #[rv th, rv rr, rv nw, .unset, .unset] [(.ref w168)]) (fun _ hr => st168.trans hr) ?_
  refine gs T168 (mkF m 5 #[rv th, rv rr, rv nw, rv w168, .unset] []) (fun _ hr => XS.astoreN X168.here hx rfl (hb hby d25_4) rfl rfl (l' := #[rv th, rv rr, rv nw, rv w168, .unset]) rfl hr) ?_
  refine gs T168 (mkF m 6 #[rv th, rv rr, rv nw, rv w168, .unset] [(.ref w168)]) (fun _ hr => XS.aloadN X168.here hx rfl (hb hby d25_5) rfl rfl hr) ?_
  have Zs169 : n0 ≤ T168.heap.size := Nat.le_trans Z0 K168.1
  obtain ⟨cq170, kq170, q170a, q170b, q170c⟩ := isOf hZ rfl E_w168_168c
  obtain ⟨_, _, ⟨T170, L170, k170, n170⟩, -, X170, ⟨Lc170, hQ170, l170, y170, z170⟩, st170⟩ := X168.virtualBack hx (y := Y6) (z := Y6) hown (mvT hZ (tw hw 160 rfl)) (mvT hZ (tw hw 77 rfl)) (notFace_of_selects (args := #[]) (mvT hZ (tw hw 79 rfl))) (mvT hZ (tw hw 79 rfl)) (mvT hZ (tw hw 78 rfl)) (by decide) (backOf (W := 0) (rm_ole1 l Z a0 hw [] w168 T168.heap n0 Zs169 (Old.keep O0 K168 hws) F_w168_isPresent_168c) hZ (tw hw 80 rfl) (tw hw 3 rfl) (by decide) (by decide)) q170a q170c (g := (mkF m 6 #[rv th, rv rr, rv nw, rv w168, .unset] [(.ref w168)])) rfl (by rw [hml]; rfl) (Steps.refl _) (argsL := []) (rest := []) (lenOf pd_1 rfl) rfl (wle rfl) (hb hby d25_6) (fun _ _ => ⟨rfl, rfl, (by decide : 4 + 0 ≤ _), (by decide : 8 + 0 ≤ _)⟩)
  dsimp only [Pt.U, Pt.locs, Pt.cells, Pt.slots] at X170 l170 y170 z170 st170 hQ170
  subst l170 y170 z170
  obtain ⟨rfl, N170q, e170⟩ := hQ170
  have N170 := Fr.app N168 N170q
  refine gs T170 (mkF m 9 #[rv th, rv rr, rv nw, rv w168, .unset] [(.int (0 : Int32))]) (fun _ hr => st170.trans hr) ?_
  refine gs T170 (mkF m 20 #[rv th, rv rr, rv nw, rv w168, .unset] []) (fun _ hr => XS.ifYes X170.here hx rfl (pc0 := 9) (pc' := 20) rfl (hb hby d25_9) rfl ((if0 _ _).trans (teq (by decide : (0 : Int32) = (0 : Int32))).1) (by decide) (by decide) hr) ?_
  refine gs T170 (mkF m 21 #[rv th, rv rr, rv nw, rv w168, .unset] [(.ref w168)]) (fun _ hr => XS.aloadN X170.here hx rfl (hb hby d25_20) rfl rfl hr) ?_
  have Zs171 : n0 ≤ T168.heap.size := Nat.le_trans Z0 K168.1
  obtain ⟨cq172, kq172, q172a, q172b, q172c⟩ := isOf hZ e170 E_w168_168c
  obtain ⟨_, _, ⟨T172, L172, k172, n172⟩, -, X172, ⟨Lc172, hQ172, l172, y172, z172⟩, st172⟩ := X170.virtualBack hx (y := Y7) (z := Y7) hown (mvT hZ (tw hw 184 rfl)) (mvT hZ (tw hw 150 rfl)) (notFace_of_selects (args := #[]) (mvT hZ (tw hw 152 rfl))) (mvT hZ (tw hw 152 rfl)) (mvT hZ (tw hw 151 rfl)) (by decide) (backOf (W := 0) (rm_olg l Z a0 hw [] w168 (0 : Int64) T168.heap n0 Zs171 (Old.keep O0 K168 hws) F_w168_isPresent_168c F_w168_value_168c) hZ (tw hw 153 rfl) (tw hw 3 rfl) (by decide) (by decide)) q172a q172c (g := (mkF m 21 #[rv th, rv rr, rv nw, rv w168, .unset] [(.ref w168)])) rfl (by rw [hml]; rfl) (Steps.refl _) (argsL := []) (rest := []) (lenOf pd_5 rfl) rfl (wle rfl) (hb hby d25_21) (fun _ _ => ⟨rfl, e170, (by decide : 4 + 0 ≤ _), (by decide : 8 + 0 ≤ _)⟩)
  dsimp only [Pt.U, Pt.locs, Pt.cells, Pt.slots] at X172 l172 y172 z172 st172 hQ172
  subst l172 y172 z172
  obtain ⟨rfl, N172q, e172⟩ := hQ172
  have N172 := Fr.app N170 N172q
  refine gs T172 (mkF m 24 #[rv th, rv rr, rv nw, rv w168, .unset] [(.long (0 : Int64))]) (fun _ hr => st172.trans hr) ?_
  refine gs T172 (mkF m 25 #[rv th, rv rr, rv nw, rv w168, .unset] [(.long (0 : Int64)), (.long (0 : Int64))]) (fun _ hr => XT.lconst X172.here hx rfl (hb hby d25_24) hr) ?_
  refine gs T172 (mkF m 26 #[rv th, rv rr, rv nw, rv w168, .unset] [(.int (XT.cmpL (0 : Int64) (0 : Int64)))]) (fun _ hr => XT.lcmp X172.here hx rfl (hb hby d25_25) rfl hr) ?_
  rw [cmpL_self]
  refine gs T172 (mkF m 49 #[rv th, rv rr, rv nw, rv w168, .unset] []) (fun _ hr => XS.ifYes X172.here hx rfl (pc0 := 26) (pc' := 49) rfl (hb hby d25_26) rfl ((if0 _ _).trans (flt (by decide : ¬ ((0 : Int32) < (0 : Int32)))).2.2.2) (by decide) (by decide) hr) ?_
  refine gs T172 (mkF m 50 #[rv th, rv rr, rv nw, rv w168, .unset] [(.long (0 : Int64))]) (fun _ hr => XT.lconst X172.here hx rfl (hb hby d25_49) hr) ?_
  have Zs173 : n0 ≤ T168.heap.size := Nat.le_trans Z0 K168.1
  obtain ⟨_, _, ⟨T174, L174, k174, n174⟩, -, X174, ⟨Lc174, hQ174, l174, y174, z174⟩, st174⟩ := LawKit.callS X172 hx (y := Y3) hown (mvT hZ (tw hw 143 rfl)) (mvT hZ (tw hw 84 rfl)) (mvT hZ (tw hw 3 rfl)) (mvT hZ (tw hw 85 rfl)) (by decide) (backOf (W := 0) (rm_olof l Z a0 hw [] (0 : Int64) T168.heap n0 Zs173 (Old.keep O0 K168 hws)) hZ (tw hw 85 rfl) (tw hw 3 rfl) (by decide) (by decide)) (g := (mkF m 50 #[rv th, rv rr, rv nw, rv w168, .unset] [(.long (0 : Int64))])) rfl (by rw [hml]; rfl) (argsL := [(.long (0 : Int64))]) (rest := []) (lenOf pd_7 rfl) rfl (wle rfl) (hb hby d25_50) (fun _ _ => ⟨rfl, e172, (by decide : 4 + 1 ≤ _), (by decide : 8 + 2 ≤ _)⟩)
  dsimp only [Pt.U, Pt.locs, Pt.cells, Pt.slots] at X174 l174 y174 z174 st174 hQ174
  subst l174 y174 z174
  obtain ⟨w174, rfl, N174q, Kc174, P174_0, P174_1, P174_2, P174_3⟩ := hQ174
  have N174 := Fr.app N172 N174q
  have K174 : Keep h0 T174.heap [] := K168.trans Kc174 all0
  have sz_w174 : h0.size ≤ w174 := Nat.le_trans K168.1 P174_0
  have E_w174_174c : Exa Z T174.heap w174 cOL := P174_1
  have F_w174_isPresent_174c : Fld Z T174.heap w174 cOL nIP "Z" (.int (1 : Int32)) := P174_2
  have F_w174_value_174c : Fld Z T174.heap w174 cOL "value" "J" (.long (0 : Int64)) := P174_3
  refine gs T174 (mkF m 53 #[rv th, rv rr, rv nw, rv w168, .unset] [(.ref w174)]) st174 ?_
  refine gs T174 (mkF m 55 #[rv th, rv rr, rv nw, rv w168, rv w174] []) (fun _ hr => XS.astore X174.here hx rfl (hb hby d25_53) rfl rfl (l' := #[rv th, rv rr, rv nw, rv w168, rv w174]) rfl hr) ?_
  refine gs T174 (mkF m 57 #[rv th, rv rr, rv nw, rv w168, rv w174] [(.ref w174)]) (fun _ hr => XS.aload X174.here hx rfl (hb hby d25_55) rfl rfl hr) ?_
  exact Goes.ret (v := some (.ref w174)) X174 (by decide) (by decide) (fun h => by rw [Bd.returns] at h; cases h) (by show Q_rm_beh_z1 Z th rr em q1 q2 op eo nw h0 n0 _ T174.heap _; exact ⟨w174, rfl, N174, K174, sz_w174, E_w174_174c, F_w174_isPresent_174c, F_w174_value_174c⟩) (fun fs hr => retOut X174 hx Bd.returns rfl (Or.inr (Or.inr (Or.inr (Or.inr ⟨rfl, rfl, rfl⟩)))) (hb hby d25_57) hr)
def Q_rm_beh_z0 (Z : State) (th : Addr) (rr : Addr) (em : Addr) (q1 : Int64) (q2 : Int64) (op : Addr) (eo : Addr) (nw : Addr) (h0 : Heap) (n0 : Nat) (v : Option Value) (h : Heap) (L : List Loc) : Prop := ∃ w : Addr, v = some (.ref w) ∧ Fr n0 L ∧ Keep h0 h [] ∧ h0.size ≤ w ∧ Exa Z h w cOL ∧ Fld Z h w cOL nIP "Z" (.int (1 : Int32)) ∧ Fld Z h w cOL "value" "J" (.long (0 : Int64))
set_option maxRecDepth 65536 in
set_option maxHeartbeats 40000000 in
theorem rm_beh_z0 (l : Launch) (Z : State) (a0 : Array Value) (hw : ∀ d ∈ tables_1, d.before a0 Z = true) (ws : List Jvm.Cond) (th : Addr) (rr : Addr) (em : Addr) (q1 : Int64) (q2 : Int64) (op : Addr) (eo : Addr) (nw : Addr) (h0 : Heap) (n0 : Nat) (Z0 : n0 ≤ h0.size) (O0 : Old Z n0 h0) (E_th : Exa Z h0 th cPL) (F_th_offset : Fld Z h0 th cPL "offset" "J" (.long q1)) (F_th_end : Fld Z h0 th cPL "end" "J" (.long q2)) (F_th_records : Fld Z h0 th cPL "records" dOP (.ref op)) (E_op : Exa Z h0 op cOP) (F_op_value : Fld Z h0 op cOP "value" dOB (.ref rr)) (E_rr : Exa Z h0 rr cRR) (F_rr_onlyMarkersLeft : Fld Z h0 rr cRR nOM "Z" (.int (0 : Int32))) (S_OptionalLong_EMPTY_old : Sta Z Z.heap cOL "EMPTY" dOL (.ref em)) (E_em_old : Exa Z Z.heap em cOL) (F_em_isPresent_old : Fld Z Z.heap em cOL nIP "Z" (.int (0 : Int32))) (F_em_value_old : Fld Z Z.heap em cOL "value" "J" (.long (0 : Int64))) (S_Optional_EMPTY_old : Sta Z Z.heap cOP "EMPTY" dOP (.ref eo)) (E_eo_old : Exa Z Z.heap eo cOP) (F_eo_value_old : Fld Z Z.heap eo cOP "value" dOB .null) (hle : ¬ ((0 : Int32) < (XT.cmpL q1 q2))) (hzz : ¬ ((0 : Int32) < (XT.cmpL (q2 - q1) (0 : Int64)))) :
    MetFree l Y27 (head1 (Cond.code Y27 prog_13_method_6_code 5 (some (.object cOL)) :: ws) r12) (fun a U => a = #[(.ref th), (.ref rr), (.ref nw)] ∧ Z.Warmed39 U.vm ∧ U.heap = h0) (fun _ _ _ _ _ => True) (fun _ U o U' => ∃ v L, o = .returned v ∧ Q_rm_beh_z0 Z th rr em q1 q2 op eo nw h0 n0 v U'.heap L ∧ FrameEnd U o U' L r12.cells r12.slots) := by
  refine MetFree.of_bodySF (plainFor_of_name pn_com_example_log_lag_gauge_loglaggauge_model_PositionLag) hisR ?_
  intro p e s m args below meth c s₁ Bd hml0 hP hK
  obtain ⟨rfl, hZ, hh⟩ := hP
  have hx := Bd.exec
  have hby := Bd.bytes
  have hml : c.maxLocals = 5 := hml0
  have hown : s.vm.findClass cPL = some m.cls := findClass_of_methodNamed Bd.named
  have hnm := (name_of_methodNamed Bd.named Bd.method).1
  have X0 : Stand p l e r12 s m #[(.ref th), (.ref rr), (.ref nw)] below meth c s₁ [] 0 0 := Stand.of_body Bd
  have e0 : s₁.heap = h0 := by rw [← hh, Bd.state]; rfl
  have N0 := Fr.nil n0
  refine Goes.out (l := l) (c := c) (R := r12) (Q := Q_rm_beh_z0 Z th rr em q1 q2 op eo nw h0 n0) Bd.notSynchronized ?_
  refine Goes.cast (g2 := mkF m 0 #[rv th, rv rr, rv nw, .unset, .unset] []) (by first | (simp [entryFrame, mkF, argsToLocals, Value.category]; done) | rfl) ?_
  have K0 : Keep h0 h0 [] := Keep.refl h0 _
  have hws : ∀ x ∈ ([] : List Addr), n0 ≤ x := all0
  refine gs s₁ (mkF m 1 #[rv th, rv rr, rv nw, .unset, .unset] [(.ref th)]) (fun _ hr => XS.aloadN X0.here hx rfl (hb hby d25_0) rfl rfl hr) ?_
  have Zs175 : n0 ≤ h0.size := Nat.le_trans Z0 K0.1
  obtain ⟨cq176, kq176, q176a, q176b, q176c⟩ := isOf hZ e0 E_th
  obtain ⟨_, _, ⟨T176, L176, k176, n176⟩, -, X176, ⟨Lc176, hQ176, l176, y176, z176⟩, st176⟩ := X0.virtualBack hx (y := Y26) (z := Y26) hown (mvT hZ (tw hw 138 rfl)) (mvT hZ (tw hw 139 rfl)) (notFace_of_selects (args := #[]) (mvT hZ (tw hw 141 rfl))) (mvT hZ (tw hw 141 rfl)) (mvT hZ (tw hw 140 rfl)) (by decide) (backOf (W := 0) (rm_lag0 l Z a0 hw [] th op rr em eo q1 q2 h0 n0 Zs175 (Old.keep O0 K0 hws) E_th F_th_offset F_th_end F_th_records E_op F_op_value E_rr F_rr_onlyMarkersLeft S_OptionalLong_EMPTY_old E_em_old F_em_isPresent_old F_em_value_old S_Optional_EMPTY_old E_eo_old F_eo_value_old hle) hZ (tw hw 142 rfl) (tw hw 13 rfl) (by decide) (by decide)) q176a q176c (g := (mkF m 1 #[rv th, rv rr, rv nw, .unset, .unset] [(.ref th)])) rfl (by rw [hml]; rfl) (Steps.refl _) (argsL := []) (rest := []) (lenOf pd_6 rfl) rfl (wle rfl) (hb hby d25_1) (fun _ _ => ⟨rfl, e0, (by decide : 0 + 3 ≤ _), (by decide : 0 + 6 ≤ _)⟩)
  dsimp only [Pt.U, Pt.locs, Pt.cells, Pt.slots] at X176 l176 y176 z176 st176 hQ176
  subst l176 y176 z176
  obtain ⟨w176, rfl, N176q, Kc176, P176_0, P176_1, P176_2, P176_3⟩ := hQ176
  have N176 := Fr.app N0 N176q
  have K176 : Keep h0 T176.heap [] := K0.trans Kc176 all0
  have E_w176_176c : Exa Z T176.heap w176 cOL := P176_1
  have F_w176_isPresent_176c : Fld Z T176.heap w176 cOL nIP "Z" (.int (1 : Int32)) := P176_2
  have F_w176_value_176c : Fld Z T176.heap w176 cOL "value" "J" (.long (q2 - q1)) := P176_3
  refine gs T176 (mkF m 4 #[rv th, rv rr, rv nw, .unset, .unset] [(.ref w176)]) (fun _ hr => st176.trans hr) ?_
  refine gs T176 (mkF m 5 #[rv th, rv rr, rv nw, rv w176, .unset] []) (fun _ hr => XS.astoreN X176.here hx rfl (hb hby d25_4) rfl rfl (l' := #[rv th, rv rr, rv nw, rv w176, .unset]) rfl hr) ?_
  refine gs T176 (mkF m 6 #[rv th, rv rr, rv nw, rv w176, .unset] [(.ref w176)]) (fun _ hr => XS.aloadN X176.here hx rfl (hb hby d25_5) rfl rfl hr) ?_
  have Zs177 : n0 ≤ T176.heap.size := Nat.le_trans Z0 K176.1
  obtain ⟨cq178, kq178, q178a, q178b, q178c⟩ := isOf hZ rfl E_w176_176c
  obtain ⟨_, _, ⟨T178, L178, k178, n178⟩, -, X178, ⟨Lc178, hQ178, l178, y178, z178⟩, st178⟩ := X176.virtualBack hx (y := Y6) (z := Y6) hown (mvT hZ (tw hw 160 rfl)) (mvT hZ (tw hw 77 rfl)) (notFace_of_selects (args := #[]) (mvT hZ (tw hw 79 rfl))) (mvT hZ (tw hw 79 rfl)) (mvT hZ (tw hw 78 rfl)) (by decide) (backOf (W := 0) (rm_ole1 l Z a0 hw [] w176 T176.heap n0 Zs177 (Old.keep O0 K176 hws) F_w176_isPresent_176c) hZ (tw hw 80 rfl) (tw hw 3 rfl) (by decide) (by decide)) q178a q178c (g := (mkF m 6 #[rv th, rv rr, rv nw, rv w176, .unset] [(.ref w176)])) rfl (by rw [hml]; rfl) (Steps.refl _) (argsL := []) (rest := []) (lenOf pd_1 rfl) rfl (wle rfl) (hb hby d25_6) (fun _ _ => ⟨rfl, rfl, (by decide : 3 + 0 ≤ _), (by decide : 6 + 0 ≤ _)⟩)
  dsimp only [Pt.U, Pt.locs, Pt.cells, Pt.slots] at X178 l178 y178 z178 st178 hQ178
  subst l178 y178 z178
  obtain ⟨rfl, N178q, e178⟩ := hQ178
  have N178 := Fr.app N176 N178q
  refine gs T178 (mkF m 9 #[rv th, rv rr, rv nw, rv w176, .unset] [(.int (0 : Int32))]) (fun _ hr => st178.trans hr) ?_
  refine gs T178 (mkF m 20 #[rv th, rv rr, rv nw, rv w176, .unset] []) (fun _ hr => XS.ifYes X178.here hx rfl (pc0 := 9) (pc' := 20) rfl (hb hby d25_9) rfl ((if0 _ _).trans (teq (by decide : (0 : Int32) = (0 : Int32))).1) (by decide) (by decide) hr) ?_
  refine gs T178 (mkF m 21 #[rv th, rv rr, rv nw, rv w176, .unset] [(.ref w176)]) (fun _ hr => XS.aloadN X178.here hx rfl (hb hby d25_20) rfl rfl hr) ?_
  have Zs179 : n0 ≤ T176.heap.size := Nat.le_trans Z0 K176.1
  obtain ⟨cq180, kq180, q180a, q180b, q180c⟩ := isOf hZ e178 E_w176_176c
  obtain ⟨_, _, ⟨T180, L180, k180, n180⟩, -, X180, ⟨Lc180, hQ180, l180, y180, z180⟩, st180⟩ := X178.virtualBack hx (y := Y7) (z := Y7) hown (mvT hZ (tw hw 184 rfl)) (mvT hZ (tw hw 150 rfl)) (notFace_of_selects (args := #[]) (mvT hZ (tw hw 152 rfl))) (mvT hZ (tw hw 152 rfl)) (mvT hZ (tw hw 151 rfl)) (by decide) (backOf (W := 0) (rm_olg l Z a0 hw [] w176 (q2 - q1) T176.heap n0 Zs179 (Old.keep O0 K176 hws) F_w176_isPresent_176c F_w176_value_176c) hZ (tw hw 153 rfl) (tw hw 3 rfl) (by decide) (by decide)) q180a q180c (g := (mkF m 21 #[rv th, rv rr, rv nw, rv w176, .unset] [(.ref w176)])) rfl (by rw [hml]; rfl) (Steps.refl _) (argsL := []) (rest := []) (lenOf pd_5 rfl) rfl (wle rfl) (hb hby d25_21) (fun _ _ => ⟨rfl, e178, (by decide : 3 + 0 ≤ _), (by decide : 6 + 0 ≤ _)⟩)
  dsimp only [Pt.U, Pt.locs, Pt.cells, Pt.slots] at X180 l180 y180 z180 st180 hQ180
  subst l180 y180 z180
  obtain ⟨rfl, N180q, e180⟩ := hQ180
  have N180 := Fr.app N178 N180q
  refine gs T180 (mkF m 24 #[rv th, rv rr, rv nw, rv w176, .unset] [(.long (q2 - q1))]) (fun _ hr => st180.trans hr) ?_
  refine gs T180 (mkF m 25 #[rv th, rv rr, rv nw, rv w176, .unset] [(.long (0 : Int64)), (.long (q2 - q1))]) (fun _ hr => XT.lconst X180.here hx rfl (hb hby d25_24) hr) ?_
  refine gs T180 (mkF m 26 #[rv th, rv rr, rv nw, rv w176, .unset] [(.int (XT.cmpL (q2 - q1) (0 : Int64)))]) (fun _ hr => XT.lcmp X180.here hx rfl (hb hby d25_25) rfl hr) ?_
  refine gs T180 (mkF m 49 #[rv th, rv rr, rv nw, rv w176, .unset] []) (fun _ hr => XS.ifYes X180.here hx rfl (pc0 := 26) (pc' := 49) rfl (hb hby d25_26) rfl ((if0 _ _).trans (flt (hzz : ¬ ((0 : Int32) < (XT.cmpL (q2 - q1) (0 : Int64))))).2.2.2) (by decide) (by decide) hr) ?_
  refine gs T180 (mkF m 50 #[rv th, rv rr, rv nw, rv w176, .unset] [(.long (0 : Int64))]) (fun _ hr => XT.lconst X180.here hx rfl (hb hby d25_49) hr) ?_
  have Zs181 : n0 ≤ T176.heap.size := Nat.le_trans Z0 K176.1
  obtain ⟨_, _, ⟨T182, L182, k182, n182⟩, -, X182, ⟨Lc182, hQ182, l182, y182, z182⟩, st182⟩ := LawKit.callS X180 hx (y := Y3) hown (mvT hZ (tw hw 143 rfl)) (mvT hZ (tw hw 84 rfl)) (mvT hZ (tw hw 3 rfl)) (mvT hZ (tw hw 85 rfl)) (by decide) (backOf (W := 0) (rm_olof l Z a0 hw [] (0 : Int64) T176.heap n0 Zs181 (Old.keep O0 K176 hws)) hZ (tw hw 85 rfl) (tw hw 3 rfl) (by decide) (by decide)) (g := (mkF m 50 #[rv th, rv rr, rv nw, rv w176, .unset] [(.long (0 : Int64))])) rfl (by rw [hml]; rfl) (argsL := [(.long (0 : Int64))]) (rest := []) (lenOf pd_7 rfl) rfl (wle rfl) (hb hby d25_50) (fun _ _ => ⟨rfl, e180, (by decide : 3 + 1 ≤ _), (by decide : 6 + 2 ≤ _)⟩)
  dsimp only [Pt.U, Pt.locs, Pt.cells, Pt.slots] at X182 l182 y182 z182 st182 hQ182
  subst l182 y182 z182
  obtain ⟨w182, rfl, N182q, Kc182, P182_0, P182_1, P182_2, P182_3⟩ := hQ182
  have N182 := Fr.app N180 N182q
  have K182 : Keep h0 T182.heap [] := K176.trans Kc182 all0
  have sz_w182 : h0.size ≤ w182 := Nat.le_trans K176.1 P182_0
  have E_w182_182c : Exa Z T182.heap w182 cOL := P182_1
  have F_w182_isPresent_182c : Fld Z T182.heap w182 cOL nIP "Z" (.int (1 : Int32)) := P182_2
  have F_w182_value_182c : Fld Z T182.heap w182 cOL "value" "J" (.long (0 : Int64)) := P182_3
  refine gs T182 (mkF m 53 #[rv th, rv rr, rv nw, rv w176, .unset] [(.ref w182)]) st182 ?_
  refine gs T182 (mkF m 55 #[rv th, rv rr, rv nw, rv w176, rv w182] []) (fun _ hr => XS.astore X182.here hx rfl (hb hby d25_53) rfl rfl (l' := #[rv th, rv rr, rv nw, rv w176, rv w182]) rfl hr) ?_
  refine gs T182 (mkF m 57 #[rv th, rv rr, rv nw, rv w176, rv w182] [(.ref w182)]) (fun _ hr => XS.aload X182.here hx rfl (hb hby d25_55) rfl rfl hr) ?_
  exact Goes.ret (v := some (.ref w182)) X182 (by decide) (by decide) (fun h => by rw [Bd.returns] at h; cases h) (by show Q_rm_beh_z0 Z th rr em q1 q2 op eo nw h0 n0 _ T182.heap _; exact ⟨w182, rfl, N182, K182, sz_w182, E_w182_182c, F_w182_isPresent_182c, F_w182_value_182c⟩) (fun fs hr => retOut X182 hx Bd.returns rfl (Or.inr (Or.inr (Or.inr (Or.inr ⟨rfl, rfl, rfl⟩)))) (hb hby d25_57) hr)
theorem d25_29 : decode prog_13_method_6_code 29 = .ok (.aload_n 2, 1) := by decide +kernel
theorem d25_30 : decode prog_13_method_6_code 30 = .ok (.aload_n 1, 1) := by decide +kernel
theorem d25_31 : decode prog_13_method_6_code 31 = .ok (.invokevirtual 92, 3) := by decide +kernel
theorem d25_34 : decode prog_13_method_6_code 34 = .ok (.invokestatic 95, 3) := by decide +kernel
theorem d25_37 : decode prog_13_method_6_code 37 = .ok (.lconst 0, 1) := by decide +kernel
theorem d25_38 : decode prog_13_method_6_code 38 = .ok (.invokevirtual 98, 3) := by decide +kernel
theorem d25_41 : decode prog_13_method_6_code 41 = .ok (.invokestatic 41, 3) := by decide +kernel
theorem d25_44 : decode prog_13_method_6_code 44 = .ok (.astore 4, 2) := by decide +kernel
theorem d25_46 : decode prog_13_method_6_code 46 = .ok (.goto 9, 3) := by decide +kernel
def Q_rm_beh_p1em (Z : State) (th : Addr) (rr : Addr) (em : Addr) (q1 : Int64) (q2 : Int64) (op : Addr) (eo : Addr) (nw : Addr) (q4 : Int64) (h0 : Heap) (n0 : Nat) (v : Option Value) (h : Heap) (L : List Loc) : Prop := ∃ w : Addr, v = some (.ref w) ∧ Fr n0 L ∧ Keep h0 h [] ∧ h0.size ≤ w ∧ Exa Z h w cOL ∧ Fld Z h w cOL nIP "Z" (.int (1 : Int32)) ∧ Fld Z h w cOL "value" "J" (.long (0 : Int64))
set_option maxRecDepth 65536 in
set_option maxHeartbeats 40000000 in
theorem rm_beh_p1em (l : Launch) (Z : State) (a0 : Array Value) (hw : ∀ d ∈ tables_1, d.before a0 Z = true) (ws : List Jvm.Cond) (th : Addr) (rr : Addr) (em : Addr) (q1 : Int64) (q2 : Int64) (op : Addr) (eo : Addr) (nw : Addr) (q4 : Int64) (h0 : Heap) (n0 : Nat) (Z0 : n0 ≤ h0.size) (O0 : Old Z n0 h0) (E_th : Exa Z h0 th cPL) (F_th_offset : Fld Z h0 th cPL "offset" "J" (.long q1)) (F_th_end : Fld Z h0 th cPL "end" "J" (.long q2)) (F_th_records : Fld Z h0 th cPL "records" dOP (.ref op)) (E_op : Exa Z h0 op cOP) (F_op_value : Fld Z h0 op cOP "value" dOB (.ref rr)) (E_rr : Exa Z h0 rr cRR) (F_rr_onlyMarkersLeft : Fld Z h0 rr cRR nOM "Z" (.int (0 : Int32))) (F_rr_firstUnreadTimestamp : Fld Z h0 rr cRR nLT dOL (.ref em)) (E_nw : Exa Z h0 nw cOL) (F_nw_isPresent : Fld Z h0 nw cOL nIP "Z" (.int (1 : Int32))) (F_nw_value : Fld Z h0 nw cOL "value" "J" (.long q4)) (S_OptionalLong_EMPTY_old : Sta Z Z.heap cOL "EMPTY" dOL (.ref em)) (E_em_old : Exa Z Z.heap em cOL) (F_em_isPresent_old : Fld Z Z.heap em cOL nIP "Z" (.int (0 : Int32))) (F_em_value_old : Fld Z Z.heap em cOL "value" "J" (.long (0 : Int64))) (S_Optional_EMPTY_old : Sta Z Z.heap cOP "EMPTY" dOP (.ref eo)) (E_eo_old : Exa Z Z.heap eo cOP) (F_eo_value_old : Fld Z Z.heap eo cOP "value" dOB .null) (hle : ¬ ((0 : Int32) < (XT.cmpL q1 q2))) (hpp : (0 : Int32) < (XT.cmpL (q2 - q1) (0 : Int64))) :
    MetFree l Y27 (head1 (Cond.code Y27 prog_13_method_6_code 5 (some (.object cOL)) :: ws) r12) (fun a U => a = #[(.ref th), (.ref rr), (.ref nw)] ∧ Z.Warmed39 U.vm ∧ U.heap = h0) (fun _ _ _ _ _ => True) (fun _ U o U' => ∃ v L, o = .returned v ∧ Q_rm_beh_p1em Z th rr em q1 q2 op eo nw q4 h0 n0 v U'.heap L ∧ FrameEnd U o U' L r12.cells r12.slots) := by
  refine MetFree.of_bodySF (plainFor_of_name pn_com_example_log_lag_gauge_loglaggauge_model_PositionLag) hisR ?_
  intro p e s m args below meth c s₁ Bd hml0 hP hK
  obtain ⟨rfl, hZ, hh⟩ := hP
  have hx := Bd.exec
  have hby := Bd.bytes
  have hml : c.maxLocals = 5 := hml0
  have hown : s.vm.findClass cPL = some m.cls := findClass_of_methodNamed Bd.named
  have hnm := (name_of_methodNamed Bd.named Bd.method).1
  have X0 : Stand p l e r12 s m #[(.ref th), (.ref rr), (.ref nw)] below meth c s₁ [] 0 0 := Stand.of_body Bd
  have e0 : s₁.heap = h0 := by rw [← hh, Bd.state]; rfl
  have N0 := Fr.nil n0
  refine Goes.out (l := l) (c := c) (R := r12) (Q := Q_rm_beh_p1em Z th rr em q1 q2 op eo nw q4 h0 n0) Bd.notSynchronized ?_
  refine Goes.cast (g2 := mkF m 0 #[rv th, rv rr, rv nw, .unset, .unset] []) (by first | (simp [entryFrame, mkF, argsToLocals, Value.category]; done) | rfl) ?_
  have K0 : Keep h0 h0 [] := Keep.refl h0 _
  have hws : ∀ x ∈ ([] : List Addr), n0 ≤ x := all0
  refine gs s₁ (mkF m 1 #[rv th, rv rr, rv nw, .unset, .unset] [(.ref th)]) (fun _ hr => XS.aloadN X0.here hx rfl (hb hby d25_0) rfl rfl hr) ?_
  have Zs183 : n0 ≤ h0.size := Nat.le_trans Z0 K0.1
  obtain ⟨cq184, kq184, q184a, q184b, q184c⟩ := isOf hZ e0 E_th
  obtain ⟨_, _, ⟨T184, L184, k184, n184⟩, -, X184, ⟨Lc184, hQ184, l184, y184, z184⟩, st184⟩ := X0.virtualBack hx (y := Y26) (z := Y26) hown (mvT hZ (tw hw 138 rfl)) (mvT hZ (tw hw 139 rfl)) (notFace_of_selects (args := #[]) (mvT hZ (tw hw 141 rfl))) (mvT hZ (tw hw 141 rfl)) (mvT hZ (tw hw 140 rfl)) (by decide) (backOf (W := 0) (rm_lag0 l Z a0 hw [] th op rr em eo q1 q2 h0 n0 Zs183 (Old.keep O0 K0 hws) E_th F_th_offset F_th_end F_th_records E_op F_op_value E_rr F_rr_onlyMarkersLeft S_OptionalLong_EMPTY_old E_em_old F_em_isPresent_old F_em_value_old S_Optional_EMPTY_old E_eo_old F_eo_value_old hle) hZ (tw hw 142 rfl) (tw hw 13 rfl) (by decide) (by decide)) q184a q184c (g := (mkF m 1 #[rv th, rv rr, rv nw, .unset, .unset] [(.ref th)])) rfl (by rw [hml]; rfl) (Steps.refl _) (argsL := []) (rest := []) (lenOf pd_6 rfl) rfl (wle rfl) (hb hby d25_1) (fun _ _ => ⟨rfl, e0, (by decide : 0 + 3 ≤ _), (by decide : 0 + 6 ≤ _)⟩)
  dsimp only [Pt.U, Pt.locs, Pt.cells, Pt.slots] at X184 l184 y184 z184 st184 hQ184
  subst l184 y184 z184
  obtain ⟨w184, rfl, N184q, Kc184, P184_0, P184_1, P184_2, P184_3⟩ := hQ184
  have N184 := Fr.app N0 N184q
  have E_rr_184 : Exa Z T184.heap rr cRR := E_rr.keep Kc184
  have F_rr_firstUnreadTimestamp_184 : Fld Z T184.heap rr cRR nLT dOL (.ref em) := F_rr_firstUnreadTimestamp.keep Kc184 nin0
  have E_nw_184 : Exa Z T184.heap nw cOL := E_nw.keep Kc184
  have F_nw_isPresent_184 : Fld Z T184.heap nw cOL nIP "Z" (.int (1 : Int32)) := F_nw_isPresent.keep Kc184 nin0
  have F_nw_value_184 : Fld Z T184.heap nw cOL "value" "J" (.long q4) := F_nw_value.keep Kc184 nin0
  have K184 : Keep h0 T184.heap [] := K0.trans Kc184 all0
  have E_w184_184c : Exa Z T184.heap w184 cOL := P184_1
  have F_w184_isPresent_184c : Fld Z T184.heap w184 cOL nIP "Z" (.int (1 : Int32)) := P184_2
  have F_w184_value_184c : Fld Z T184.heap w184 cOL "value" "J" (.long (q2 - q1)) := P184_3
  refine gs T184 (mkF m 4 #[rv th, rv rr, rv nw, .unset, .unset] [(.ref w184)]) (fun _ hr => st184.trans hr) ?_
  refine gs T184 (mkF m 5 #[rv th, rv rr, rv nw, rv w184, .unset] []) (fun _ hr => XS.astoreN X184.here hx rfl (hb hby d25_4) rfl rfl (l' := #[rv th, rv rr, rv nw, rv w184, .unset]) rfl hr) ?_
  refine gs T184 (mkF m 6 #[rv th, rv rr, rv nw, rv w184, .unset] [(.ref w184)]) (fun _ hr => XS.aloadN X184.here hx rfl (hb hby d25_5) rfl rfl hr) ?_
  have Zs185 : n0 ≤ T184.heap.size := Nat.le_trans Z0 K184.1
  obtain ⟨cq186, kq186, q186a, q186b, q186c⟩ := isOf hZ rfl E_w184_184c
  obtain ⟨_, _, ⟨T186, L186, k186, n186⟩, -, X186, ⟨Lc186, hQ186, l186, y186, z186⟩, st186⟩ := X184.virtualBack hx (y := Y6) (z := Y6) hown (mvT hZ (tw hw 160 rfl)) (mvT hZ (tw hw 77 rfl)) (notFace_of_selects (args := #[]) (mvT hZ (tw hw 79 rfl))) (mvT hZ (tw hw 79 rfl)) (mvT hZ (tw hw 78 rfl)) (by decide) (backOf (W := 0) (rm_ole1 l Z a0 hw [] w184 T184.heap n0 Zs185 (Old.keep O0 K184 hws) F_w184_isPresent_184c) hZ (tw hw 80 rfl) (tw hw 3 rfl) (by decide) (by decide)) q186a q186c (g := (mkF m 6 #[rv th, rv rr, rv nw, rv w184, .unset] [(.ref w184)])) rfl (by rw [hml]; rfl) (Steps.refl _) (argsL := []) (rest := []) (lenOf pd_1 rfl) rfl (wle rfl) (hb hby d25_6) (fun _ _ => ⟨rfl, rfl, (by decide : 3 + 0 ≤ _), (by decide : 6 + 0 ≤ _)⟩)
  dsimp only [Pt.U, Pt.locs, Pt.cells, Pt.slots] at X186 l186 y186 z186 st186 hQ186
  subst l186 y186 z186
  obtain ⟨rfl, N186q, e186⟩ := hQ186
  have N186 := Fr.app N184 N186q
  refine gs T186 (mkF m 9 #[rv th, rv rr, rv nw, rv w184, .unset] [(.int (0 : Int32))]) (fun _ hr => st186.trans hr) ?_
  refine gs T186 (mkF m 20 #[rv th, rv rr, rv nw, rv w184, .unset] []) (fun _ hr => XS.ifYes X186.here hx rfl (pc0 := 9) (pc' := 20) rfl (hb hby d25_9) rfl ((if0 _ _).trans (teq (by decide : (0 : Int32) = (0 : Int32))).1) (by decide) (by decide) hr) ?_
  refine gs T186 (mkF m 21 #[rv th, rv rr, rv nw, rv w184, .unset] [(.ref w184)]) (fun _ hr => XS.aloadN X186.here hx rfl (hb hby d25_20) rfl rfl hr) ?_
  have Zs187 : n0 ≤ T184.heap.size := Nat.le_trans Z0 K184.1
  obtain ⟨cq188, kq188, q188a, q188b, q188c⟩ := isOf hZ e186 E_w184_184c
  obtain ⟨_, _, ⟨T188, L188, k188, n188⟩, -, X188, ⟨Lc188, hQ188, l188, y188, z188⟩, st188⟩ := X186.virtualBack hx (y := Y7) (z := Y7) hown (mvT hZ (tw hw 184 rfl)) (mvT hZ (tw hw 150 rfl)) (notFace_of_selects (args := #[]) (mvT hZ (tw hw 152 rfl))) (mvT hZ (tw hw 152 rfl)) (mvT hZ (tw hw 151 rfl)) (by decide) (backOf (W := 0) (rm_olg l Z a0 hw [] w184 (q2 - q1) T184.heap n0 Zs187 (Old.keep O0 K184 hws) F_w184_isPresent_184c F_w184_value_184c) hZ (tw hw 153 rfl) (tw hw 3 rfl) (by decide) (by decide)) q188a q188c (g := (mkF m 21 #[rv th, rv rr, rv nw, rv w184, .unset] [(.ref w184)])) rfl (by rw [hml]; rfl) (Steps.refl _) (argsL := []) (rest := []) (lenOf pd_5 rfl) rfl (wle rfl) (hb hby d25_21) (fun _ _ => ⟨rfl, e186, (by decide : 3 + 0 ≤ _), (by decide : 6 + 0 ≤ _)⟩)
  dsimp only [Pt.U, Pt.locs, Pt.cells, Pt.slots] at X188 l188 y188 z188 st188 hQ188
  subst l188 y188 z188
  obtain ⟨rfl, N188q, e188⟩ := hQ188
  have N188 := Fr.app N186 N188q
  refine gs T188 (mkF m 24 #[rv th, rv rr, rv nw, rv w184, .unset] [(.long (q2 - q1))]) (fun _ hr => st188.trans hr) ?_
  refine gs T188 (mkF m 25 #[rv th, rv rr, rv nw, rv w184, .unset] [(.long (0 : Int64)), (.long (q2 - q1))]) (fun _ hr => XT.lconst X188.here hx rfl (hb hby d25_24) hr) ?_
  refine gs T188 (mkF m 26 #[rv th, rv rr, rv nw, rv w184, .unset] [(.int (XT.cmpL (q2 - q1) (0 : Int64)))]) (fun _ hr => XT.lcmp X188.here hx rfl (hb hby d25_25) rfl hr) ?_
  refine gs T188 (mkF m 29 #[rv th, rv rr, rv nw, rv w184, .unset] []) (fun _ hr => XS.ifNo X188.here hx rfl (hb hby d25_26) rfl ((if0 _ _).trans (tlt (hpp : (0 : Int32) < (XT.cmpL (q2 - q1) (0 : Int64)))).2.2.2) hr) ?_
  refine gs T188 (mkF m 30 #[rv th, rv rr, rv nw, rv w184, .unset] [(.ref nw)]) (fun _ hr => XS.aloadN X188.here hx rfl (hb hby d25_29) rfl rfl hr) ?_
  refine gs T188 (mkF m 31 #[rv th, rv rr, rv nw, rv w184, .unset] [(.ref rr), (.ref nw)]) (fun _ hr => XS.aloadN X188.here hx rfl (hb hby d25_30) rfl rfl hr) ?_
  have Zs189 : n0 ≤ T184.heap.size := Nat.le_trans Z0 K184.1
  obtain ⟨cq190, kq190, q190a, q190b, q190c⟩ := isOf hZ e188 E_rr_184
  obtain ⟨_, _, ⟨T190, L190, k190, n190⟩, -, X190, ⟨Lc190, hQ190, l190, y190, z190⟩, st190⟩ := X188.virtualBack hx (y := Y11) (z := Y11) hown (mvT hZ (tw hw 187 rfl)) (mvT hZ (tw hw 188 rfl)) (notFace_of_selects (args := #[]) (mvT hZ (tw hw 190 rfl))) (mvT hZ (tw hw 190 rfl)) (mvT hZ (tw hw 189 rfl)) (by decide) (backOf (W := 1) (rm_firstUnreadTimestamp l Z a0 hw [] rr em T184.heap n0 Zs189 (Old.keep O0 K184 hws) F_rr_firstUnreadTimestamp_184) hZ (tw hw 191 rfl) (tw hw 96 rfl) (by decide) (by decide)) q190a q190c (g := (mkF m 31 #[rv th, rv rr, rv nw, rv w184, .unset] [(.ref rr), (.ref nw)])) rfl (by rw [hml]; rfl) (Steps.refl _) (argsL := []) (rest := [(.ref nw)]) (lenOf pd_6 rfl) rfl (wle rfl) (hb hby d25_31) (fun _ _ => ⟨rfl, e188, (by decide : 3 + 0 ≤ _), (by decide : 6 + 0 ≤ _)⟩)
  dsimp only [Pt.U, Pt.locs, Pt.cells, Pt.slots] at X190 l190 y190 z190 st190 hQ190
  subst l190 y190 z190
  obtain ⟨rfl, N190q, e190⟩ := hQ190
  have N190 := Fr.app N188 N190q
  refine gs T190 (mkF m 34 #[rv th, rv rr, rv nw, rv w184, .unset] [(.ref em), (.ref nw)]) (fun _ hr => st190.trans hr) ?_
  have Zs191 : n0 ≤ T184.heap.size := Nat.le_trans Z0 K184.1
  obtain ⟨_, _, ⟨T192, L192, k192, n192⟩, -, X192, ⟨Lc192, hQ192, l192, y192, z192⟩, st192⟩ := LawKit.callS X190 hx (y := Y23) hown (mvT hZ (tw hw 192 rfl)) (mvT hZ (tw hw 193 rfl)) (mvT hZ (tw hw 146 rfl)) (mvT hZ (tw hw 194 rfl)) (by decide) (backOf (W := 0) (rm_ms1em l Z a0 hw [] nw q4 em T184.heap n0 Zs191 (Old.keep O0 K184 hws) E_nw_184 F_nw_isPresent_184 F_nw_value_184 S_OptionalLong_EMPTY_old E_em_old F_em_isPresent_old F_em_value_old) hZ (tw hw 194 rfl) (tw hw 146 rfl) (by decide) (by decide)) (g := (mkF m 34 #[rv th, rv rr, rv nw, rv w184, .unset] [(.ref em), (.ref nw)])) rfl (by rw [hml]; rfl) (argsL := [(.ref nw), (.ref em)]) (rest := []) (lenOf pd_11 rfl) rfl (wle rfl) (hb hby d25_34) (fun _ _ => ⟨rfl, e190, (by decide : 3 + 0 ≤ _), (by decide : 6 + 0 ≤ _)⟩)
  dsimp only [Pt.U, Pt.locs, Pt.cells, Pt.slots] at X192 l192 y192 z192 st192 hQ192
  subst l192 y192 z192
  obtain ⟨rfl, N192q, e192⟩ := hQ192
  have N192 := Fr.app N190 N192q
  refine gs T192 (mkF m 37 #[rv th, rv rr, rv nw, rv w184, .unset] [(.ref em)]) st192 ?_
  refine gs T192 (mkF m 38 #[rv th, rv rr, rv nw, rv w184, .unset] [(.long (0 : Int64)), (.ref em)]) (fun _ hr => XT.lconst X192.here hx rfl (hb hby d25_37) hr) ?_
  have Zs193 : n0 ≤ T184.heap.size := Nat.le_trans Z0 K184.1
  obtain ⟨cq194, kq194, q194a, q194b, q194c⟩ := isOf hZ e192 (E_em_old.ext (Old.keep O0 K184 hws).2)
  obtain ⟨_, _, ⟨T194, L194, k194, n194⟩, -, X194, ⟨Lc194, hQ194, l194, y194, z194⟩, st194⟩ := X192.virtualBack hx (y := Y8) (z := Y8) hown (mvT hZ (tw hw 199 rfl)) (mvT hZ (tw hw 200 rfl)) (notFace_of_selects (args := #[]) (mvT hZ (tw hw 202 rfl))) (mvT hZ (tw hw 202 rfl)) (mvT hZ (tw hw 201 rfl)) (by decide) (backOf (W := 0) (rm_olo0 l Z a0 hw [] em (0 : Int64) T184.heap n0 Zs193 (Old.keep O0 K184 hws) (F_em_isPresent_old.ext (Old.keep O0 K184 hws).2)) hZ (tw hw 203 rfl) (tw hw 3 rfl) (by decide) (by decide)) q194a q194c (g := (mkF m 38 #[rv th, rv rr, rv nw, rv w184, .unset] [(.long (0 : Int64)), (.ref em)])) rfl (by rw [hml]; rfl) (Steps.refl _) (argsL := [(.long (0 : Int64))]) (rest := []) (lenOf pd_13 rfl) rfl (wle rfl) (hb hby d25_38) (fun _ _ => ⟨rfl, e192, (by decide : 3 + 0 ≤ _), (by decide : 6 + 0 ≤ _)⟩)
  dsimp only [Pt.U, Pt.locs, Pt.cells, Pt.slots] at X194 l194 y194 z194 st194 hQ194
  subst l194 y194 z194
  obtain ⟨rfl, N194q, e194⟩ := hQ194
  have N194 := Fr.app N192 N194q
  refine gs T194 (mkF m 41 #[rv th, rv rr, rv nw, rv w184, .unset] [(.long (0 : Int64))]) (fun _ hr => st194.trans hr) ?_
  have Zs195 : n0 ≤ T184.heap.size := Nat.le_trans Z0 K184.1
  obtain ⟨_, _, ⟨T196, L196, k196, n196⟩, -, X196, ⟨Lc196, hQ196, l196, y196, z196⟩, st196⟩ := LawKit.callS X194 hx (y := Y3) hown (mvT hZ (tw hw 143 rfl)) (mvT hZ (tw hw 84 rfl)) (mvT hZ (tw hw 3 rfl)) (mvT hZ (tw hw 85 rfl)) (by decide) (backOf (W := 0) (rm_olof l Z a0 hw [] (0 : Int64) T184.heap n0 Zs195 (Old.keep O0 K184 hws)) hZ (tw hw 85 rfl) (tw hw 3 rfl) (by decide) (by decide)) (g := (mkF m 41 #[rv th, rv rr, rv nw, rv w184, .unset] [(.long (0 : Int64))])) rfl (by rw [hml]; rfl) (argsL := [(.long (0 : Int64))]) (rest := []) (lenOf pd_7 rfl) rfl (wle rfl) (hb hby d25_41) (fun _ _ => ⟨rfl, e194, (by decide : 3 + 1 ≤ _), (by decide : 6 + 2 ≤ _)⟩)
  dsimp only [Pt.U, Pt.locs, Pt.cells, Pt.slots] at X196 l196 y196 z196 st196 hQ196
  subst l196 y196 z196
  obtain ⟨w196, rfl, N196q, Kc196, P196_0, P196_1, P196_2, P196_3⟩ := hQ196
  have N196 := Fr.app N194 N196q
  have K196 : Keep h0 T196.heap [] := K184.trans Kc196 all0
  have sz_w196 : h0.size ≤ w196 := Nat.le_trans K184.1 P196_0
  have E_w196_196c : Exa Z T196.heap w196 cOL := P196_1
  have F_w196_isPresent_196c : Fld Z T196.heap w196 cOL nIP "Z" (.int (1 : Int32)) := P196_2
  have F_w196_value_196c : Fld Z T196.heap w196 cOL "value" "J" (.long (0 : Int64)) := P196_3
  refine gs T196 (mkF m 44 #[rv th, rv rr, rv nw, rv w184, .unset] [(.ref w196)]) st196 ?_
  refine gs T196 (mkF m 46 #[rv th, rv rr, rv nw, rv w184, rv w196] []) (fun _ hr => XS.astore X196.here hx rfl (hb hby d25_44) rfl rfl (l' := #[rv th, rv rr, rv nw, rv w184, rv w196]) rfl hr) ?_
  refine gs T196 (mkF m 55 #[rv th, rv rr, rv nw, rv w184, rv w196] []) (fun _ hr => XS.goto X196.here hx rfl (pc0 := 46) (pc' := 55) rfl (hb hby d25_46) (by decide) (by decide) hr) ?_
  refine gs T196 (mkF m 57 #[rv th, rv rr, rv nw, rv w184, rv w196] [(.ref w196)]) (fun _ hr => XS.aload X196.here hx rfl (hb hby d25_55) rfl rfl hr) ?_
  exact Goes.ret (v := some (.ref w196)) X196 (by decide) (by decide) (fun h => by rw [Bd.returns] at h; cases h) (by show Q_rm_beh_p1em Z th rr em q1 q2 op eo nw q4 h0 n0 _ T196.heap _; exact ⟨w196, rfl, N196, K196, sz_w196, E_w196_196c, F_w196_isPresent_196c, F_w196_value_196c⟩) (fun fs hr => retOut X196 hx Bd.returns rfl (Or.inr (Or.inr (Or.inr (Or.inr ⟨rfl, rfl, rfl⟩)))) (hb hby d25_57) hr)
def Q_rm_beh_pem (Z : State) (th : Addr) (rr : Addr) (em : Addr) (q1 : Int64) (q2 : Int64) (op : Addr) (eo : Addr) (fu : Addr) (h0 : Heap) (n0 : Nat) (v : Option Value) (h : Heap) (L : List Loc) : Prop := ∃ w : Addr, v = some (.ref w) ∧ Fr n0 L ∧ Keep h0 h [] ∧ h0.size ≤ w ∧ Exa Z h w cOL ∧ Fld Z h w cOL nIP "Z" (.int (1 : Int32)) ∧ Fld Z h w cOL "value" "J" (.long (0 : Int64))
set_option maxRecDepth 65536 in
set_option maxHeartbeats 40000000 in
theorem rm_beh_pem (l : Launch) (Z : State) (a0 : Array Value) (hw : ∀ d ∈ tables_1, d.before a0 Z = true) (ws : List Jvm.Cond) (th : Addr) (rr : Addr) (em : Addr) (q1 : Int64) (q2 : Int64) (op : Addr) (eo : Addr) (fu : Addr) (h0 : Heap) (n0 : Nat) (Z0 : n0 ≤ h0.size) (O0 : Old Z n0 h0) (E_th : Exa Z h0 th cPL) (F_th_offset : Fld Z h0 th cPL "offset" "J" (.long q1)) (F_th_end : Fld Z h0 th cPL "end" "J" (.long q2)) (F_th_records : Fld Z h0 th cPL "records" dOP (.ref op)) (E_op : Exa Z h0 op cOP) (F_op_value : Fld Z h0 op cOP "value" dOB (.ref rr)) (E_rr : Exa Z h0 rr cRR) (F_rr_onlyMarkersLeft : Fld Z h0 rr cRR nOM "Z" (.int (0 : Int32))) (F_rr_firstUnreadTimestamp : Fld Z h0 rr cRR nLT dOL (.ref fu)) (S_OptionalLong_EMPTY_old : Sta Z Z.heap cOL "EMPTY" dOL (.ref em)) (E_em_old : Exa Z Z.heap em cOL) (F_em_isPresent_old : Fld Z Z.heap em cOL nIP "Z" (.int (0 : Int32))) (F_em_value_old : Fld Z Z.heap em cOL "value" "J" (.long (0 : Int64))) (S_Optional_EMPTY_old : Sta Z Z.heap cOP "EMPTY" dOP (.ref eo)) (E_eo_old : Exa Z Z.heap eo cOP) (F_eo_value_old : Fld Z Z.heap eo cOP "value" dOB .null) (hle : ¬ ((0 : Int32) < (XT.cmpL q1 q2))) (hpp : (0 : Int32) < (XT.cmpL (q2 - q1) (0 : Int64))) :
    MetFree l Y27 (head1 (Cond.code Y27 prog_13_method_6_code 5 (some (.object cOL)) :: ws) r12) (fun a U => a = #[(.ref th), (.ref rr), (.ref em)] ∧ Z.Warmed39 U.vm ∧ U.heap = h0) (fun _ _ _ _ _ => True) (fun _ U o U' => ∃ v L, o = .returned v ∧ Q_rm_beh_pem Z th rr em q1 q2 op eo fu h0 n0 v U'.heap L ∧ FrameEnd U o U' L r12.cells r12.slots) := by
  refine MetFree.of_bodySF (plainFor_of_name pn_com_example_log_lag_gauge_loglaggauge_model_PositionLag) hisR ?_
  intro p e s m args below meth c s₁ Bd hml0 hP hK
  obtain ⟨rfl, hZ, hh⟩ := hP
  have hx := Bd.exec
  have hby := Bd.bytes
  have hml : c.maxLocals = 5 := hml0
  have hown : s.vm.findClass cPL = some m.cls := findClass_of_methodNamed Bd.named
  have hnm := (name_of_methodNamed Bd.named Bd.method).1
  have X0 : Stand p l e r12 s m #[(.ref th), (.ref rr), (.ref em)] below meth c s₁ [] 0 0 := Stand.of_body Bd
  have e0 : s₁.heap = h0 := by rw [← hh, Bd.state]; rfl
  have N0 := Fr.nil n0
  refine Goes.out (l := l) (c := c) (R := r12) (Q := Q_rm_beh_pem Z th rr em q1 q2 op eo fu h0 n0) Bd.notSynchronized ?_
  refine Goes.cast (g2 := mkF m 0 #[rv th, rv rr, rv em, .unset, .unset] []) (by first | (simp [entryFrame, mkF, argsToLocals, Value.category]; done) | rfl) ?_
  have K0 : Keep h0 h0 [] := Keep.refl h0 _
  have hws : ∀ x ∈ ([] : List Addr), n0 ≤ x := all0
  refine gs s₁ (mkF m 1 #[rv th, rv rr, rv em, .unset, .unset] [(.ref th)]) (fun _ hr => XS.aloadN X0.here hx rfl (hb hby d25_0) rfl rfl hr) ?_
  have Zs197 : n0 ≤ h0.size := Nat.le_trans Z0 K0.1
  obtain ⟨cq198, kq198, q198a, q198b, q198c⟩ := isOf hZ e0 E_th
  obtain ⟨_, _, ⟨T198, L198, k198, n198⟩, -, X198, ⟨Lc198, hQ198, l198, y198, z198⟩, st198⟩ := X0.virtualBack hx (y := Y26) (z := Y26) hown (mvT hZ (tw hw 138 rfl)) (mvT hZ (tw hw 139 rfl)) (notFace_of_selects (args := #[]) (mvT hZ (tw hw 141 rfl))) (mvT hZ (tw hw 141 rfl)) (mvT hZ (tw hw 140 rfl)) (by decide) (backOf (W := 0) (rm_lag0 l Z a0 hw [] th op rr em eo q1 q2 h0 n0 Zs197 (Old.keep O0 K0 hws) E_th F_th_offset F_th_end F_th_records E_op F_op_value E_rr F_rr_onlyMarkersLeft S_OptionalLong_EMPTY_old E_em_old F_em_isPresent_old F_em_value_old S_Optional_EMPTY_old E_eo_old F_eo_value_old hle) hZ (tw hw 142 rfl) (tw hw 13 rfl) (by decide) (by decide)) q198a q198c (g := (mkF m 1 #[rv th, rv rr, rv em, .unset, .unset] [(.ref th)])) rfl (by rw [hml]; rfl) (Steps.refl _) (argsL := []) (rest := []) (lenOf pd_6 rfl) rfl (wle rfl) (hb hby d25_1) (fun _ _ => ⟨rfl, e0, (by decide : 0 + 3 ≤ _), (by decide : 0 + 6 ≤ _)⟩)
  dsimp only [Pt.U, Pt.locs, Pt.cells, Pt.slots] at X198 l198 y198 z198 st198 hQ198
  subst l198 y198 z198
  obtain ⟨w198, rfl, N198q, Kc198, P198_0, P198_1, P198_2, P198_3⟩ := hQ198
  have N198 := Fr.app N0 N198q
  have E_rr_198 : Exa Z T198.heap rr cRR := E_rr.keep Kc198
  have F_rr_firstUnreadTimestamp_198 : Fld Z T198.heap rr cRR nLT dOL (.ref fu) := F_rr_firstUnreadTimestamp.keep Kc198 nin0
  have K198 : Keep h0 T198.heap [] := K0.trans Kc198 all0
  have E_w198_198c : Exa Z T198.heap w198 cOL := P198_1
  have F_w198_isPresent_198c : Fld Z T198.heap w198 cOL nIP "Z" (.int (1 : Int32)) := P198_2
  have F_w198_value_198c : Fld Z T198.heap w198 cOL "value" "J" (.long (q2 - q1)) := P198_3
  refine gs T198 (mkF m 4 #[rv th, rv rr, rv em, .unset, .unset] [(.ref w198)]) (fun _ hr => st198.trans hr) ?_
  refine gs T198 (mkF m 5 #[rv th, rv rr, rv em, rv w198, .unset] []) (fun _ hr => XS.astoreN X198.here hx rfl (hb hby d25_4) rfl rfl (l' := #[rv th, rv rr, rv em, rv w198, .unset]) rfl hr) ?_
  refine gs T198 (mkF m 6 #[rv th, rv rr, rv em, rv w198, .unset] [(.ref w198)]) (fun _ hr => XS.aloadN X198.here hx rfl (hb hby d25_5) rfl rfl hr) ?_
  have Zs199 : n0 ≤ T198.heap.size := Nat.le_trans Z0 K198.1
  obtain ⟨cq200, kq200, q200a, q200b, q200c⟩ := isOf hZ rfl E_w198_198c
  obtain ⟨_, _, ⟨T200, L200, k200, n200⟩, -, X200, ⟨Lc200, hQ200, l200, y200, z200⟩, st200⟩ := X198.virtualBack hx (y := Y6) (z := Y6) hown (mvT hZ (tw hw 160 rfl)) (mvT hZ (tw hw 77 rfl)) (notFace_of_selects (args := #[]) (mvT hZ (tw hw 79 rfl))) (mvT hZ (tw hw 79 rfl)) (mvT hZ (tw hw 78 rfl)) (by decide) (backOf (W := 0) (rm_ole1 l Z a0 hw [] w198 T198.heap n0 Zs199 (Old.keep O0 K198 hws) F_w198_isPresent_198c) hZ (tw hw 80 rfl) (tw hw 3 rfl) (by decide) (by decide)) q200a q200c (g := (mkF m 6 #[rv th, rv rr, rv em, rv w198, .unset] [(.ref w198)])) rfl (by rw [hml]; rfl) (Steps.refl _) (argsL := []) (rest := []) (lenOf pd_1 rfl) rfl (wle rfl) (hb hby d25_6) (fun _ _ => ⟨rfl, rfl, (by decide : 3 + 0 ≤ _), (by decide : 6 + 0 ≤ _)⟩)
  dsimp only [Pt.U, Pt.locs, Pt.cells, Pt.slots] at X200 l200 y200 z200 st200 hQ200
  subst l200 y200 z200
  obtain ⟨rfl, N200q, e200⟩ := hQ200
  have N200 := Fr.app N198 N200q
  refine gs T200 (mkF m 9 #[rv th, rv rr, rv em, rv w198, .unset] [(.int (0 : Int32))]) (fun _ hr => st200.trans hr) ?_
  refine gs T200 (mkF m 20 #[rv th, rv rr, rv em, rv w198, .unset] []) (fun _ hr => XS.ifYes X200.here hx rfl (pc0 := 9) (pc' := 20) rfl (hb hby d25_9) rfl ((if0 _ _).trans (teq (by decide : (0 : Int32) = (0 : Int32))).1) (by decide) (by decide) hr) ?_
  refine gs T200 (mkF m 21 #[rv th, rv rr, rv em, rv w198, .unset] [(.ref w198)]) (fun _ hr => XS.aloadN X200.here hx rfl (hb hby d25_20) rfl rfl hr) ?_
  have Zs201 : n0 ≤ T198.heap.size := Nat.le_trans Z0 K198.1
  obtain ⟨cq202, kq202, q202a, q202b, q202c⟩ := isOf hZ e200 E_w198_198c
  obtain ⟨_, _, ⟨T202, L202, k202, n202⟩, -, X202, ⟨Lc202, hQ202, l202, y202, z202⟩, st202⟩ := X200.virtualBack hx (y := Y7) (z := Y7) hown (mvT hZ (tw hw 184 rfl)) (mvT hZ (tw hw 150 rfl)) (notFace_of_selects (args := #[]) (mvT hZ (tw hw 152 rfl))) (mvT hZ (tw hw 152 rfl)) (mvT hZ (tw hw 151 rfl)) (by decide) (backOf (W := 0) (rm_olg l Z a0 hw [] w198 (q2 - q1) T198.heap n0 Zs201 (Old.keep O0 K198 hws) F_w198_isPresent_198c F_w198_value_198c) hZ (tw hw 153 rfl) (tw hw 3 rfl) (by decide) (by decide)) q202a q202c (g := (mkF m 21 #[rv th, rv rr, rv em, rv w198, .unset] [(.ref w198)])) rfl (by rw [hml]; rfl) (Steps.refl _) (argsL := []) (rest := []) (lenOf pd_5 rfl) rfl (wle rfl) (hb hby d25_21) (fun _ _ => ⟨rfl, e200, (by decide : 3 + 0 ≤ _), (by decide : 6 + 0 ≤ _)⟩)
  dsimp only [Pt.U, Pt.locs, Pt.cells, Pt.slots] at X202 l202 y202 z202 st202 hQ202
  subst l202 y202 z202
  obtain ⟨rfl, N202q, e202⟩ := hQ202
  have N202 := Fr.app N200 N202q
  refine gs T202 (mkF m 24 #[rv th, rv rr, rv em, rv w198, .unset] [(.long (q2 - q1))]) (fun _ hr => st202.trans hr) ?_
  refine gs T202 (mkF m 25 #[rv th, rv rr, rv em, rv w198, .unset] [(.long (0 : Int64)), (.long (q2 - q1))]) (fun _ hr => XT.lconst X202.here hx rfl (hb hby d25_24) hr) ?_
  refine gs T202 (mkF m 26 #[rv th, rv rr, rv em, rv w198, .unset] [(.int (XT.cmpL (q2 - q1) (0 : Int64)))]) (fun _ hr => XT.lcmp X202.here hx rfl (hb hby d25_25) rfl hr) ?_
  refine gs T202 (mkF m 29 #[rv th, rv rr, rv em, rv w198, .unset] []) (fun _ hr => XS.ifNo X202.here hx rfl (hb hby d25_26) rfl ((if0 _ _).trans (tlt (hpp : (0 : Int32) < (XT.cmpL (q2 - q1) (0 : Int64)))).2.2.2) hr) ?_
  refine gs T202 (mkF m 30 #[rv th, rv rr, rv em, rv w198, .unset] [(.ref em)]) (fun _ hr => XS.aloadN X202.here hx rfl (hb hby d25_29) rfl rfl hr) ?_
  refine gs T202 (mkF m 31 #[rv th, rv rr, rv em, rv w198, .unset] [(.ref rr), (.ref em)]) (fun _ hr => XS.aloadN X202.here hx rfl (hb hby d25_30) rfl rfl hr) ?_
  have Zs203 : n0 ≤ T198.heap.size := Nat.le_trans Z0 K198.1
  obtain ⟨cq204, kq204, q204a, q204b, q204c⟩ := isOf hZ e202 E_rr_198
  obtain ⟨_, _, ⟨T204, L204, k204, n204⟩, -, X204, ⟨Lc204, hQ204, l204, y204, z204⟩, st204⟩ := X202.virtualBack hx (y := Y11) (z := Y11) hown (mvT hZ (tw hw 187 rfl)) (mvT hZ (tw hw 188 rfl)) (notFace_of_selects (args := #[]) (mvT hZ (tw hw 190 rfl))) (mvT hZ (tw hw 190 rfl)) (mvT hZ (tw hw 189 rfl)) (by decide) (backOf (W := 1) (rm_firstUnreadTimestamp l Z a0 hw [] rr fu T198.heap n0 Zs203 (Old.keep O0 K198 hws) F_rr_firstUnreadTimestamp_198) hZ (tw hw 191 rfl) (tw hw 96 rfl) (by decide) (by decide)) q204a q204c (g := (mkF m 31 #[rv th, rv rr, rv em, rv w198, .unset] [(.ref rr), (.ref em)])) rfl (by rw [hml]; rfl) (Steps.refl _) (argsL := []) (rest := [(.ref em)]) (lenOf pd_6 rfl) rfl (wle rfl) (hb hby d25_31) (fun _ _ => ⟨rfl, e202, (by decide : 3 + 0 ≤ _), (by decide : 6 + 0 ≤ _)⟩)
  dsimp only [Pt.U, Pt.locs, Pt.cells, Pt.slots] at X204 l204 y204 z204 st204 hQ204
  subst l204 y204 z204
  obtain ⟨rfl, N204q, e204⟩ := hQ204
  have N204 := Fr.app N202 N204q
  refine gs T204 (mkF m 34 #[rv th, rv rr, rv em, rv w198, .unset] [(.ref fu), (.ref em)]) (fun _ hr => st204.trans hr) ?_
  have Zs205 : n0 ≤ T198.heap.size := Nat.le_trans Z0 K198.1
  obtain ⟨_, _, ⟨T206, L206, k206, n206⟩, -, X206, ⟨Lc206, hQ206, l206, y206, z206⟩, st206⟩ := LawKit.callS X204 hx (y := Y23) hown (mvT hZ (tw hw 192 rfl)) (mvT hZ (tw hw 193 rfl)) (mvT hZ (tw hw 146 rfl)) (mvT hZ (tw hw 194 rfl)) (by decide) (backOf (W := 0) (rm_msem l Z a0 hw [] em fu T198.heap n0 Zs205 (Old.keep O0 K198 hws) S_OptionalLong_EMPTY_old E_em_old F_em_isPresent_old F_em_value_old) hZ (tw hw 194 rfl) (tw hw 146 rfl) (by decide) (by decide)) (g := (mkF m 34 #[rv th, rv rr, rv em, rv w198, .unset] [(.ref fu), (.ref em)])) rfl (by rw [hml]; rfl) (argsL := [(.ref em), (.ref fu)]) (rest := []) (lenOf pd_11 rfl) rfl (wle rfl) (hb hby d25_34) (fun _ _ => ⟨rfl, e204, (by decide : 3 + 0 ≤ _), (by decide : 6 + 0 ≤ _)⟩)
  dsimp only [Pt.U, Pt.locs, Pt.cells, Pt.slots] at X206 l206 y206 z206 st206 hQ206
  subst l206 y206 z206
  obtain ⟨rfl, N206q, e206⟩ := hQ206
  have N206 := Fr.app N204 N206q
  refine gs T206 (mkF m 37 #[rv th, rv rr, rv em, rv w198, .unset] [(.ref em)]) st206 ?_
  refine gs T206 (mkF m 38 #[rv th, rv rr, rv em, rv w198, .unset] [(.long (0 : Int64)), (.ref em)]) (fun _ hr => XT.lconst X206.here hx rfl (hb hby d25_37) hr) ?_
  have Zs207 : n0 ≤ T198.heap.size := Nat.le_trans Z0 K198.1
  obtain ⟨cq208, kq208, q208a, q208b, q208c⟩ := isOf hZ e206 (E_em_old.ext (Old.keep O0 K198 hws).2)
  obtain ⟨_, _, ⟨T208, L208, k208, n208⟩, -, X208, ⟨Lc208, hQ208, l208, y208, z208⟩, st208⟩ := X206.virtualBack hx (y := Y8) (z := Y8) hown (mvT hZ (tw hw 199 rfl)) (mvT hZ (tw hw 200 rfl)) (notFace_of_selects (args := #[]) (mvT hZ (tw hw 202 rfl))) (mvT hZ (tw hw 202 rfl)) (mvT hZ (tw hw 201 rfl)) (by decide) (backOf (W := 0) (rm_olo0 l Z a0 hw [] em (0 : Int64) T198.heap n0 Zs207 (Old.keep O0 K198 hws) (F_em_isPresent_old.ext (Old.keep O0 K198 hws).2)) hZ (tw hw 203 rfl) (tw hw 3 rfl) (by decide) (by decide)) q208a q208c (g := (mkF m 38 #[rv th, rv rr, rv em, rv w198, .unset] [(.long (0 : Int64)), (.ref em)])) rfl (by rw [hml]; rfl) (Steps.refl _) (argsL := [(.long (0 : Int64))]) (rest := []) (lenOf pd_13 rfl) rfl (wle rfl) (hb hby d25_38) (fun _ _ => ⟨rfl, e206, (by decide : 3 + 0 ≤ _), (by decide : 6 + 0 ≤ _)⟩)
  dsimp only [Pt.U, Pt.locs, Pt.cells, Pt.slots] at X208 l208 y208 z208 st208 hQ208
  subst l208 y208 z208
  obtain ⟨rfl, N208q, e208⟩ := hQ208
  have N208 := Fr.app N206 N208q
  refine gs T208 (mkF m 41 #[rv th, rv rr, rv em, rv w198, .unset] [(.long (0 : Int64))]) (fun _ hr => st208.trans hr) ?_
  have Zs209 : n0 ≤ T198.heap.size := Nat.le_trans Z0 K198.1
  obtain ⟨_, _, ⟨T210, L210, k210, n210⟩, -, X210, ⟨Lc210, hQ210, l210, y210, z210⟩, st210⟩ := LawKit.callS X208 hx (y := Y3) hown (mvT hZ (tw hw 143 rfl)) (mvT hZ (tw hw 84 rfl)) (mvT hZ (tw hw 3 rfl)) (mvT hZ (tw hw 85 rfl)) (by decide) (backOf (W := 0) (rm_olof l Z a0 hw [] (0 : Int64) T198.heap n0 Zs209 (Old.keep O0 K198 hws)) hZ (tw hw 85 rfl) (tw hw 3 rfl) (by decide) (by decide)) (g := (mkF m 41 #[rv th, rv rr, rv em, rv w198, .unset] [(.long (0 : Int64))])) rfl (by rw [hml]; rfl) (argsL := [(.long (0 : Int64))]) (rest := []) (lenOf pd_7 rfl) rfl (wle rfl) (hb hby d25_41) (fun _ _ => ⟨rfl, e208, (by decide : 3 + 1 ≤ _), (by decide : 6 + 2 ≤ _)⟩)
  dsimp only [Pt.U, Pt.locs, Pt.cells, Pt.slots] at X210 l210 y210 z210 st210 hQ210
  subst l210 y210 z210
  obtain ⟨w210, rfl, N210q, Kc210, P210_0, P210_1, P210_2, P210_3⟩ := hQ210
  have N210 := Fr.app N208 N210q
  have K210 : Keep h0 T210.heap [] := K198.trans Kc210 all0
  have sz_w210 : h0.size ≤ w210 := Nat.le_trans K198.1 P210_0
  have E_w210_210c : Exa Z T210.heap w210 cOL := P210_1
  have F_w210_isPresent_210c : Fld Z T210.heap w210 cOL nIP "Z" (.int (1 : Int32)) := P210_2
  have F_w210_value_210c : Fld Z T210.heap w210 cOL "value" "J" (.long (0 : Int64)) := P210_3
  refine gs T210 (mkF m 44 #[rv th, rv rr, rv em, rv w198, .unset] [(.ref w210)]) st210 ?_
  refine gs T210 (mkF m 46 #[rv th, rv rr, rv em, rv w198, rv w210] []) (fun _ hr => XS.astore X210.here hx rfl (hb hby d25_44) rfl rfl (l' := #[rv th, rv rr, rv em, rv w198, rv w210]) rfl hr) ?_
  refine gs T210 (mkF m 55 #[rv th, rv rr, rv em, rv w198, rv w210] []) (fun _ hr => XS.goto X210.here hx rfl (pc0 := 46) (pc' := 55) rfl (hb hby d25_46) (by decide) (by decide) hr) ?_
  refine gs T210 (mkF m 57 #[rv th, rv rr, rv em, rv w198, rv w210] [(.ref w210)]) (fun _ hr => XS.aload X210.here hx rfl (hb hby d25_55) rfl rfl hr) ?_
  exact Goes.ret (v := some (.ref w210)) X210 (by decide) (by decide) (fun h => by rw [Bd.returns] at h; cases h) (by show Q_rm_beh_pem Z th rr em q1 q2 op eo fu h0 n0 _ T210.heap _; exact ⟨w210, rfl, N210, K210, sz_w210, E_w210_210c, F_w210_isPresent_210c, F_w210_value_210c⟩) (fun fs hr => retOut X210 hx Bd.returns rfl (Or.inr (Or.inr (Or.inr (Or.inr ⟨rfl, rfl, rfl⟩)))) (hb hby d25_57) hr)
def Q_rm_beh_p1 (Z : State) (th : Addr) (rr : Addr) (em : Addr) (q1 : Int64) (q2 : Int64) (op : Addr) (eo : Addr) (nw : Addr) (fu : Addr) (q3 : Int64) (q4 : Int64) (h0 : Heap) (n0 : Nat) (v : Option Value) (h : Heap) (L : List Loc) : Prop := ∃ w : Addr, v = some (.ref w) ∧ Fr n0 L ∧ Keep h0 h [] ∧ h0.size ≤ w ∧ Exa Z h w cOL ∧ Fld Z h w cOL nIP "Z" (.int (1 : Int32)) ∧ Fld Z h w cOL "value" "J" (.long (q4 - q3))
set_option maxRecDepth 65536 in
set_option maxHeartbeats 40000000 in
theorem rm_beh_p1 (l : Launch) (Z : State) (a0 : Array Value) (hw : ∀ d ∈ tables_1, d.before a0 Z = true) (ws : List Jvm.Cond) (th : Addr) (rr : Addr) (em : Addr) (q1 : Int64) (q2 : Int64) (op : Addr) (eo : Addr) (nw : Addr) (fu : Addr) (q3 : Int64) (q4 : Int64) (h0 : Heap) (n0 : Nat) (Z0 : n0 ≤ h0.size) (O0 : Old Z n0 h0) (E_th : Exa Z h0 th cPL) (F_th_offset : Fld Z h0 th cPL "offset" "J" (.long q1)) (F_th_end : Fld Z h0 th cPL "end" "J" (.long q2)) (F_th_records : Fld Z h0 th cPL "records" dOP (.ref op)) (E_op : Exa Z h0 op cOP) (F_op_value : Fld Z h0 op cOP "value" dOB (.ref rr)) (E_rr : Exa Z h0 rr cRR) (F_rr_onlyMarkersLeft : Fld Z h0 rr cRR nOM "Z" (.int (0 : Int32))) (F_rr_firstUnreadTimestamp : Fld Z h0 rr cRR nLT dOL (.ref fu)) (E_fu : Exa Z h0 fu cOL) (F_fu_isPresent : Fld Z h0 fu cOL nIP "Z" (.int (1 : Int32))) (F_fu_value : Fld Z h0 fu cOL "value" "J" (.long q3)) (E_nw : Exa Z h0 nw cOL) (F_nw_isPresent : Fld Z h0 nw cOL nIP "Z" (.int (1 : Int32))) (F_nw_value : Fld Z h0 nw cOL "value" "J" (.long q4)) (S_OptionalLong_EMPTY_old : Sta Z Z.heap cOL "EMPTY" dOL (.ref em)) (E_em_old : Exa Z Z.heap em cOL) (F_em_isPresent_old : Fld Z Z.heap em cOL nIP "Z" (.int (0 : Int32))) (F_em_value_old : Fld Z Z.heap em cOL "value" "J" (.long (0 : Int64))) (S_Optional_EMPTY_old : Sta Z Z.heap cOP "EMPTY" dOP (.ref eo)) (E_eo_old : Exa Z Z.heap eo cOP) (F_eo_value_old : Fld Z Z.heap eo cOP "value" dOB .null) (hle : ¬ ((0 : Int32) < (XT.cmpL q1 q2))) (hpp : (0 : Int32) < (XT.cmpL (q2 - q1) (0 : Int64))) (hmx : (XT.cmpL (0 : Int64) (q4 - q3)) < (0 : Int32)) :
    MetFree l Y27 (head1 (Cond.code Y27 prog_13_method_6_code 5 (some (.object cOL)) :: ws) r11) (fun a U => a = #[(.ref th), (.ref rr), (.ref nw)] ∧ Z.Warmed39 U.vm ∧ U.heap = h0) (fun _ _ _ _ _ => True) (fun _ U o U' => ∃ v L, o = .returned v ∧ Q_rm_beh_p1 Z th rr em q1 q2 op eo nw fu q3 q4 h0 n0 v U'.heap L ∧ FrameEnd U o U' L r11.cells r11.slots) := by
  refine MetFree.of_bodySF (plainFor_of_name pn_com_example_log_lag_gauge_loglaggauge_model_PositionLag) hisR ?_
  intro p e s m args below meth c s₁ Bd hml0 hP hK
  obtain ⟨rfl, hZ, hh⟩ := hP
  have hx := Bd.exec
  have hby := Bd.bytes
  have hml : c.maxLocals = 5 := hml0
  have hown : s.vm.findClass cPL = some m.cls := findClass_of_methodNamed Bd.named
  have hnm := (name_of_methodNamed Bd.named Bd.method).1
  have X0 : Stand p l e r11 s m #[(.ref th), (.ref rr), (.ref nw)] below meth c s₁ [] 0 0 := Stand.of_body Bd
  have e0 : s₁.heap = h0 := by rw [← hh, Bd.state]; rfl
  have N0 := Fr.nil n0
  refine Goes.out (l := l) (c := c) (R := r11) (Q := Q_rm_beh_p1 Z th rr em q1 q2 op eo nw fu q3 q4 h0 n0) Bd.notSynchronized ?_
  refine Goes.cast (g2 := mkF m 0 #[rv th, rv rr, rv nw, .unset, .unset] []) (by first | (simp [entryFrame, mkF, argsToLocals, Value.category]; done) | rfl) ?_
  have K0 : Keep h0 h0 [] := Keep.refl h0 _
  have hws : ∀ x ∈ ([] : List Addr), n0 ≤ x := all0
  refine gs s₁ (mkF m 1 #[rv th, rv rr, rv nw, .unset, .unset] [(.ref th)]) (fun _ hr => XS.aloadN X0.here hx rfl (hb hby d25_0) rfl rfl hr) ?_
  have Zs211 : n0 ≤ h0.size := Nat.le_trans Z0 K0.1
  obtain ⟨cq212, kq212, q212a, q212b, q212c⟩ := isOf hZ e0 E_th
  obtain ⟨_, _, ⟨T212, L212, k212, n212⟩, -, X212, ⟨Lc212, hQ212, l212, y212, z212⟩, st212⟩ := X0.virtualBack hx (y := Y26) (z := Y26) hown (mvT hZ (tw hw 138 rfl)) (mvT hZ (tw hw 139 rfl)) (notFace_of_selects (args := #[]) (mvT hZ (tw hw 141 rfl))) (mvT hZ (tw hw 141 rfl)) (mvT hZ (tw hw 140 rfl)) (by decide) (backOf (W := 0) (rm_lag0 l Z a0 hw [] th op rr em eo q1 q2 h0 n0 Zs211 (Old.keep O0 K0 hws) E_th F_th_offset F_th_end F_th_records E_op F_op_value E_rr F_rr_onlyMarkersLeft S_OptionalLong_EMPTY_old E_em_old F_em_isPresent_old F_em_value_old S_Optional_EMPTY_old E_eo_old F_eo_value_old hle) hZ (tw hw 142 rfl) (tw hw 13 rfl) (by decide) (by decide)) q212a q212c (g := (mkF m 1 #[rv th, rv rr, rv nw, .unset, .unset] [(.ref th)])) rfl (by rw [hml]; rfl) (Steps.refl _) (argsL := []) (rest := []) (lenOf pd_6 rfl) rfl (wle rfl) (hb hby d25_1) (fun _ _ => ⟨rfl, e0, (by decide : 0 + 3 ≤ _), (by decide : 0 + 6 ≤ _)⟩)
  dsimp only [Pt.U, Pt.locs, Pt.cells, Pt.slots] at X212 l212 y212 z212 st212 hQ212
  subst l212 y212 z212
  obtain ⟨w212, rfl, N212q, Kc212, P212_0, P212_1, P212_2, P212_3⟩ := hQ212
  have N212 := Fr.app N0 N212q
  have E_rr_212 : Exa Z T212.heap rr cRR := E_rr.keep Kc212
  have F_rr_firstUnreadTimestamp_212 : Fld Z T212.heap rr cRR nLT dOL (.ref fu) := F_rr_firstUnreadTimestamp.keep Kc212 nin0
  have E_fu_212 : Exa Z T212.heap fu cOL := E_fu.keep Kc212
  have F_fu_isPresent_212 : Fld Z T212.heap fu cOL nIP "Z" (.int (1 : Int32)) := F_fu_isPresent.keep Kc212 nin0
  have F_fu_value_212 : Fld Z T212.heap fu cOL "value" "J" (.long q3) := F_fu_value.keep Kc212 nin0
  have E_nw_212 : Exa Z T212.heap nw cOL := E_nw.keep Kc212
  have F_nw_isPresent_212 : Fld Z T212.heap nw cOL nIP "Z" (.int (1 : Int32)) := F_nw_isPresent.keep Kc212 nin0
  have F_nw_value_212 : Fld Z T212.heap nw cOL "value" "J" (.long q4) := F_nw_value.keep Kc212 nin0
  have K212 : Keep h0 T212.heap [] := K0.trans Kc212 all0
  have E_w212_212c : Exa Z T212.heap w212 cOL := P212_1
  have F_w212_isPresent_212c : Fld Z T212.heap w212 cOL nIP "Z" (.int (1 : Int32)) := P212_2
  have F_w212_value_212c : Fld Z T212.heap w212 cOL "value" "J" (.long (q2 - q1)) := P212_3
  refine gs T212 (mkF m 4 #[rv th, rv rr, rv nw, .unset, .unset] [(.ref w212)]) (fun _ hr => st212.trans hr) ?_
  refine gs T212 (mkF m 5 #[rv th, rv rr, rv nw, rv w212, .unset] []) (fun _ hr => XS.astoreN X212.here hx rfl (hb hby d25_4) rfl rfl (l' := #[rv th, rv rr, rv nw, rv w212, .unset]) rfl hr) ?_
  refine gs T212 (mkF m 6 #[rv th, rv rr, rv nw, rv w212, .unset] [(.ref w212)]) (fun _ hr => XS.aloadN X212.here hx rfl (hb hby d25_5) rfl rfl hr) ?_
  have Zs213 : n0 ≤ T212.heap.size := Nat.le_trans Z0 K212.1
  obtain ⟨cq214, kq214, q214a, q214b, q214c⟩ := isOf hZ rfl E_w212_212c
  obtain ⟨_, _, ⟨T214, L214, k214, n214⟩, -, X214, ⟨Lc214, hQ214, l214, y214, z214⟩, st214⟩ := X212.virtualBack hx (y := Y6) (z := Y6) hown (mvT hZ (tw hw 160 rfl)) (mvT hZ (tw hw 77 rfl)) (notFace_of_selects (args := #[]) (mvT hZ (tw hw 79 rfl))) (mvT hZ (tw hw 79 rfl)) (mvT hZ (tw hw 78 rfl)) (by decide) (backOf (W := 0) (rm_ole1 l Z a0 hw [] w212 T212.heap n0 Zs213 (Old.keep O0 K212 hws) F_w212_isPresent_212c) hZ (tw hw 80 rfl) (tw hw 3 rfl) (by decide) (by decide)) q214a q214c (g := (mkF m 6 #[rv th, rv rr, rv nw, rv w212, .unset] [(.ref w212)])) rfl (by rw [hml]; rfl) (Steps.refl _) (argsL := []) (rest := []) (lenOf pd_1 rfl) rfl (wle rfl) (hb hby d25_6) (fun _ _ => ⟨rfl, rfl, (by decide : 3 + 0 ≤ _), (by decide : 6 + 0 ≤ _)⟩)
  dsimp only [Pt.U, Pt.locs, Pt.cells, Pt.slots] at X214 l214 y214 z214 st214 hQ214
  subst l214 y214 z214
  obtain ⟨rfl, N214q, e214⟩ := hQ214
  have N214 := Fr.app N212 N214q
  refine gs T214 (mkF m 9 #[rv th, rv rr, rv nw, rv w212, .unset] [(.int (0 : Int32))]) (fun _ hr => st214.trans hr) ?_
  refine gs T214 (mkF m 20 #[rv th, rv rr, rv nw, rv w212, .unset] []) (fun _ hr => XS.ifYes X214.here hx rfl (pc0 := 9) (pc' := 20) rfl (hb hby d25_9) rfl ((if0 _ _).trans (teq (by decide : (0 : Int32) = (0 : Int32))).1) (by decide) (by decide) hr) ?_
  refine gs T214 (mkF m 21 #[rv th, rv rr, rv nw, rv w212, .unset] [(.ref w212)]) (fun _ hr => XS.aloadN X214.here hx rfl (hb hby d25_20) rfl rfl hr) ?_
  have Zs215 : n0 ≤ T212.heap.size := Nat.le_trans Z0 K212.1
  obtain ⟨cq216, kq216, q216a, q216b, q216c⟩ := isOf hZ e214 E_w212_212c
  obtain ⟨_, _, ⟨T216, L216, k216, n216⟩, -, X216, ⟨Lc216, hQ216, l216, y216, z216⟩, st216⟩ := X214.virtualBack hx (y := Y7) (z := Y7) hown (mvT hZ (tw hw 184 rfl)) (mvT hZ (tw hw 150 rfl)) (notFace_of_selects (args := #[]) (mvT hZ (tw hw 152 rfl))) (mvT hZ (tw hw 152 rfl)) (mvT hZ (tw hw 151 rfl)) (by decide) (backOf (W := 0) (rm_olg l Z a0 hw [] w212 (q2 - q1) T212.heap n0 Zs215 (Old.keep O0 K212 hws) F_w212_isPresent_212c F_w212_value_212c) hZ (tw hw 153 rfl) (tw hw 3 rfl) (by decide) (by decide)) q216a q216c (g := (mkF m 21 #[rv th, rv rr, rv nw, rv w212, .unset] [(.ref w212)])) rfl (by rw [hml]; rfl) (Steps.refl _) (argsL := []) (rest := []) (lenOf pd_5 rfl) rfl (wle rfl) (hb hby d25_21) (fun _ _ => ⟨rfl, e214, (by decide : 3 + 0 ≤ _), (by decide : 6 + 0 ≤ _)⟩)
  dsimp only [Pt.U, Pt.locs, Pt.cells, Pt.slots] at X216 l216 y216 z216 st216 hQ216
  subst l216 y216 z216
  obtain ⟨rfl, N216q, e216⟩ := hQ216
  have N216 := Fr.app N214 N216q
  refine gs T216 (mkF m 24 #[rv th, rv rr, rv nw, rv w212, .unset] [(.long (q2 - q1))]) (fun _ hr => st216.trans hr) ?_
  refine gs T216 (mkF m 25 #[rv th, rv rr, rv nw, rv w212, .unset] [(.long (0 : Int64)), (.long (q2 - q1))]) (fun _ hr => XT.lconst X216.here hx rfl (hb hby d25_24) hr) ?_
  refine gs T216 (mkF m 26 #[rv th, rv rr, rv nw, rv w212, .unset] [(.int (XT.cmpL (q2 - q1) (0 : Int64)))]) (fun _ hr => XT.lcmp X216.here hx rfl (hb hby d25_25) rfl hr) ?_
  refine gs T216 (mkF m 29 #[rv th, rv rr, rv nw, rv w212, .unset] []) (fun _ hr => XS.ifNo X216.here hx rfl (hb hby d25_26) rfl ((if0 _ _).trans (tlt (hpp : (0 : Int32) < (XT.cmpL (q2 - q1) (0 : Int64)))).2.2.2) hr) ?_
  refine gs T216 (mkF m 30 #[rv th, rv rr, rv nw, rv w212, .unset] [(.ref nw)]) (fun _ hr => XS.aloadN X216.here hx rfl (hb hby d25_29) rfl rfl hr) ?_
  refine gs T216 (mkF m 31 #[rv th, rv rr, rv nw, rv w212, .unset] [(.ref rr), (.ref nw)]) (fun _ hr => XS.aloadN X216.here hx rfl (hb hby d25_30) rfl rfl hr) ?_
  have Zs217 : n0 ≤ T212.heap.size := Nat.le_trans Z0 K212.1
  obtain ⟨cq218, kq218, q218a, q218b, q218c⟩ := isOf hZ e216 E_rr_212
  obtain ⟨_, _, ⟨T218, L218, k218, n218⟩, -, X218, ⟨Lc218, hQ218, l218, y218, z218⟩, st218⟩ := X216.virtualBack hx (y := Y11) (z := Y11) hown (mvT hZ (tw hw 187 rfl)) (mvT hZ (tw hw 188 rfl)) (notFace_of_selects (args := #[]) (mvT hZ (tw hw 190 rfl))) (mvT hZ (tw hw 190 rfl)) (mvT hZ (tw hw 189 rfl)) (by decide) (backOf (W := 1) (rm_firstUnreadTimestamp l Z a0 hw [] rr fu T212.heap n0 Zs217 (Old.keep O0 K212 hws) F_rr_firstUnreadTimestamp_212) hZ (tw hw 191 rfl) (tw hw 96 rfl) (by decide) (by decide)) q218a q218c (g := (mkF m 31 #[rv th, rv rr, rv nw, rv w212, .unset] [(.ref rr), (.ref nw)])) rfl (by rw [hml]; rfl) (Steps.refl _) (argsL := []) (rest := [(.ref nw)]) (lenOf pd_6 rfl) rfl (wle rfl) (hb hby d25_31) (fun _ _ => ⟨rfl, e216, (by decide : 3 + 0 ≤ _), (by decide : 6 + 0 ≤ _)⟩)
  dsimp only [Pt.U, Pt.locs, Pt.cells, Pt.slots] at X218 l218 y218 z218 st218 hQ218
  subst l218 y218 z218
  obtain ⟨rfl, N218q, e218⟩ := hQ218
  have N218 := Fr.app N216 N218q
  refine gs T218 (mkF m 34 #[rv th, rv rr, rv nw, rv w212, .unset] [(.ref fu), (.ref nw)]) (fun _ hr => st218.trans hr) ?_
  have Zs219 : n0 ≤ T212.heap.size := Nat.le_trans Z0 K212.1
  obtain ⟨_, _, ⟨T220, L220, k220, n220⟩, -, X220, ⟨Lc220, hQ220, l220, y220, z220⟩, st220⟩ := LawKit.callS X218 hx (y := Y23) hown (mvT hZ (tw hw 192 rfl)) (mvT hZ (tw hw 193 rfl)) (mvT hZ (tw hw 146 rfl)) (mvT hZ (tw hw 194 rfl)) (by decide) (backOf (W := 0) (rm_ms111 l Z a0 hw [] nw fu q3 q4 em T212.heap n0 Zs219 (Old.keep O0 K212 hws) E_nw_212 F_nw_isPresent_212 F_nw_value_212 E_fu_212 F_fu_isPresent_212 F_fu_value_212 S_OptionalLong_EMPTY_old E_em_old F_em_isPresent_old F_em_value_old hmx) hZ (tw hw 194 rfl) (tw hw 146 rfl) (by decide) (by decide)) (g := (mkF m 34 #[rv th, rv rr, rv nw, rv w212, .unset] [(.ref fu), (.ref nw)])) rfl (by rw [hml]; rfl) (argsL := [(.ref nw), (.ref fu)]) (rest := []) (lenOf pd_11 rfl) rfl (wle rfl) (hb hby d25_34) (fun _ _ => ⟨rfl, e218, (by decide : 3 + 1 ≤ _), (by decide : 6 + 2 ≤ _)⟩)
  dsimp only [Pt.U, Pt.locs, Pt.cells, Pt.slots] at X220 l220 y220 z220 st220 hQ220
  subst l220 y220 z220
  obtain ⟨w220, rfl, N220q, Kc220, P220_0, P220_1, P220_2, P220_3⟩ := hQ220
  have N220 := Fr.app N218 N220q
  have K220 : Keep h0 T220.heap [] := K212.trans Kc220 all0
  have E_w220_220c : Exa Z T220.heap w220 cOL := P220_1
  have F_w220_isPresent_220c : Fld Z T220.heap w220 cOL nIP "Z" (.int (1 : Int32)) := P220_2
  have F_w220_value_220c : Fld Z T220.heap w220 cOL "value" "J" (.long (q4 - q3)) := P220_3
  refine gs T220 (mkF m 37 #[rv th, rv rr, rv nw, rv w212, .unset] [(.ref w220)]) st220 ?_
  refine gs T220 (mkF m 38 #[rv th, rv rr, rv nw, rv w212, .unset] [(.long (0 : Int64)), (.ref w220)]) (fun _ hr => XT.lconst X220.here hx rfl (hb hby d25_37) hr) ?_
  have Zs221 : n0 ≤ T220.heap.size := Nat.le_trans Z0 K220.1
  obtain ⟨cq222, kq222, q222a, q222b, q222c⟩ := isOf hZ rfl E_w220_220c
  obtain ⟨_, _, ⟨T222, L222, k222, n222⟩, -, X222, ⟨Lc222, hQ222, l222, y222, z222⟩, st222⟩ := X220.virtualBack hx (y := Y8) (z := Y8) hown (mvT hZ (tw hw 199 rfl)) (mvT hZ (tw hw 200 rfl)) (notFace_of_selects (args := #[]) (mvT hZ (tw hw 202 rfl))) (mvT hZ (tw hw 202 rfl)) (mvT hZ (tw hw 201 rfl)) (by decide) (backOf (W := 0) (rm_olo1 l Z a0 hw [] w220 (q4 - q3) (0 : Int64) T220.heap n0 Zs221 (Old.keep O0 K220 hws) F_w220_isPresent_220c F_w220_value_220c) hZ (tw hw 203 rfl) (tw hw 3 rfl) (by decide) (by decide)) q222a q222c (g := (mkF m 38 #[rv th, rv rr, rv nw, rv w212, .unset] [(.long (0 : Int64)), (.ref w220)])) rfl (by rw [hml]; rfl) (Steps.refl _) (argsL := [(.long (0 : Int64))]) (rest := []) (lenOf pd_13 rfl) rfl (wle rfl) (hb hby d25_38) (fun _ _ => ⟨rfl, rfl, (by decide : 4 + 0 ≤ _), (by decide : 8 + 0 ≤ _)⟩)
  dsimp only [Pt.U, Pt.locs, Pt.cells, Pt.slots] at X222 l222 y222 z222 st222 hQ222
  subst l222 y222 z222
  obtain ⟨rfl, N222q, e222⟩ := hQ222
  have N222 := Fr.app N220 N222q
  refine gs T222 (mkF m 41 #[rv th, rv rr, rv nw, rv w212, .unset] [(.long (q4 - q3))]) (fun _ hr => st222.trans hr) ?_
  have Zs223 : n0 ≤ T220.heap.size := Nat.le_trans Z0 K220.1
  obtain ⟨_, _, ⟨T224, L224, k224, n224⟩, -, X224, ⟨Lc224, hQ224, l224, y224, z224⟩, st224⟩ := LawKit.callS X222 hx (y := Y3) hown (mvT hZ (tw hw 143 rfl)) (mvT hZ (tw hw 84 rfl)) (mvT hZ (tw hw 3 rfl)) (mvT hZ (tw hw 85 rfl)) (by decide) (backOf (W := 0) (rm_olof l Z a0 hw [] (q4 - q3) T220.heap n0 Zs223 (Old.keep O0 K220 hws)) hZ (tw hw 85 rfl) (tw hw 3 rfl) (by decide) (by decide)) (g := (mkF m 41 #[rv th, rv rr, rv nw, rv w212, .unset] [(.long (q4 - q3))])) rfl (by rw [hml]; rfl) (argsL := [(.long (q4 - q3))]) (rest := []) (lenOf pd_7 rfl) rfl (wle rfl) (hb hby d25_41) (fun _ _ => ⟨rfl, e222, (by decide : 4 + 1 ≤ _), (by decide : 8 + 2 ≤ _)⟩)
  dsimp only [Pt.U, Pt.locs, Pt.cells, Pt.slots] at X224 l224 y224 z224 st224 hQ224
  subst l224 y224 z224
  obtain ⟨w224, rfl, N224q, Kc224, P224_0, P224_1, P224_2, P224_3⟩ := hQ224
  have N224 := Fr.app N222 N224q
  have K224 : Keep h0 T224.heap [] := K220.trans Kc224 all0
  have sz_w224 : h0.size ≤ w224 := Nat.le_trans K220.1 P224_0
  have E_w224_224c : Exa Z T224.heap w224 cOL := P224_1
  have F_w224_isPresent_224c : Fld Z T224.heap w224 cOL nIP "Z" (.int (1 : Int32)) := P224_2
  have F_w224_value_224c : Fld Z T224.heap w224 cOL "value" "J" (.long (q4 - q3)) := P224_3
  refine gs T224 (mkF m 44 #[rv th, rv rr, rv nw, rv w212, .unset] [(.ref w224)]) st224 ?_
  refine gs T224 (mkF m 46 #[rv th, rv rr, rv nw, rv w212, rv w224] []) (fun _ hr => XS.astore X224.here hx rfl (hb hby d25_44) rfl rfl (l' := #[rv th, rv rr, rv nw, rv w212, rv w224]) rfl hr) ?_
  refine gs T224 (mkF m 55 #[rv th, rv rr, rv nw, rv w212, rv w224] []) (fun _ hr => XS.goto X224.here hx rfl (pc0 := 46) (pc' := 55) rfl (hb hby d25_46) (by decide) (by decide) hr) ?_
  refine gs T224 (mkF m 57 #[rv th, rv rr, rv nw, rv w212, rv w224] [(.ref w224)]) (fun _ hr => XS.aload X224.here hx rfl (hb hby d25_55) rfl rfl hr) ?_
  exact Goes.ret (v := some (.ref w224)) X224 (by decide) (by decide) (fun h => by rw [Bd.returns] at h; cases h) (by show Q_rm_beh_p1 Z th rr em q1 q2 op eo nw fu q3 q4 h0 n0 _ T224.heap _; exact ⟨w224, rfl, N224, K224, sz_w224, E_w224_224c, F_w224_isPresent_224c, F_w224_value_224c⟩) (fun fs hr => retOut X224 hx Bd.returns rfl (Or.inr (Or.inr (Or.inr (Or.inr ⟨rfl, rfl, rfl⟩)))) (hb hby d25_57) hr)
def Q_rm_beh_p0 (Z : State) (th : Addr) (rr : Addr) (em : Addr) (q1 : Int64) (q2 : Int64) (op : Addr) (eo : Addr) (nw : Addr) (fu : Addr) (q3 : Int64) (q4 : Int64) (h0 : Heap) (n0 : Nat) (v : Option Value) (h : Heap) (L : List Loc) : Prop := ∃ w : Addr, v = some (.ref w) ∧ Fr n0 L ∧ Keep h0 h [] ∧ h0.size ≤ w ∧ Exa Z h w cOL ∧ Fld Z h w cOL nIP "Z" (.int (1 : Int32)) ∧ Fld Z h w cOL "value" "J" (.long (0 : Int64))
set_option maxRecDepth 65536 in
set_option maxHeartbeats 40000000 in
theorem rm_beh_p0 (l : Launch) (Z : State) (a0 : Array Value) (hw : ∀ d ∈ tables_1, d.before a0 Z = true) (ws : List Jvm.Cond) (th : Addr) (rr : Addr) (em : Addr) (q1 : Int64) (q2 : Int64) (op : Addr) (eo : Addr) (nw : Addr) (fu : Addr) (q3 : Int64) (q4 : Int64) (h0 : Heap) (n0 : Nat) (Z0 : n0 ≤ h0.size) (O0 : Old Z n0 h0) (E_th : Exa Z h0 th cPL) (F_th_offset : Fld Z h0 th cPL "offset" "J" (.long q1)) (F_th_end : Fld Z h0 th cPL "end" "J" (.long q2)) (F_th_records : Fld Z h0 th cPL "records" dOP (.ref op)) (E_op : Exa Z h0 op cOP) (F_op_value : Fld Z h0 op cOP "value" dOB (.ref rr)) (E_rr : Exa Z h0 rr cRR) (F_rr_onlyMarkersLeft : Fld Z h0 rr cRR nOM "Z" (.int (0 : Int32))) (F_rr_firstUnreadTimestamp : Fld Z h0 rr cRR nLT dOL (.ref fu)) (E_fu : Exa Z h0 fu cOL) (F_fu_isPresent : Fld Z h0 fu cOL nIP "Z" (.int (1 : Int32))) (F_fu_value : Fld Z h0 fu cOL "value" "J" (.long q3)) (E_nw : Exa Z h0 nw cOL) (F_nw_isPresent : Fld Z h0 nw cOL nIP "Z" (.int (1 : Int32))) (F_nw_value : Fld Z h0 nw cOL "value" "J" (.long q4)) (S_OptionalLong_EMPTY_old : Sta Z Z.heap cOL "EMPTY" dOL (.ref em)) (E_em_old : Exa Z Z.heap em cOL) (F_em_isPresent_old : Fld Z Z.heap em cOL nIP "Z" (.int (0 : Int32))) (F_em_value_old : Fld Z Z.heap em cOL "value" "J" (.long (0 : Int64))) (S_Optional_EMPTY_old : Sta Z Z.heap cOP "EMPTY" dOP (.ref eo)) (E_eo_old : Exa Z Z.heap eo cOP) (F_eo_value_old : Fld Z Z.heap eo cOP "value" dOB .null) (hle : ¬ ((0 : Int32) < (XT.cmpL q1 q2))) (hpp : (0 : Int32) < (XT.cmpL (q2 - q1) (0 : Int64))) (hmn : ¬ ((XT.cmpL (0 : Int64) (q4 - q3)) < (0 : Int32))) :
    MetFree l Y27 (head1 (Cond.code Y27 prog_13_method_6_code 5 (some (.object cOL)) :: ws) r11) (fun a U => a = #[(.ref th), (.ref rr), (.ref nw)] ∧ Z.Warmed39 U.vm ∧ U.heap = h0) (fun _ _ _ _ _ => True) (fun _ U o U' => ∃ v L, o = .returned v ∧ Q_rm_beh_p0 Z th rr em q1 q2 op eo nw fu q3 q4 h0 n0 v U'.heap L ∧ FrameEnd U o U' L r11.cells r11.slots) := by
  refine MetFree.of_bodySF (plainFor_of_name pn_com_example_log_lag_gauge_loglaggauge_model_PositionLag) hisR ?_
  intro p e s m args below meth c s₁ Bd hml0 hP hK
  obtain ⟨rfl, hZ, hh⟩ := hP
  have hx := Bd.exec
  have hby := Bd.bytes
  have hml : c.maxLocals = 5 := hml0
  have hown : s.vm.findClass cPL = some m.cls := findClass_of_methodNamed Bd.named
  have hnm := (name_of_methodNamed Bd.named Bd.method).1
  have X0 : Stand p l e r11 s m #[(.ref th), (.ref rr), (.ref nw)] below meth c s₁ [] 0 0 := Stand.of_body Bd
  have e0 : s₁.heap = h0 := by rw [← hh, Bd.state]; rfl
  have N0 := Fr.nil n0
  refine Goes.out (l := l) (c := c) (R := r11) (Q := Q_rm_beh_p0 Z th rr em q1 q2 op eo nw fu q3 q4 h0 n0) Bd.notSynchronized ?_
  refine Goes.cast (g2 := mkF m 0 #[rv th, rv rr, rv nw, .unset, .unset] []) (by first | (simp [entryFrame, mkF, argsToLocals, Value.category]; done) | rfl) ?_
  have K0 : Keep h0 h0 [] := Keep.refl h0 _
  have hws : ∀ x ∈ ([] : List Addr), n0 ≤ x := all0
  refine gs s₁ (mkF m 1 #[rv th, rv rr, rv nw, .unset, .unset] [(.ref th)]) (fun _ hr => XS.aloadN X0.here hx rfl (hb hby d25_0) rfl rfl hr) ?_
  have Zs225 : n0 ≤ h0.size := Nat.le_trans Z0 K0.1
  obtain ⟨cq226, kq226, q226a, q226b, q226c⟩ := isOf hZ e0 E_th
  obtain ⟨_, _, ⟨T226, L226, k226, n226⟩, -, X226, ⟨Lc226, hQ226, l226, y226, z226⟩, st226⟩ := X0.virtualBack hx (y := Y26) (z := Y26) hown (mvT hZ (tw hw 138 rfl)) (mvT hZ (tw hw 139 rfl)) (notFace_of_selects (args := #[]) (mvT hZ (tw hw 141 rfl))) (mvT hZ (tw hw 141 rfl)) (mvT hZ (tw hw 140 rfl)) (by decide) (backOf (W := 0) (rm_lag0 l Z a0 hw [] th op rr em eo q1 q2 h0 n0 Zs225 (Old.keep O0 K0 hws) E_th F_th_offset F_th_end F_th_records E_op F_op_value E_rr F_rr_onlyMarkersLeft S_OptionalLong_EMPTY_old E_em_old F_em_isPresent_old F_em_value_old S_Optional_EMPTY_old E_eo_old F_eo_value_old hle) hZ (tw hw 142 rfl) (tw hw 13 rfl) (by decide) (by decide)) q226a q226c (g := (mkF m 1 #[rv th, rv rr, rv nw, .unset, .unset] [(.ref th)])) rfl (by rw [hml]; rfl) (Steps.refl _) (argsL := []) (rest := []) (lenOf pd_6 rfl) rfl (wle rfl) (hb hby d25_1) (fun _ _ => ⟨rfl, e0, (by decide : 0 + 3 ≤ _), (by decide : 0 + 6 ≤ _)⟩)
  dsimp only [Pt.U, Pt.locs, Pt.cells, Pt.slots] at X226 l226 y226 z226 st226 hQ226
  subst l226 y226 z226
  obtain ⟨w226, rfl, N226q, Kc226, P226_0, P226_1, P226_2, P226_3⟩ := hQ226
  have N226 := Fr.app N0 N226q
  have E_rr_226 : Exa Z T226.heap rr cRR := E_rr.keep Kc226
  have F_rr_firstUnreadTimestamp_226 : Fld Z T226.heap rr cRR nLT dOL (.ref fu) := F_rr_firstUnreadTimestamp.keep Kc226 nin0
  have E_fu_226 : Exa Z T226.heap fu cOL := E_fu.keep Kc226
  have F_fu_isPresent_226 : Fld Z T226.heap fu cOL nIP "Z" (.int (1 : Int32)) := F_fu_isPresent.keep Kc226 nin0
  have F_fu_value_226 : Fld Z T226.heap fu cOL "value" "J" (.long q3) := F_fu_value.keep Kc226 nin0
  have E_nw_226 : Exa Z T226.heap nw cOL := E_nw.keep Kc226
  have F_nw_isPresent_226 : Fld Z T226.heap nw cOL nIP "Z" (.int (1 : Int32)) := F_nw_isPresent.keep Kc226 nin0
  have F_nw_value_226 : Fld Z T226.heap nw cOL "value" "J" (.long q4) := F_nw_value.keep Kc226 nin0
  have K226 : Keep h0 T226.heap [] := K0.trans Kc226 all0
  have E_w226_226c : Exa Z T226.heap w226 cOL := P226_1
  have F_w226_isPresent_226c : Fld Z T226.heap w226 cOL nIP "Z" (.int (1 : Int32)) := P226_2
  have F_w226_value_226c : Fld Z T226.heap w226 cOL "value" "J" (.long (q2 - q1)) := P226_3
  refine gs T226 (mkF m 4 #[rv th, rv rr, rv nw, .unset, .unset] [(.ref w226)]) (fun _ hr => st226.trans hr) ?_
  refine gs T226 (mkF m 5 #[rv th, rv rr, rv nw, rv w226, .unset] []) (fun _ hr => XS.astoreN X226.here hx rfl (hb hby d25_4) rfl rfl (l' := #[rv th, rv rr, rv nw, rv w226, .unset]) rfl hr) ?_
  refine gs T226 (mkF m 6 #[rv th, rv rr, rv nw, rv w226, .unset] [(.ref w226)]) (fun _ hr => XS.aloadN X226.here hx rfl (hb hby d25_5) rfl rfl hr) ?_
  have Zs227 : n0 ≤ T226.heap.size := Nat.le_trans Z0 K226.1
  obtain ⟨cq228, kq228, q228a, q228b, q228c⟩ := isOf hZ rfl E_w226_226c
  obtain ⟨_, _, ⟨T228, L228, k228, n228⟩, -, X228, ⟨Lc228, hQ228, l228, y228, z228⟩, st228⟩ := X226.virtualBack hx (y := Y6) (z := Y6) hown (mvT hZ (tw hw 160 rfl)) (mvT hZ (tw hw 77 rfl)) (notFace_of_selects (args := #[]) (mvT hZ (tw hw 79 rfl))) (mvT hZ (tw hw 79 rfl)) (mvT hZ (tw hw 78 rfl)) (by decide) (backOf (W := 0) (rm_ole1 l Z a0 hw [] w226 T226.heap n0 Zs227 (Old.keep O0 K226 hws) F_w226_isPresent_226c) hZ (tw hw 80 rfl) (tw hw 3 rfl) (by decide) (by decide)) q228a q228c (g := (mkF m 6 #[rv th, rv rr, rv nw, rv w226, .unset] [(.ref w226)])) rfl (by rw [hml]; rfl) (Steps.refl _) (argsL := []) (rest := []) (lenOf pd_1 rfl) rfl (wle rfl) (hb hby d25_6) (fun _ _ => ⟨rfl, rfl, (by decide : 3 + 0 ≤ _), (by decide : 6 + 0 ≤ _)⟩)
  dsimp only [Pt.U, Pt.locs, Pt.cells, Pt.slots] at X228 l228 y228 z228 st228 hQ228
  subst l228 y228 z228
  obtain ⟨rfl, N228q, e228⟩ := hQ228
  have N228 := Fr.app N226 N228q
  refine gs T228 (mkF m 9 #[rv th, rv rr, rv nw, rv w226, .unset] [(.int (0 : Int32))]) (fun _ hr => st228.trans hr) ?_
  refine gs T228 (mkF m 20 #[rv th, rv rr, rv nw, rv w226, .unset] []) (fun _ hr => XS.ifYes X228.here hx rfl (pc0 := 9) (pc' := 20) rfl (hb hby d25_9) rfl ((if0 _ _).trans (teq (by decide : (0 : Int32) = (0 : Int32))).1) (by decide) (by decide) hr) ?_
  refine gs T228 (mkF m 21 #[rv th, rv rr, rv nw, rv w226, .unset] [(.ref w226)]) (fun _ hr => XS.aloadN X228.here hx rfl (hb hby d25_20) rfl rfl hr) ?_
  have Zs229 : n0 ≤ T226.heap.size := Nat.le_trans Z0 K226.1
  obtain ⟨cq230, kq230, q230a, q230b, q230c⟩ := isOf hZ e228 E_w226_226c
  obtain ⟨_, _, ⟨T230, L230, k230, n230⟩, -, X230, ⟨Lc230, hQ230, l230, y230, z230⟩, st230⟩ := X228.virtualBack hx (y := Y7) (z := Y7) hown (mvT hZ (tw hw 184 rfl)) (mvT hZ (tw hw 150 rfl)) (notFace_of_selects (args := #[]) (mvT hZ (tw hw 152 rfl))) (mvT hZ (tw hw 152 rfl)) (mvT hZ (tw hw 151 rfl)) (by decide) (backOf (W := 0) (rm_olg l Z a0 hw [] w226 (q2 - q1) T226.heap n0 Zs229 (Old.keep O0 K226 hws) F_w226_isPresent_226c F_w226_value_226c) hZ (tw hw 153 rfl) (tw hw 3 rfl) (by decide) (by decide)) q230a q230c (g := (mkF m 21 #[rv th, rv rr, rv nw, rv w226, .unset] [(.ref w226)])) rfl (by rw [hml]; rfl) (Steps.refl _) (argsL := []) (rest := []) (lenOf pd_5 rfl) rfl (wle rfl) (hb hby d25_21) (fun _ _ => ⟨rfl, e228, (by decide : 3 + 0 ≤ _), (by decide : 6 + 0 ≤ _)⟩)
  dsimp only [Pt.U, Pt.locs, Pt.cells, Pt.slots] at X230 l230 y230 z230 st230 hQ230
  subst l230 y230 z230
  obtain ⟨rfl, N230q, e230⟩ := hQ230
  have N230 := Fr.app N228 N230q
  refine gs T230 (mkF m 24 #[rv th, rv rr, rv nw, rv w226, .unset] [(.long (q2 - q1))]) (fun _ hr => st230.trans hr) ?_
  refine gs T230 (mkF m 25 #[rv th, rv rr, rv nw, rv w226, .unset] [(.long (0 : Int64)), (.long (q2 - q1))]) (fun _ hr => XT.lconst X230.here hx rfl (hb hby d25_24) hr) ?_
  refine gs T230 (mkF m 26 #[rv th, rv rr, rv nw, rv w226, .unset] [(.int (XT.cmpL (q2 - q1) (0 : Int64)))]) (fun _ hr => XT.lcmp X230.here hx rfl (hb hby d25_25) rfl hr) ?_
  refine gs T230 (mkF m 29 #[rv th, rv rr, rv nw, rv w226, .unset] []) (fun _ hr => XS.ifNo X230.here hx rfl (hb hby d25_26) rfl ((if0 _ _).trans (tlt (hpp : (0 : Int32) < (XT.cmpL (q2 - q1) (0 : Int64)))).2.2.2) hr) ?_
  refine gs T230 (mkF m 30 #[rv th, rv rr, rv nw, rv w226, .unset] [(.ref nw)]) (fun _ hr => XS.aloadN X230.here hx rfl (hb hby d25_29) rfl rfl hr) ?_
  refine gs T230 (mkF m 31 #[rv th, rv rr, rv nw, rv w226, .unset] [(.ref rr), (.ref nw)]) (fun _ hr => XS.aloadN X230.here hx rfl (hb hby d25_30) rfl rfl hr) ?_
  have Zs231 : n0 ≤ T226.heap.size := Nat.le_trans Z0 K226.1
  obtain ⟨cq232, kq232, q232a, q232b, q232c⟩ := isOf hZ e230 E_rr_226
  obtain ⟨_, _, ⟨T232, L232, k232, n232⟩, -, X232, ⟨Lc232, hQ232, l232, y232, z232⟩, st232⟩ := X230.virtualBack hx (y := Y11) (z := Y11) hown (mvT hZ (tw hw 187 rfl)) (mvT hZ (tw hw 188 rfl)) (notFace_of_selects (args := #[]) (mvT hZ (tw hw 190 rfl))) (mvT hZ (tw hw 190 rfl)) (mvT hZ (tw hw 189 rfl)) (by decide) (backOf (W := 1) (rm_firstUnreadTimestamp l Z a0 hw [] rr fu T226.heap n0 Zs231 (Old.keep O0 K226 hws) F_rr_firstUnreadTimestamp_226) hZ (tw hw 191 rfl) (tw hw 96 rfl) (by decide) (by decide)) q232a q232c (g := (mkF m 31 #[rv th, rv rr, rv nw, rv w226, .unset] [(.ref rr), (.ref nw)])) rfl (by rw [hml]; rfl) (Steps.refl _) (argsL := []) (rest := [(.ref nw)]) (lenOf pd_6 rfl) rfl (wle rfl) (hb hby d25_31) (fun _ _ => ⟨rfl, e230, (by decide : 3 + 0 ≤ _), (by decide : 6 + 0 ≤ _)⟩)
  dsimp only [Pt.U, Pt.locs, Pt.cells, Pt.slots] at X232 l232 y232 z232 st232 hQ232
  subst l232 y232 z232
  obtain ⟨rfl, N232q, e232⟩ := hQ232
  have N232 := Fr.app N230 N232q
  refine gs T232 (mkF m 34 #[rv th, rv rr, rv nw, rv w226, .unset] [(.ref fu), (.ref nw)]) (fun _ hr => st232.trans hr) ?_
  have Zs233 : n0 ≤ T226.heap.size := Nat.le_trans Z0 K226.1
  obtain ⟨_, _, ⟨T234, L234, k234, n234⟩, -, X234, ⟨Lc234, hQ234, l234, y234, z234⟩, st234⟩ := LawKit.callS X232 hx (y := Y23) hown (mvT hZ (tw hw 192 rfl)) (mvT hZ (tw hw 193 rfl)) (mvT hZ (tw hw 146 rfl)) (mvT hZ (tw hw 194 rfl)) (by decide) (backOf (W := 0) (rm_ms110 l Z a0 hw [] nw fu q3 q4 em T226.heap n0 Zs233 (Old.keep O0 K226 hws) E_nw_226 F_nw_isPresent_226 F_nw_value_226 E_fu_226 F_fu_isPresent_226 F_fu_value_226 S_OptionalLong_EMPTY_old E_em_old F_em_isPresent_old F_em_value_old hmn) hZ (tw hw 194 rfl) (tw hw 146 rfl) (by decide) (by decide)) (g := (mkF m 34 #[rv th, rv rr, rv nw, rv w226, .unset] [(.ref fu), (.ref nw)])) rfl (by rw [hml]; rfl) (argsL := [(.ref nw), (.ref fu)]) (rest := []) (lenOf pd_11 rfl) rfl (wle rfl) (hb hby d25_34) (fun _ _ => ⟨rfl, e232, (by decide : 3 + 1 ≤ _), (by decide : 6 + 2 ≤ _)⟩)
  dsimp only [Pt.U, Pt.locs, Pt.cells, Pt.slots] at X234 l234 y234 z234 st234 hQ234
  subst l234 y234 z234
  obtain ⟨w234, rfl, N234q, Kc234, P234_0, P234_1, P234_2, P234_3⟩ := hQ234
  have N234 := Fr.app N232 N234q
  have K234 : Keep h0 T234.heap [] := K226.trans Kc234 all0
  have E_w234_234c : Exa Z T234.heap w234 cOL := P234_1
  have F_w234_isPresent_234c : Fld Z T234.heap w234 cOL nIP "Z" (.int (1 : Int32)) := P234_2
  have F_w234_value_234c : Fld Z T234.heap w234 cOL "value" "J" (.long (0 : Int64)) := P234_3
  refine gs T234 (mkF m 37 #[rv th, rv rr, rv nw, rv w226, .unset] [(.ref w234)]) st234 ?_
  refine gs T234 (mkF m 38 #[rv th, rv rr, rv nw, rv w226, .unset] [(.long (0 : Int64)), (.ref w234)]) (fun _ hr => XT.lconst X234.here hx rfl (hb hby d25_37) hr) ?_
  have Zs235 : n0 ≤ T234.heap.size := Nat.le_trans Z0 K234.1
  obtain ⟨cq236, kq236, q236a, q236b, q236c⟩ := isOf hZ rfl E_w234_234c
  obtain ⟨_, _, ⟨T236, L236, k236, n236⟩, -, X236, ⟨Lc236, hQ236, l236, y236, z236⟩, st236⟩ := X234.virtualBack hx (y := Y8) (z := Y8) hown (mvT hZ (tw hw 199 rfl)) (mvT hZ (tw hw 200 rfl)) (notFace_of_selects (args := #[]) (mvT hZ (tw hw 202 rfl))) (mvT hZ (tw hw 202 rfl)) (mvT hZ (tw hw 201 rfl)) (by decide) (backOf (W := 0) (rm_olo1 l Z a0 hw [] w234 (0 : Int64) (0 : Int64) T234.heap n0 Zs235 (Old.keep O0 K234 hws) F_w234_isPresent_234c F_w234_value_234c) hZ (tw hw 203 rfl) (tw hw 3 rfl) (by decide) (by decide)) q236a q236c (g := (mkF m 38 #[rv th, rv rr, rv nw, rv w226, .unset] [(.long (0 : Int64)), (.ref w234)])) rfl (by rw [hml]; rfl) (Steps.refl _) (argsL := [(.long (0 : Int64))]) (rest := []) (lenOf pd_13 rfl) rfl (wle rfl) (hb hby d25_38) (fun _ _ => ⟨rfl, rfl, (by decide : 4 + 0 ≤ _), (by decide : 8 + 0 ≤ _)⟩)
  dsimp only [Pt.U, Pt.locs, Pt.cells, Pt.slots] at X236 l236 y236 z236 st236 hQ236
  subst l236 y236 z236
  obtain ⟨rfl, N236q, e236⟩ := hQ236
  have N236 := Fr.app N234 N236q
  refine gs T236 (mkF m 41 #[rv th, rv rr, rv nw, rv w226, .unset] [(.long (0 : Int64))]) (fun _ hr => st236.trans hr) ?_
  have Zs237 : n0 ≤ T234.heap.size := Nat.le_trans Z0 K234.1
  obtain ⟨_, _, ⟨T238, L238, k238, n238⟩, -, X238, ⟨Lc238, hQ238, l238, y238, z238⟩, st238⟩ := LawKit.callS X236 hx (y := Y3) hown (mvT hZ (tw hw 143 rfl)) (mvT hZ (tw hw 84 rfl)) (mvT hZ (tw hw 3 rfl)) (mvT hZ (tw hw 85 rfl)) (by decide) (backOf (W := 0) (rm_olof l Z a0 hw [] (0 : Int64) T234.heap n0 Zs237 (Old.keep O0 K234 hws)) hZ (tw hw 85 rfl) (tw hw 3 rfl) (by decide) (by decide)) (g := (mkF m 41 #[rv th, rv rr, rv nw, rv w226, .unset] [(.long (0 : Int64))])) rfl (by rw [hml]; rfl) (argsL := [(.long (0 : Int64))]) (rest := []) (lenOf pd_7 rfl) rfl (wle rfl) (hb hby d25_41) (fun _ _ => ⟨rfl, e236, (by decide : 4 + 1 ≤ _), (by decide : 8 + 2 ≤ _)⟩)
  dsimp only [Pt.U, Pt.locs, Pt.cells, Pt.slots] at X238 l238 y238 z238 st238 hQ238
  subst l238 y238 z238
  obtain ⟨w238, rfl, N238q, Kc238, P238_0, P238_1, P238_2, P238_3⟩ := hQ238
  have N238 := Fr.app N236 N238q
  have K238 : Keep h0 T238.heap [] := K234.trans Kc238 all0
  have sz_w238 : h0.size ≤ w238 := Nat.le_trans K234.1 P238_0
  have E_w238_238c : Exa Z T238.heap w238 cOL := P238_1
  have F_w238_isPresent_238c : Fld Z T238.heap w238 cOL nIP "Z" (.int (1 : Int32)) := P238_2
  have F_w238_value_238c : Fld Z T238.heap w238 cOL "value" "J" (.long (0 : Int64)) := P238_3
  refine gs T238 (mkF m 44 #[rv th, rv rr, rv nw, rv w226, .unset] [(.ref w238)]) st238 ?_
  refine gs T238 (mkF m 46 #[rv th, rv rr, rv nw, rv w226, rv w238] []) (fun _ hr => XS.astore X238.here hx rfl (hb hby d25_44) rfl rfl (l' := #[rv th, rv rr, rv nw, rv w226, rv w238]) rfl hr) ?_
  refine gs T238 (mkF m 55 #[rv th, rv rr, rv nw, rv w226, rv w238] []) (fun _ hr => XS.goto X238.here hx rfl (pc0 := 46) (pc' := 55) rfl (hb hby d25_46) (by decide) (by decide) hr) ?_
  refine gs T238 (mkF m 57 #[rv th, rv rr, rv nw, rv w226, rv w238] [(.ref w238)]) (fun _ hr => XS.aload X238.here hx rfl (hb hby d25_55) rfl rfl hr) ?_
  exact Goes.ret (v := some (.ref w238)) X238 (by decide) (by decide) (fun h => by rw [Bd.returns] at h; cases h) (by show Q_rm_beh_p0 Z th rr em q1 q2 op eo nw fu q3 q4 h0 n0 _ T238.heap _; exact ⟨w238, rfl, N238, K238, sz_w238, E_w238_238c, F_w238_isPresent_238c, F_w238_value_238c⟩) (fun fs hr => retOut X238 hx Bd.returns rfl (Or.inr (Or.inr (Or.inr (Or.inr ⟨rfl, rfl, rfl⟩)))) (hb hby d25_57) hr)
theorem d26_0 : decode prog_13_method_14_code 0 = .ok (.aload_n 0, 1) := by decide +kernel
theorem d26_1 : decode prog_13_method_14_code 1 = .ok (.aload_n 1, 1) := by decide +kernel
theorem d26_2 : decode prog_13_method_14_code 2 = .ok (.aload_n 1, 1) := by decide +kernel
theorem d26_3 : decode prog_13_method_14_code 3 = .ok (.invokevirtual 108, 3) := by decide +kernel
theorem d26_6 : decode prog_13_method_14_code 6 = .ok (.invokevirtual 104, 3) := by decide +kernel
theorem d26_9 : decode prog_13_method_14_code 9 = .ok (.areturn, 1) := by decide +kernel
def Q_rm_lam_gt (Z : State) (th : Addr) (rr : Addr) (em : Addr) (q1 : Int64) (q2 : Int64) (nw : Addr) (h0 : Heap) (n0 : Nat) (v : Option Value) (h : Heap) (L : List Loc) : Prop := v = some (.ref em) ∧ Fr n0 L ∧ Keep h0 h []
set_option maxRecDepth 65536 in
set_option maxHeartbeats 40000000 in
theorem rm_lam_gt (l : Launch) (Z : State) (a0 : Array Value) (hw : ∀ d ∈ tables_1, d.before a0 Z = true) (ws : List Jvm.Cond) (th : Addr) (rr : Addr) (em : Addr) (q1 : Int64) (q2 : Int64) (nw : Addr) (h0 : Heap) (n0 : Nat) (Z0 : n0 ≤ h0.size) (O0 : Old Z n0 h0) (E_th : Exa Z h0 th cPL) (F_th_offset : Fld Z h0 th cPL "offset" "J" (.long q1)) (F_th_end : Fld Z h0 th cPL "end" "J" (.long q2)) (E_rr : Exa Z h0 rr cRR) (F_rr_newestTimestamp : Fld Z h0 rr cRR nNT dOL (.ref nw)) (S_OptionalLong_EMPTY_old : Sta Z Z.heap cOL "EMPTY" dOL (.ref em)) (E_em_old : Exa Z Z.heap em cOL) (F_em_isPresent_old : Fld Z Z.heap em cOL nIP "Z" (.int (0 : Int32))) (F_em_value_old : Fld Z Z.heap em cOL "value" "J" (.long (0 : Int64))) (hgt : (0 : Int32) < (XT.cmpL q1 q2)) :
    MetFree l Y0 (head1 (Cond.code Y0 prog_13_method_14_code 2 (some (.object cOL)) :: ws) r13) (fun a U => a = #[(.ref th), (.ref rr)] ∧ Z.Warmed39 U.vm ∧ U.heap = h0) (fun _ _ _ _ _ => True) (fun _ U o U' => ∃ v L, o = .returned v ∧ Q_rm_lam_gt Z th rr em q1 q2 nw h0 n0 v U'.heap L ∧ FrameEnd U o U' L r13.cells r13.slots) := by
  refine MetFree.of_bodySF (plainFor_of_name pn_com_example_log_lag_gauge_loglaggauge_model_PositionLag) hisR ?_
  intro p e s m args below meth c s₁ Bd hml0 hP hK
  obtain ⟨rfl, hZ, hh⟩ := hP
  have hx := Bd.exec
  have hby := Bd.bytes
  have hml : c.maxLocals = 2 := hml0
  have hown : s.vm.findClass cPL = some m.cls := findClass_of_methodNamed Bd.named
  have hnm := (name_of_methodNamed Bd.named Bd.method).1
  have X0 : Stand p l e r13 s m #[(.ref th), (.ref rr)] below meth c s₁ [] 0 0 := Stand.of_body Bd
  have e0 : s₁.heap = h0 := by rw [← hh, Bd.state]; rfl
  have N0 := Fr.nil n0
  refine Goes.out (l := l) (c := c) (R := r13) (Q := Q_rm_lam_gt Z th rr em q1 q2 nw h0 n0) Bd.notSynchronized ?_
  refine Goes.cast (g2 := mkF m 0 #[rv th, rv rr] []) (by first | (simp [entryFrame, mkF, argsToLocals, Value.category]; done) | rfl) ?_
  have K0 : Keep h0 h0 [] := Keep.refl h0 _
  have hws : ∀ x ∈ ([] : List Addr), n0 ≤ x := all0
  refine gs s₁ (mkF m 1 #[rv th, rv rr] [(.ref th)]) (fun _ hr => XS.aloadN X0.here hx rfl (hb hby d26_0) rfl rfl hr) ?_
  refine gs s₁ (mkF m 2 #[rv th, rv rr] [(.ref rr), (.ref th)]) (fun _ hr => XS.aloadN X0.here hx rfl (hb hby d26_1) rfl rfl hr) ?_
  refine gs s₁ (mkF m 3 #[rv th, rv rr] [(.ref rr), (.ref rr), (.ref th)]) (fun _ hr => XS.aloadN X0.here hx rfl (hb hby d26_2) rfl rfl hr) ?_
  have Zs239 : n0 ≤ h0.size := Nat.le_trans Z0 K0.1
  obtain ⟨cq240, kq240, q240a, q240b, q240c⟩ := isOf hZ e0 E_rr
  obtain ⟨_, _, ⟨T240, L240, k240, n240⟩, -, X240, ⟨Lc240, hQ240, l240, y240, z240⟩, st240⟩ := X0.virtualBack hx (y := Y12) (z := Y12) hown (mvT hZ (tw hw 129 rfl)) (mvT hZ (tw hw 130 rfl)) (notFace_of_selects (args := #[]) (mvT hZ (tw hw 132 rfl))) (mvT hZ (tw hw 132 rfl)) (mvT hZ (tw hw 131 rfl)) (by decide) (backOf (W := 2) (rm_newestTimestamp l Z a0 hw [] rr nw h0 n0 Zs239 (Old.keep O0 K0 hws) F_rr_newestTimestamp) hZ (tw hw 133 rfl) (tw hw 96 rfl) (by decide) (by decide)) q240a q240c (g := (mkF m 3 #[rv th, rv rr] [(.ref rr), (.ref rr), (.ref th)])) rfl (by rw [hml]; rfl) (Steps.refl _) (argsL := []) (rest := [(.ref rr), (.ref th)]) (lenOf pd_6 rfl) rfl (wle rfl) (hb hby d26_3) (fun _ _ => ⟨rfl, e0, (by decide : 0 + 0 ≤ _), (by decide : 0 + 0 ≤ _)⟩)
  dsimp only [Pt.U, Pt.locs, Pt.cells, Pt.slots] at X240 l240 y240 z240 st240 hQ240
  subst l240 y240 z240
  obtain ⟨rfl, N240q, e240⟩ := hQ240
  have N240 := Fr.app N0 N240q
  refine gs T240 (mkF m 6 #[rv th, rv rr] [(.ref nw), (.ref rr), (.ref th)]) (fun _ hr => st240.trans hr) ?_
  have Zs241 : n0 ≤ h0.size := Nat.le_trans Z0 K0.1
  obtain ⟨cl242, kl242, q242a, -, -, q242d, -⟩ := id E_th
  obtain ⟨_, _, ⟨T242, L242, k242, n242⟩, -, X242, ⟨Lc242, hQ242, l242, y242, z242⟩, st242⟩ := X240.privateBack hx (y := Y27) hown (mvT hZ (tw hw 134 rfl)) (mvT hZ (tw hw 135 rfl)) (own_selP (mvT hZ (tw hw 12 rfl)) (mvT hZ (tw hw 136 rfl)) (mvT hZ (tw hw 135 rfl)) (by decide)) (Cond.privateMethod_at (args := #[]) (mvT hZ (tw hw 136 rfl))) (mvT hZ (tw hw 137 rfl)) (by decide) (backOf (W := 0) (rm_beh_gt l Z a0 hw [] th rr em q1 q2 nw h0 n0 Zs241 (Old.keep O0 K0 hws) E_th F_th_offset F_th_end S_OptionalLong_EMPTY_old E_em_old F_em_isPresent_old F_em_value_old hgt) hZ (tw hw 137 rfl) (tw hw 13 rfl) (by decide) (by decide)) (g := (mkF m 6 #[rv th, rv rr] [(.ref nw), (.ref rr), (.ref th)])) rfl (by rw [hml]; rfl) (Steps.refl _) (own_at e240 q242a) (fun q z => by rw [z] at q242d; cases q242d) (argsL := [(.ref rr), (.ref nw)]) (rest := []) (lenOf pd_14 rfl) rfl (wle rfl) (hb hby d26_6) (fun _ _ => ⟨rfl, e240, (by decide : 0 + 2 ≤ _), (by decide : 0 + 4 ≤ _)⟩)
  dsimp only [Pt.U, Pt.locs, Pt.cells, Pt.slots] at X242 l242 y242 z242 st242 hQ242
  subst l242 y242 z242
  obtain ⟨rfl, N242q, Kc242⟩ := hQ242
  have N242 := Fr.app N240 N242q
  have K242 : Keep h0 T242.heap [] := K0.trans Kc242 all0
  refine gs T242 (mkF m 9 #[rv th, rv rr] [(.ref em)]) (fun _ hr => st242.trans hr) ?_
  exact Goes.ret (v := some (.ref em)) X242 (by decide) (by decide) (fun h => by rw [Bd.returns] at h; cases h) (by show Q_rm_lam_gt Z th rr em q1 q2 nw h0 n0 _ T242.heap _; exact ⟨rfl, N242, K242⟩) (fun fs hr => retOut X242 hx Bd.returns rfl (Or.inr (Or.inr (Or.inr (Or.inr ⟨rfl, rfl, rfl⟩)))) (hb hby d26_9) hr)
theorem d27_0 : decode jdk_32_method_11_code 0 = .ok (.aload_n 1, 1) := by decide +kernel
theorem d27_1 : decode jdk_32_method_11_code 1 = .ok (.invokestatic 17, 3) := by decide +kernel
theorem d27_4 : decode jdk_32_method_11_code 4 = .ok (.pop, 1) := by decide +kernel
theorem d27_5 : decode jdk_32_method_11_code 5 = .ok (.aload_n 0, 1) := by decide +kernel
theorem d27_6 : decode jdk_32_method_11_code 6 = .ok (.invokevirtual 43, 3) := by decide +kernel
theorem d27_9 : decode jdk_32_method_11_code 9 = .ok (.ifCond .eq 7, 3) := by decide +kernel
theorem d27_16 : decode jdk_32_method_11_code 16 = .ok (.aload_n 1, 1) := by decide +kernel
theorem d27_17 : decode jdk_32_method_11_code 17 = .ok (.aload_n 0, 1) := by decide +kernel
theorem d27_18 : decode jdk_32_method_11_code 18 = .ok (.getfield 13, 3) := by decide +kernel
theorem d27_21 : decode jdk_32_method_11_code 21 = .ok (.invokeinterface 57 2, 5) := by decide +kernel
theorem d27_26 : decode jdk_32_method_11_code 26 = .ok (.invokestatic 62, 3) := by decide +kernel
theorem d27_29 : decode jdk_32_method_11_code 29 = .ok (.areturn, 1) := by decide +kernel
def Q_rm_map_gt (Z : State) (th : Addr) (rr : Addr) (em : Addr) (q1 : Int64) (q2 : Int64) (nw : Addr) (op : Addr) (eo : Addr) (fa : Addr) (cK : ClassId) (h0 : Heap) (n0 : Nat) (v : Option Value) (h : Heap) (L : List Loc) : Prop := ∃ w : Addr, v = some (.ref w) ∧ Fr n0 L ∧ Keep h0 h [] ∧ h0.size ≤ w ∧ Exa Z h w cOP ∧ Fld Z h w cOP "value" dOB (.ref em)
set_option maxRecDepth 65536 in
set_option maxHeartbeats 40000000 in
theorem rm_map_gt (l : Launch) (Z : State) (a0 : Array Value) (hw : ∀ d ∈ tables_1, d.before a0 Z = true) (ws : List Jvm.Cond) (th : Addr) (rr : Addr) (em : Addr) (q1 : Int64) (q2 : Int64) (nw : Addr) (op : Addr) (eo : Addr) (fa : Addr) (cK : ClassId) (h0 : Heap) (n0 : Nat) (Z0 : n0 ≤ h0.size) (O0 : Old Z n0 h0) (E_th : Exa Z h0 th cPL) (F_th_offset : Fld Z h0 th cPL "offset" "J" (.long q1)) (F_th_end : Fld Z h0 th cPL "end" "J" (.long q2)) (E_rr : Exa Z h0 rr cRR) (F_rr_newestTimestamp : Fld Z h0 rr cRR nNT dOL (.ref nw)) (E_op : Exa Z h0 op cOP) (F_op_value : Fld Z h0 op cOP "value" dOB (.ref rr)) (G_fa : FnV h0 fa cK #[(.ref th)]) (S_OptionalLong_EMPTY_old : Sta Z Z.heap cOL "EMPTY" dOL (.ref em)) (E_em_old : Exa Z Z.heap em cOL) (F_em_isPresent_old : Fld Z Z.heap em cOL nIP "Z" (.int (0 : Int32))) (F_em_value_old : Fld Z Z.heap em cOL "value" "J" (.long (0 : Int64))) (S_Optional_EMPTY_old : Sta Z Z.heap cOP "EMPTY" dOP (.ref eo)) (E_eo_old : Exa Z Z.heap eo cOP) (F_eo_value_old : Fld Z Z.heap eo cOP "value" dOB .null) (hgt : (0 : Int32) < (XT.cmpL q1 q2)) (Md : Jvm.LamKit.Made Z cPL sgA cK) :
    MetFree l Y29 (head1 (Cond.code Y29 jdk_32_method_11_code 2 (some (.object cOP)) :: ws) r14) (fun a U => a = #[(.ref op), (.ref fa)] ∧ Z.Warmed39 U.vm ∧ U.heap = h0) (fun _ _ _ _ _ => True) (fun _ U o U' => ∃ v L, o = .returned v ∧ Q_rm_map_gt Z th rr em q1 q2 nw op eo fa cK h0 n0 v U'.heap L ∧ FrameEnd U o U' L r14.cells r14.slots) := by
  refine MetFree.of_bodySF (plainFor_of_name pn_java_util_Optional) hisR ?_
  intro p e s m args below meth c s₁ Bd hml0 hP hK
  obtain ⟨rfl, hZ, hh⟩ := hP
  have hx := Bd.exec
  have hby := Bd.bytes
  have hml : c.maxLocals = 2 := hml0
  have hown : s.vm.findClass cOP = some m.cls := findClass_of_methodNamed Bd.named
  have hnm := (name_of_methodNamed Bd.named Bd.method).1
  have X0 : Stand p l e r14 s m #[(.ref op), (.ref fa)] below meth c s₁ [] 0 0 := Stand.of_body Bd
  have e0 : s₁.heap = h0 := by rw [← hh, Bd.state]; rfl
  have N0 := Fr.nil n0
  refine Goes.out (l := l) (c := c) (R := r14) (Q := Q_rm_map_gt Z th rr em q1 q2 nw op eo fa cK h0 n0) Bd.notSynchronized ?_
  refine Goes.cast (g2 := mkF m 0 #[rv op, rv fa] []) (by first | (simp [entryFrame, mkF, argsToLocals, Value.category]; done) | rfl) ?_
  have K0 : Keep h0 h0 [] := Keep.refl h0 _
  have hws : ∀ x ∈ ([] : List Addr), n0 ≤ x := all0
  refine gs s₁ (mkF m 1 #[rv op, rv fa] [(.ref fa)]) (fun _ hr => XS.aloadN X0.here hx rfl (hb hby d27_0) rfl rfl hr) ?_
  have Zs243 : n0 ≤ h0.size := Nat.le_trans Z0 K0.1
  obtain ⟨_, _, ⟨T244, L244, k244, n244⟩, -, X244, ⟨Lc244, hQ244, l244, y244, z244⟩, st244⟩ := LawKit.callS X0 hx (y := Y13) hown (mvT hZ (tw hw 57 rfl)) (mvT hZ (tw hw 58 rfl)) (mvT hZ (tw hw 35 rfl)) (mvT hZ (tw hw 59 rfl)) (by decide) (backOf (W := 0) (rm_rnn1 l Z a0 hw [] fa h0 n0 Zs243 (Old.keep O0 K0 hws)) hZ (tw hw 59 rfl) (tw hw 35 rfl) (by decide) (by decide)) (g := (mkF m 1 #[rv op, rv fa] [(.ref fa)])) rfl (by rw [hml]; rfl) (argsL := [(.ref fa)]) (rest := []) (lenOf pd_3 rfl) rfl (wle rfl) (hb hby d27_1) (fun _ _ => ⟨rfl, e0, (by decide : 0 + 0 ≤ _), (by decide : 0 + 0 ≤ _)⟩)
  dsimp only [Pt.U, Pt.locs, Pt.cells, Pt.slots] at X244 l244 y244 z244 st244 hQ244
  subst l244 y244 z244
  obtain ⟨rfl, N244q, e244⟩ := hQ244
  have N244 := Fr.app N0 N244q
  refine gs T244 (mkF m 4 #[rv op, rv fa] [(.ref fa)]) st244 ?_
  refine gs T244 (mkF m 5 #[rv op, rv fa] []) (fun _ hr => XT.pop X244.here hx rfl (hb hby d27_4) rfl rfl hr) ?_
  refine gs T244 (mkF m 6 #[rv op, rv fa] [(.ref op)]) (fun _ hr => XS.aloadN X244.here hx rfl (hb hby d27_5) rfl rfl hr) ?_
  have Zs245 : n0 ≤ h0.size := Nat.le_trans Z0 K0.1
  obtain ⟨cq246, kq246, q246a, q246b, q246c⟩ := isOf hZ e244 E_op
  obtain ⟨_, _, ⟨T246, L246, k246, n246⟩, -, X246, ⟨Lc246, hQ246, l246, y246, z246⟩, st246⟩ := X244.virtualBack hx (y := Y18) (z := Y18) hown (mvT hZ (tw hw 60 rfl)) (mvT hZ (tw hw 61 rfl)) (notFace_of_selects (args := #[]) (mvT hZ (tw hw 63 rfl))) (mvT hZ (tw hw 63 rfl)) (mvT hZ (tw hw 62 rfl)) (by decide) (backOf (W := 0) (rm_oise1 l Z a0 hw [] op rr h0 n0 Zs245 (Old.keep O0 K0 hws) F_op_value) hZ (tw hw 64 rfl) (tw hw 8 rfl) (by decide) (by decide)) q246a q246c (g := (mkF m 6 #[rv op, rv fa] [(.ref op)])) rfl (by rw [hml]; rfl) (Steps.refl _) (argsL := []) (rest := []) (lenOf pd_1 rfl) rfl (wle rfl) (hb hby d27_6) (fun _ _ => ⟨rfl, e244, (by decide : 0 + 0 ≤ _), (by decide : 0 + 0 ≤ _)⟩)
  dsimp only [Pt.U, Pt.locs, Pt.cells, Pt.slots] at X246 l246 y246 z246 st246 hQ246
  subst l246 y246 z246
  obtain ⟨rfl, N246q, e246⟩ := hQ246
  have N246 := Fr.app N244 N246q
  refine gs T246 (mkF m 9 #[rv op, rv fa] [(.int (0 : Int32))]) (fun _ hr => st246.trans hr) ?_
  refine gs T246 (mkF m 16 #[rv op, rv fa] []) (fun _ hr => XS.ifYes X246.here hx rfl (pc0 := 9) (pc' := 16) rfl (hb hby d27_9) rfl ((if0 _ _).trans (teq (by decide : (0 : Int32) = (0 : Int32))).1) (by decide) (by decide) hr) ?_
  refine gs T246 (mkF m 17 #[rv op, rv fa] [(.ref fa)]) (fun _ hr => XS.aloadN X246.here hx rfl (hb hby d27_16) rfl rfl hr) ?_
  refine gs T246 (mkF m 18 #[rv op, rv fa] [(.ref op), (.ref fa)]) (fun _ hr => XS.aloadN X246.here hx rfl (hb hby d27_17) rfl rfl hr) ?_
  obtain ⟨T247, X247, e247, st247⟩ := getF X246 hx hZ hown (host := "") (Or.inl (tw hw 65 rfl)) Via.refl e246 F_op_value (g := (mkF m 18 #[rv op, rv fa] [(.ref op), (.ref fa)])) rfl rfl (hb hby d27_18)
  refine gs T247 (mkF m 21 #[rv op, rv fa] [(.ref rr), (.ref fa)]) st247 ?_
  have Zs248 : n0 ≤ h0.size := Nat.le_trans Z0 K0.1
  obtain ⟨_, T249, Lc249, X249, hQ249, st249⟩ := own_callFace X247 hx hZ (xi := Y28) hown (tw hw 122 rfl) (tw hw 123 rfl) (tw hw 124 rfl) ⟨rfl, rfl, by decide +kernel⟩ (by decide) Md e247 G_fa okA (g := (mkF m 21 #[rv op, rv fa] [(.ref rr), (.ref fa)])) rfl (by rw [hml]; rfl) (argsL := [(.ref rr)]) (rest := []) (lenOf pd_3 rfl) rfl (hb hby d27_21) (R' := r15) (Q := Q_rm_lam_gt Z th rr em q1 q2 nw h0 n0) (by decide) (by show 2 * 0 + 0 + 13 + 84 ≤ _; decide) (by decide) (by decide) (fun s' U bl mk ck Y' hZ' eU zq1 zq2 zq3 => bodyA hx Y' hZ' hw Md zq1 zq2 zq3 eU G_fa E_rr E_th (rm_lam_gt l Z a0 hw [] th rr em q1 q2 nw h0 n0 Zs248 (Old.keep O0 K0 hws) E_th F_th_offset F_th_end E_rr F_rr_newestTimestamp S_OptionalLong_EMPTY_old E_em_old F_em_isPresent_old F_em_value_old hgt) (fun v h L q => by obtain ⟨rfl, -⟩ := q; exact ⟨_, rfl⟩) (by decide) (by decide) (by decide) (by decide))
  obtain ⟨rfl, N249q, Kc249⟩ := hQ249
  have N249 := Fr.app N246 N249q
  have K249 : Keep h0 T249.heap [] := K0.trans Kc249 all0
  refine gs T249 (mkF m 26 #[rv op, rv fa] [(.ref em)]) st249 ?_
  have Zs250 : n0 ≤ T249.heap.size := Nat.le_trans Z0 K249.1
  obtain ⟨_, _, ⟨T251, L251, k251, n251⟩, -, X251, ⟨Lc251, hQ251, l251, y251, z251⟩, st251⟩ := LawKit.callS X249 hx (y := Y16) hown (mvT hZ (tw hw 161 rfl)) (mvT hZ (tw hw 162 rfl)) (mvT hZ (tw hw 8 rfl)) (mvT hZ (tw hw 163 rfl)) (by decide) (backOf (W := 0) (rm_oofn l Z a0 hw [] em T249.heap n0 Zs250 (Old.keep O0 K249 hws)) hZ (tw hw 163 rfl) (tw hw 8 rfl) (by decide) (by decide)) (g := (mkF m 26 #[rv op, rv fa] [(.ref em)])) rfl (by rw [hml]; rfl) (argsL := [(.ref em)]) (rest := []) (lenOf pd_15 rfl) rfl (wle rfl) (hb hby d27_26) (fun _ _ => ⟨rfl, rfl, (by decide : 2 + 1 ≤ _), (by decide : 4 + 1 ≤ _)⟩)
  dsimp only [Pt.U, Pt.locs, Pt.cells, Pt.slots] at X251 l251 y251 z251 st251 hQ251
  subst l251 y251 z251
  obtain ⟨w251, rfl, N251q, Kc251, P251_0, P251_1, P251_2⟩ := hQ251
  have N251 := Fr.app N249 N251q
  have K251 : Keep h0 T251.heap [] := K249.trans Kc251 all0
  have sz_w251 : h0.size ≤ w251 := Nat.le_trans K249.1 P251_0
  have E_w251_251c : Exa Z T251.heap w251 cOP := P251_1
  have F_w251_value_251c : Fld Z T251.heap w251 cOP "value" dOB (.ref em) := P251_2
  refine gs T251 (mkF m 29 #[rv op, rv fa] [(.ref w251)]) st251 ?_
  exact Goes.ret (v := some (.ref w251)) X251 (by decide) (by decide) (fun h => by rw [Bd.returns] at h; cases h) (by show Q_rm_map_gt Z th rr em q1 q2 nw op eo fa cK h0 n0 _ T251.heap _; exact ⟨w251, rfl, N251, K251, sz_w251, E_w251_251c, F_w251_value_251c⟩) (fun fs hr => retOut X251 hx Bd.returns rfl (Or.inr (Or.inr (Or.inr (Or.inr ⟨rfl, rfl, rfl⟩)))) (hb hby d27_29) hr)
theorem d28_0 : decode prog_13_method_4_code 0 = .ok (.aload_n 0, 1) := by decide +kernel
theorem d28_1 : decode prog_13_method_4_code 1 = .ok (.getfield 24, 3) := by decide +kernel
theorem d28_4 : decode prog_13_method_4_code 4 = .ok (.aload_n 0, 1) := by decide +kernel
theorem d28_5 : decode prog_13_method_4_code 5 = .ok (.invokedynamic 65, 5) := by decide +kernel
theorem d28_10 : decode prog_13_method_4_code 10 = .ok (.invokevirtual 69, 3) := by decide +kernel
theorem d28_13 : decode prog_13_method_4_code 13 = .ok (.invokestatic 73, 3) := by decide +kernel
theorem d28_16 : decode prog_13_method_4_code 16 = .ok (.invokevirtual 77, 3) := by decide +kernel
theorem d28_19 : decode prog_13_method_4_code 19 = .ok (.checkcast 42, 3) := by decide +kernel
theorem d28_22 : decode prog_13_method_4_code 22 = .ok (.areturn, 1) := by decide +kernel
def Q_rm_age_gt (Z : State) (th : Addr) (rr : Addr) (em : Addr) (q1 : Int64) (q2 : Int64) (nw : Addr) (op : Addr) (eo : Addr) (h0 : Heap) (n0 : Nat) (v : Option Value) (h : Heap) (L : List Loc) : Prop := v = some (.ref em) ∧ Fr n0 L ∧ Keep h0 h []
set_option maxRecDepth 65536 in
set_option maxHeartbeats 40000000 in
theorem rm_age_gt (l : Launch) (Z : State) (a0 : Array Value) (hw : ∀ d ∈ tables_1, d.before a0 Z = true) (ws : List Jvm.Cond) (th : Addr) (rr : Addr) (em : Addr) (q1 : Int64) (q2 : Int64) (nw : Addr) (op : Addr) (eo : Addr) (h0 : Heap) (n0 : Nat) (Z0 : n0 ≤ h0.size) (O0 : Old Z n0 h0) (E_th : Exa Z h0 th cPL) (F_th_offset : Fld Z h0 th cPL "offset" "J" (.long q1)) (F_th_end : Fld Z h0 th cPL "end" "J" (.long q2)) (E_rr : Exa Z h0 rr cRR) (F_rr_newestTimestamp : Fld Z h0 rr cRR nNT dOL (.ref nw)) (F_th_records : Fld Z h0 th cPL "records" dOP (.ref op)) (E_op : Exa Z h0 op cOP) (F_op_value : Fld Z h0 op cOP "value" dOB (.ref rr)) (S_OptionalLong_EMPTY_old : Sta Z Z.heap cOL "EMPTY" dOL (.ref em)) (E_em_old : Exa Z Z.heap em cOL) (F_em_isPresent_old : Fld Z Z.heap em cOL nIP "Z" (.int (0 : Int32))) (F_em_value_old : Fld Z Z.heap em cOL "value" "J" (.long (0 : Int64))) (S_Optional_EMPTY_old : Sta Z Z.heap cOP "EMPTY" dOP (.ref eo)) (E_eo_old : Exa Z Z.heap eo cOP) (F_eo_value_old : Fld Z Z.heap eo cOP "value" dOB .null) (hgt : (0 : Int32) < (XT.cmpL q1 q2)) :
    MetFree l Y30 (head1 (Cond.code Y30 prog_13_method_4_code 1 (some (.object cOL)) :: ws) r16) (fun a U => a = #[(.ref th)] ∧ Z.Warmed39 U.vm ∧ U.heap = h0) (fun _ _ _ _ _ => True) (fun _ U o U' => ∃ v L, o = .returned v ∧ Q_rm_age_gt Z th rr em q1 q2 nw op eo h0 n0 v U'.heap L ∧ FrameEnd U o U' L r16.cells r16.slots) := by
  refine MetFree.of_bodySF (plainFor_of_name pn_com_example_log_lag_gauge_loglaggauge_model_PositionLag) hisR ?_
  intro p e s m args below meth c s₁ Bd hml0 hP hK
  obtain ⟨rfl, hZ, hh⟩ := hP
  have hx := Bd.exec
  have hby := Bd.bytes
  have hml : c.maxLocals = 1 := hml0
  have hown : s.vm.findClass cPL = some m.cls := findClass_of_methodNamed Bd.named
  have hnm := (name_of_methodNamed Bd.named Bd.method).1
  have X0 : Stand p l e r16 s m #[(.ref th)] below meth c s₁ [] 0 0 := Stand.of_body Bd
  have e0 : s₁.heap = h0 := by rw [← hh, Bd.state]; rfl
  have N0 := Fr.nil n0
  refine Goes.out (l := l) (c := c) (R := r16) (Q := Q_rm_age_gt Z th rr em q1 q2 nw op eo h0 n0) Bd.notSynchronized ?_
  refine Goes.cast (g2 := mkF m 0 #[rv th] []) (by first | (simp [entryFrame, mkF, argsToLocals, Value.category]; done) | rfl) ?_
  have K0 : Keep h0 h0 [] := Keep.refl h0 _
  have hws : ∀ x ∈ ([] : List Addr), n0 ≤ x := all0
  refine gs s₁ (mkF m 1 #[rv th] [(.ref th)]) (fun _ hr => XS.aloadN X0.here hx rfl (hb hby d28_0) rfl rfl hr) ?_
  obtain ⟨T252, X252, e252, st252⟩ := getF X0 hx hZ hown (host := "") (Or.inl (tw hw 41 rfl)) Via.refl e0 F_th_records (g := (mkF m 1 #[rv th] [(.ref th)])) rfl rfl (hb hby d28_1)
  refine gs T252 (mkF m 4 #[rv th] [(.ref op)]) st252 ?_
  refine gs T252 (mkF m 5 #[rv th] [(.ref th), (.ref op)]) (fun _ hr => XS.aloadN X252.here hx rfl (hb hby d28_4) rfl rfl hr) ?_
  obtain ⟨T253, h253, c253, X253, e253, E253, A253, Md253, st253⟩ := own_siteMakes X252 hx hZ (x := Y30) (pc := 5) (fi := 15) (σ := sgA) Bd.named (tw hw 48 rfl) (by decide) cpA (tw hw 51 rfl) e252 (g := (mkF m 5 #[rv th] [(.ref th), (.ref op)])) rfl rfl (by rw [hml]; rfl) (hb hby d28_5) (vals := [(.ref th)]) (rest := [(.ref op)]) rfl rfl own_fit1 (by show 2 * 0 + 2 + 3072 ≤ _; decide) (N := 1) rfl (by decide) (by decide)
  obtain ⟨b253, g253⟩ : ∃ z, z = h0.size := ⟨_, rfl⟩
  rw [← g253] at A253 st253
  have E_th_253 : Exa Z h253 th cPL := E_th.ext E253
  have F_th_offset_253 : Fld Z h253 th cPL "offset" "J" (.long q1) := F_th_offset.ext E253
  have F_th_end_253 : Fld Z h253 th cPL "end" "J" (.long q2) := F_th_end.ext E253
  have E_rr_253 : Exa Z h253 rr cRR := E_rr.ext E253
  have F_rr_newestTimestamp_253 : Fld Z h253 rr cRR nNT dOL (.ref nw) := F_rr_newestTimestamp.ext E253
  have E_op_253 : Exa Z h253 op cOP := E_op.ext E253
  have F_op_value_253 : Fld Z h253 op cOP "value" dOB (.ref rr) := F_op_value.ext E253
  have K253 : Keep h0 h253 [] := K0.ext E253
  refine gs T253 (mkF m 10 #[rv th] [(.ref b253), (.ref op)]) st253 ?_
  have Zs254 : n0 ≤ h253.size := Nat.le_trans Z0 K253.1
  obtain ⟨cq255, kq255, q255a, q255b, q255c⟩ := isOf hZ e253 E_op_253
  obtain ⟨_, _, ⟨T255, L255, k255, n255⟩, -, X255, ⟨Lc255, hQ255, l255, y255, z255⟩, st255⟩ := X253.virtualBack hx (y := Y29) (z := Y29) hown (mvT hZ (tw hw 52 rfl)) (mvT hZ (tw hw 53 rfl)) (notFace_of_selects (args := #[]) (mvT hZ (tw hw 55 rfl))) (mvT hZ (tw hw 55 rfl)) (mvT hZ (tw hw 54 rfl)) (by decide) (backOf (W := 0) (rm_map_gt l Z a0 hw [] th rr em q1 q2 nw op eo b253 c253 h253 n0 Zs254 (Old.keep O0 K253 hws) E_th_253 F_th_offset_253 F_th_end_253 E_rr_253 F_rr_newestTimestamp_253 E_op_253 F_op_value_253 A253 S_OptionalLong_EMPTY_old E_em_old F_em_isPresent_old F_em_value_old S_Optional_EMPTY_old E_eo_old F_eo_value_old hgt Md253) hZ (tw hw 56 rfl) (tw hw 8 rfl) (by decide) (by decide)) q255a q255c (g := (mkF m 10 #[rv th] [(.ref b253), (.ref op)])) rfl (by rw [hml]; rfl) (Steps.refl _) (argsL := [(.ref b253)]) (rest := []) (lenOf pd_16 rfl) rfl (wle rfl) (hb hby d28_10) (fun _ _ => ⟨rfl, e253, (by decide : 1 + 3 ≤ _), (by decide : 1 + 5 ≤ _)⟩)
  dsimp only [Pt.U, Pt.locs, Pt.cells, Pt.slots] at X255 l255 y255 z255 st255 hQ255
  subst l255 y255 z255
  obtain ⟨w255, rfl, N255q, Kc255, P255_0, P255_1, P255_2⟩ := hQ255
  have N255 := Fr.app N0 N255q
  have K255 : Keep h0 T255.heap [] := K253.trans Kc255 all0
  have E_w255_255c : Exa Z T255.heap w255 cOP := P255_1
  have F_w255_value_255c : Fld Z T255.heap w255 cOP "value" dOB (.ref em) := P255_2
  refine gs T255 (mkF m 13 #[rv th] [(.ref w255)]) (fun _ hr => st255.trans hr) ?_
  have Zs256 : n0 ≤ T255.heap.size := Nat.le_trans Z0 K255.1
  obtain ⟨_, _, ⟨T257, L257, k257, n257⟩, -, X257, ⟨Lc257, hQ257, l257, y257, z257⟩, st257⟩ := LawKit.callS X255 hx (y := Y4) hown (mvT hZ (tw hw 68 rfl)) (mvT hZ (tw hw 2 rfl)) (mvT hZ (tw hw 3 rfl)) (mvT hZ (tw hw 4 rfl)) (by decide) (backOf (W := 1) (rm_olem l Z a0 hw [] em T255.heap n0 Zs256 (Old.keep O0 K255 hws) S_OptionalLong_EMPTY_old) hZ (tw hw 4 rfl) (tw hw 3 rfl) (by decide) (by decide)) (g := (mkF m 13 #[rv th] [(.ref w255)])) rfl (by rw [hml]; rfl) (argsL := []) (rest := [(.ref w255)]) (lenOf pd_6 rfl) rfl (wle rfl) (hb hby d28_13) (fun _ _ => ⟨rfl, rfl, (by decide : 4 + 0 ≤ _), (by decide : 6 + 0 ≤ _)⟩)
  dsimp only [Pt.U, Pt.locs, Pt.cells, Pt.slots] at X257 l257 y257 z257 st257 hQ257
  subst l257 y257 z257
  obtain ⟨rfl, N257q, e257⟩ := hQ257
  have N257 := Fr.app N255 N257q
  refine gs T257 (mkF m 16 #[rv th] [(.ref em), (.ref w255)]) st257 ?_
  have Zs258 : n0 ≤ T255.heap.size := Nat.le_trans Z0 K255.1
  obtain ⟨cq259, kq259, q259a, q259b, q259c⟩ := isOf hZ e257 E_w255_255c
  obtain ⟨_, _, ⟨T259, L259, k259, n259⟩, -, X259, ⟨Lc259, hQ259, l259, y259, z259⟩, st259⟩ := X257.virtualBack hx (y := Y20) (z := Y20) hown (mvT hZ (tw hw 69 rfl)) (mvT hZ (tw hw 70 rfl)) (notFace_of_selects (args := #[]) (mvT hZ (tw hw 72 rfl))) (mvT hZ (tw hw 72 rfl)) (mvT hZ (tw hw 71 rfl)) (by decide) (backOf (W := 0) (rm_oore1 l Z a0 hw [] w255 em em T255.heap n0 Zs258 (Old.keep O0 K255 hws) F_w255_value_255c) hZ (tw hw 73 rfl) (tw hw 8 rfl) (by decide) (by decide)) q259a q259c (g := (mkF m 16 #[rv th] [(.ref em), (.ref w255)])) rfl (by rw [hml]; rfl) (Steps.refl _) (argsL := [(.ref em)]) (rest := []) (lenOf pd_3 rfl) rfl (wle rfl) (hb hby d28_16) (fun _ _ => ⟨rfl, e257, (by decide : 4 + 0 ≤ _), (by decide : 6 + 0 ≤ _)⟩)
  dsimp only [Pt.U, Pt.locs, Pt.cells, Pt.slots] at X259 l259 y259 z259 st259 hQ259
  subst l259 y259 z259
  obtain ⟨rfl, N259q, e259⟩ := hQ259
  have N259 := Fr.app N257 N259q
  refine gs T259 (mkF m 19 #[rv th] [(.ref em)]) (fun _ hr => st259.trans hr) ?_
  obtain ⟨T260, X260, e260, st260⟩ := castY X259 hx hZ hown (tw hw 74 rfl) e259 (Ins.self (E_em_old.ext (Old.keep O0 K255 hws).2)) (g := (mkF m 19 #[rv th] [(.ref em)])) rfl rfl (hb hby d28_19)
  refine gs T260 (mkF m 22 #[rv th] [(.ref em)]) st260 ?_
  exact Goes.ret (v := some (.ref em)) X260 (by decide) (by decide) (fun h => by rw [Bd.returns] at h; cases h) (by show Q_rm_age_gt Z th rr em q1 q2 nw op eo h0 n0 _ T260.heap _; rw [e260]; exact ⟨rfl, N259, K255⟩) (fun fs hr => retOut X260 hx Bd.returns rfl (Or.inr (Or.inr (Or.inr (Or.inr ⟨rfl, rfl, rfl⟩)))) (hb hby d28_22) hr)
def Q_rm_lam_z1 (Z : State) (th : Addr) (rr : Addr) (em : Addr) (q1 : Int64) (q2 : Int64) (op : Addr) (eo : Addr) (nw : Addr) (h0 : Heap) (n0 : Nat) (v : Option Value) (h : Heap) (L : List Loc) : Prop := ∃ w : Addr, v = some (.ref w) ∧ Fr n0 L ∧ Keep h0 h [] ∧ h0.size ≤ w ∧ Exa Z h w cOL ∧ Fld Z h w cOL nIP "Z" (.int (1 : Int32)) ∧ Fld Z h w cOL "value" "J" (.long (0 : Int64))
set_option maxRecDepth 65536 in
set_option maxHeartbeats 40000000 in
theorem rm_lam_z1 (l : Launch) (Z : State) (a0 : Array Value) (hw : ∀ d ∈ tables_1, d.before a0 Z = true) (ws : List Jvm.Cond) (th : Addr) (rr : Addr) (em : Addr) (q1 : Int64) (q2 : Int64) (op : Addr) (eo : Addr) (nw : Addr) (h0 : Heap) (n0 : Nat) (Z0 : n0 ≤ h0.size) (O0 : Old Z n0 h0) (E_th : Exa Z h0 th cPL) (F_th_offset : Fld Z h0 th cPL "offset" "J" (.long q1)) (F_th_end : Fld Z h0 th cPL "end" "J" (.long q2)) (F_th_records : Fld Z h0 th cPL "records" dOP (.ref op)) (E_op : Exa Z h0 op cOP) (F_op_value : Fld Z h0 op cOP "value" dOB (.ref rr)) (E_rr : Exa Z h0 rr cRR) (F_rr_onlyMarkersLeft : Fld Z h0 rr cRR nOM "Z" (.int (1 : Int32))) (F_rr_newestTimestamp : Fld Z h0 rr cRR nNT dOL (.ref nw)) (S_OptionalLong_EMPTY_old : Sta Z Z.heap cOL "EMPTY" dOL (.ref em)) (E_em_old : Exa Z Z.heap em cOL) (F_em_isPresent_old : Fld Z Z.heap em cOL nIP "Z" (.int (0 : Int32))) (F_em_value_old : Fld Z Z.heap em cOL "value" "J" (.long (0 : Int64))) (S_Optional_EMPTY_old : Sta Z Z.heap cOP "EMPTY" dOP (.ref eo)) (E_eo_old : Exa Z Z.heap eo cOP) (F_eo_value_old : Fld Z Z.heap eo cOP "value" dOB .null) (hle : ¬ ((0 : Int32) < (XT.cmpL q1 q2))) :
    MetFree l Y0 (head1 (Cond.code Y0 prog_13_method_14_code 2 (some (.object cOL)) :: ws) r17) (fun a U => a = #[(.ref th), (.ref rr)] ∧ Z.Warmed39 U.vm ∧ U.heap = h0) (fun _ _ _ _ _ => True) (fun _ U o U' => ∃ v L, o = .returned v ∧ Q_rm_lam_z1 Z th rr em q1 q2 op eo nw h0 n0 v U'.heap L ∧ FrameEnd U o U' L r17.cells r17.slots) := by
  refine MetFree.of_bodySF (plainFor_of_name pn_com_example_log_lag_gauge_loglaggauge_model_PositionLag) hisR ?_
  intro p e s m args below meth c s₁ Bd hml0 hP hK
  obtain ⟨rfl, hZ, hh⟩ := hP
  have hx := Bd.exec
  have hby := Bd.bytes
  have hml : c.maxLocals = 2 := hml0
  have hown : s.vm.findClass cPL = some m.cls := findClass_of_methodNamed Bd.named
  have hnm := (name_of_methodNamed Bd.named Bd.method).1
  have X0 : Stand p l e r17 s m #[(.ref th), (.ref rr)] below meth c s₁ [] 0 0 := Stand.of_body Bd
  have e0 : s₁.heap = h0 := by rw [← hh, Bd.state]; rfl
  have N0 := Fr.nil n0
  refine Goes.out (l := l) (c := c) (R := r17) (Q := Q_rm_lam_z1 Z th rr em q1 q2 op eo nw h0 n0) Bd.notSynchronized ?_
  refine Goes.cast (g2 := mkF m 0 #[rv th, rv rr] []) (by first | (simp [entryFrame, mkF, argsToLocals, Value.category]; done) | rfl) ?_
  have K0 : Keep h0 h0 [] := Keep.refl h0 _
  have hws : ∀ x ∈ ([] : List Addr), n0 ≤ x := all0
  refine gs s₁ (mkF m 1 #[rv th, rv rr] [(.ref th)]) (fun _ hr => XS.aloadN X0.here hx rfl (hb hby d26_0) rfl rfl hr) ?_
  refine gs s₁ (mkF m 2 #[rv th, rv rr] [(.ref rr), (.ref th)]) (fun _ hr => XS.aloadN X0.here hx rfl (hb hby d26_1) rfl rfl hr) ?_
  refine gs s₁ (mkF m 3 #[rv th, rv rr] [(.ref rr), (.ref rr), (.ref th)]) (fun _ hr => XS.aloadN X0.here hx rfl (hb hby d26_2) rfl rfl hr) ?_
  have Zs261 : n0 ≤ h0.size := Nat.le_trans Z0 K0.1
  obtain ⟨cq262, kq262, q262a, q262b, q262c⟩ := isOf hZ e0 E_rr
  obtain ⟨_, _, ⟨T262, L262, k262, n262⟩, -, X262, ⟨Lc262, hQ262, l262, y262, z262⟩, st262⟩ := X0.virtualBack hx (y := Y12) (z := Y12) hown (mvT hZ (tw hw 129 rfl)) (mvT hZ (tw hw 130 rfl)) (notFace_of_selects (args := #[]) (mvT hZ (tw hw 132 rfl))) (mvT hZ (tw hw 132 rfl)) (mvT hZ (tw hw 131 rfl)) (by decide) (backOf (W := 2) (rm_newestTimestamp l Z a0 hw [] rr nw h0 n0 Zs261 (Old.keep O0 K0 hws) F_rr_newestTimestamp) hZ (tw hw 133 rfl) (tw hw 96 rfl) (by decide) (by decide)) q262a q262c (g := (mkF m 3 #[rv th, rv rr] [(.ref rr), (.ref rr), (.ref th)])) rfl (by rw [hml]; rfl) (Steps.refl _) (argsL := []) (rest := [(.ref rr), (.ref th)]) (lenOf pd_6 rfl) rfl (wle rfl) (hb hby d26_3) (fun _ _ => ⟨rfl, e0, (by decide : 0 + 0 ≤ _), (by decide : 0 + 0 ≤ _)⟩)
  dsimp only [Pt.U, Pt.locs, Pt.cells, Pt.slots] at X262 l262 y262 z262 st262 hQ262
  subst l262 y262 z262
  obtain ⟨rfl, N262q, e262⟩ := hQ262
  have N262 := Fr.app N0 N262q
  refine gs T262 (mkF m 6 #[rv th, rv rr] [(.ref nw), (.ref rr), (.ref th)]) (fun _ hr => st262.trans hr) ?_
  have Zs263 : n0 ≤ h0.size := Nat.le_trans Z0 K0.1
  obtain ⟨cl264, kl264, q264a, -, -, q264d, -⟩ := id E_th
  obtain ⟨_, _, ⟨T264, L264, k264, n264⟩, -, X264, ⟨Lc264, hQ264, l264, y264, z264⟩, st264⟩ := X262.privateBack hx (y := Y27) hown (mvT hZ (tw hw 134 rfl)) (mvT hZ (tw hw 135 rfl)) (own_selP (mvT hZ (tw hw 12 rfl)) (mvT hZ (tw hw 136 rfl)) (mvT hZ (tw hw 135 rfl)) (by decide)) (Cond.privateMethod_at (args := #[]) (mvT hZ (tw hw 136 rfl))) (mvT hZ (tw hw 137 rfl)) (by decide) (backOf (W := 0) (rm_beh_z1 l Z a0 hw [] th rr em q1 q2 op eo nw h0 n0 Zs263 (Old.keep O0 K0 hws) E_th F_th_offset F_th_end F_th_records E_op F_op_value E_rr F_rr_onlyMarkersLeft S_OptionalLong_EMPTY_old E_em_old F_em_isPresent_old F_em_value_old S_Optional_EMPTY_old E_eo_old F_eo_value_old hle) hZ (tw hw 137 rfl) (tw hw 13 rfl) (by decide) (by decide)) (g := (mkF m 6 #[rv th, rv rr] [(.ref nw), (.ref rr), (.ref th)])) rfl (by rw [hml]; rfl) (Steps.refl _) (own_at e262 q264a) (fun q z => by rw [z] at q264d; cases q264d) (argsL := [(.ref rr), (.ref nw)]) (rest := []) (lenOf pd_14 rfl) rfl (wle rfl) (hb hby d26_6) (fun _ _ => ⟨rfl, e262, (by decide : 0 + 5 ≤ _), (by decide : 0 + 10 ≤ _)⟩)
  dsimp only [Pt.U, Pt.locs, Pt.cells, Pt.slots] at X264 l264 y264 z264 st264 hQ264
  subst l264 y264 z264
  obtain ⟨w264, rfl, N264q, Kc264, P264_0, P264_1, P264_2, P264_3⟩ := hQ264
  have N264 := Fr.app N262 N264q
  have K264 : Keep h0 T264.heap [] := K0.trans Kc264 all0
  have sz_w264 : h0.size ≤ w264 := Nat.le_trans K0.1 P264_0
  have E_w264_264c : Exa Z T264.heap w264 cOL := P264_1
  have F_w264_isPresent_264c : Fld Z T264.heap w264 cOL nIP "Z" (.int (1 : Int32)) := P264_2
  have F_w264_value_264c : Fld Z T264.heap w264 cOL "value" "J" (.long (0 : Int64)) := P264_3
  refine gs T264 (mkF m 9 #[rv th, rv rr] [(.ref w264)]) (fun _ hr => st264.trans hr) ?_
  exact Goes.ret (v := some (.ref w264)) X264 (by decide) (by decide) (fun h => by rw [Bd.returns] at h; cases h) (by show Q_rm_lam_z1 Z th rr em q1 q2 op eo nw h0 n0 _ T264.heap _; exact ⟨w264, rfl, N264, K264, sz_w264, E_w264_264c, F_w264_isPresent_264c, F_w264_value_264c⟩) (fun fs hr => retOut X264 hx Bd.returns rfl (Or.inr (Or.inr (Or.inr (Or.inr ⟨rfl, rfl, rfl⟩)))) (hb hby d26_9) hr)
def Q_rm_map_z1 (Z : State) (th : Addr) (rr : Addr) (em : Addr) (q1 : Int64) (q2 : Int64) (op : Addr) (eo : Addr) (nw : Addr) (fa : Addr) (cK : ClassId) (h0 : Heap) (n0 : Nat) (v : Option Value) (h : Heap) (L : List Loc) : Prop := ∃ w : Addr, ∃ wr : Addr, v = some (.ref w) ∧ Fr n0 L ∧ Keep h0 h [] ∧ h0.size ≤ w ∧ Exa Z h w cOP ∧ Fld Z h w cOP "value" dOB (.ref wr) ∧ h0.size ≤ wr ∧ Exa Z h wr cOL ∧ Fld Z h wr cOL nIP "Z" (.int (1 : Int32)) ∧ Fld Z h wr cOL "value" "J" (.long (0 : Int64))
set_option maxRecDepth 65536 in
set_option maxHeartbeats 40000000 in
theorem rm_map_z1 (l : Launch) (Z : State) (a0 : Array Value) (hw : ∀ d ∈ tables_1, d.before a0 Z = true) (ws : List Jvm.Cond) (th : Addr) (rr : Addr) (em : Addr) (q1 : Int64) (q2 : Int64) (op : Addr) (eo : Addr) (nw : Addr) (fa : Addr) (cK : ClassId) (h0 : Heap) (n0 : Nat) (Z0 : n0 ≤ h0.size) (O0 : Old Z n0 h0) (E_th : Exa Z h0 th cPL) (F_th_offset : Fld Z h0 th cPL "offset" "J" (.long q1)) (F_th_end : Fld Z h0 th cPL "end" "J" (.long q2)) (F_th_records : Fld Z h0 th cPL "records" dOP (.ref op)) (E_op : Exa Z h0 op cOP) (F_op_value : Fld Z h0 op cOP "value" dOB (.ref rr)) (E_rr : Exa Z h0 rr cRR) (F_rr_onlyMarkersLeft : Fld Z h0 rr cRR nOM "Z" (.int (1 : Int32))) (F_rr_newestTimestamp : Fld Z h0 rr cRR nNT dOL (.ref nw)) (G_fa : FnV h0 fa cK #[(.ref th)]) (S_OptionalLong_EMPTY_old : Sta Z Z.heap cOL "EMPTY" dOL (.ref em)) (E_em_old : Exa Z Z.heap em cOL) (F_em_isPresent_old : Fld Z Z.heap em cOL nIP "Z" (.int (0 : Int32))) (F_em_value_old : Fld Z Z.heap em cOL "value" "J" (.long (0 : Int64))) (S_Optional_EMPTY_old : Sta Z Z.heap cOP "EMPTY" dOP (.ref eo)) (E_eo_old : Exa Z Z.heap eo cOP) (F_eo_value_old : Fld Z Z.heap eo cOP "value" dOB .null) (hle : ¬ ((0 : Int32) < (XT.cmpL q1 q2))) (Md : Jvm.LamKit.Made Z cPL sgA cK) :
    MetFree l Y29 (head1 (Cond.code Y29 jdk_32_method_11_code 2 (some (.object cOP)) :: ws) r18) (fun a U => a = #[(.ref op), (.ref fa)] ∧ Z.Warmed39 U.vm ∧ U.heap = h0) (fun _ _ _ _ _ => True) (fun _ U o U' => ∃ v L, o = .returned v ∧ Q_rm_map_z1 Z th rr em q1 q2 op eo nw fa cK h0 n0 v U'.heap L ∧ FrameEnd U o U' L r18.cells r18.slots) := by
  refine MetFree.of_bodySF (plainFor_of_name pn_java_util_Optional) hisR ?_
  intro p e s m args below meth c s₁ Bd hml0 hP hK
  obtain ⟨rfl, hZ, hh⟩ := hP
  have hx := Bd.exec
  have hby := Bd.bytes
  have hml : c.maxLocals = 2 := hml0
  have hown : s.vm.findClass cOP = some m.cls := findClass_of_methodNamed Bd.named
  have hnm := (name_of_methodNamed Bd.named Bd.method).1
  have X0 : Stand p l e r18 s m #[(.ref op), (.ref fa)] below meth c s₁ [] 0 0 := Stand.of_body Bd
  have e0 : s₁.heap = h0 := by rw [← hh, Bd.state]; rfl
  have N0 := Fr.nil n0
  refine Goes.out (l := l) (c := c) (R := r18) (Q := Q_rm_map_z1 Z th rr em q1 q2 op eo nw fa cK h0 n0) Bd.notSynchronized ?_
  refine Goes.cast (g2 := mkF m 0 #[rv op, rv fa] []) (by first | (simp [entryFrame, mkF, argsToLocals, Value.category]; done) | rfl) ?_
  have K0 : Keep h0 h0 [] := Keep.refl h0 _
  have hws : ∀ x ∈ ([] : List Addr), n0 ≤ x := all0
  refine gs s₁ (mkF m 1 #[rv op, rv fa] [(.ref fa)]) (fun _ hr => XS.aloadN X0.here hx rfl (hb hby d27_0) rfl rfl hr) ?_
  have Zs265 : n0 ≤ h0.size := Nat.le_trans Z0 K0.1
  obtain ⟨_, _, ⟨T266, L266, k266, n266⟩, -, X266, ⟨Lc266, hQ266, l266, y266, z266⟩, st266⟩ := LawKit.callS X0 hx (y := Y13) hown (mvT hZ (tw hw 57 rfl)) (mvT hZ (tw hw 58 rfl)) (mvT hZ (tw hw 35 rfl)) (mvT hZ (tw hw 59 rfl)) (by decide) (backOf (W := 0) (rm_rnn1 l Z a0 hw [] fa h0 n0 Zs265 (Old.keep O0 K0 hws)) hZ (tw hw 59 rfl) (tw hw 35 rfl) (by decide) (by decide)) (g := (mkF m 1 #[rv op, rv fa] [(.ref fa)])) rfl (by rw [hml]; rfl) (argsL := [(.ref fa)]) (rest := []) (lenOf pd_3 rfl) rfl (wle rfl) (hb hby d27_1) (fun _ _ => ⟨rfl, e0, (by decide : 0 + 0 ≤ _), (by decide : 0 + 0 ≤ _)⟩)
  dsimp only [Pt.U, Pt.locs, Pt.cells, Pt.slots] at X266 l266 y266 z266 st266 hQ266
  subst l266 y266 z266
  obtain ⟨rfl, N266q, e266⟩ := hQ266
  have N266 := Fr.app N0 N266q
  refine gs T266 (mkF m 4 #[rv op, rv fa] [(.ref fa)]) st266 ?_
  refine gs T266 (mkF m 5 #[rv op, rv fa] []) (fun _ hr => XT.pop X266.here hx rfl (hb hby d27_4) rfl rfl hr) ?_
  refine gs T266 (mkF m 6 #[rv op, rv fa] [(.ref op)]) (fun _ hr => XS.aloadN X266.here hx rfl (hb hby d27_5) rfl rfl hr) ?_
  have Zs267 : n0 ≤ h0.size := Nat.le_trans Z0 K0.1
  obtain ⟨cq268, kq268, q268a, q268b, q268c⟩ := isOf hZ e266 E_op
  obtain ⟨_, _, ⟨T268, L268, k268, n268⟩, -, X268, ⟨Lc268, hQ268, l268, y268, z268⟩, st268⟩ := X266.virtualBack hx (y := Y18) (z := Y18) hown (mvT hZ (tw hw 60 rfl)) (mvT hZ (tw hw 61 rfl)) (notFace_of_selects (args := #[]) (mvT hZ (tw hw 63 rfl))) (mvT hZ (tw hw 63 rfl)) (mvT hZ (tw hw 62 rfl)) (by decide) (backOf (W := 0) (rm_oise1 l Z a0 hw [] op rr h0 n0 Zs267 (Old.keep O0 K0 hws) F_op_value) hZ (tw hw 64 rfl) (tw hw 8 rfl) (by decide) (by decide)) q268a q268c (g := (mkF m 6 #[rv op, rv fa] [(.ref op)])) rfl (by rw [hml]; rfl) (Steps.refl _) (argsL := []) (rest := []) (lenOf pd_1 rfl) rfl (wle rfl) (hb hby d27_6) (fun _ _ => ⟨rfl, e266, (by decide : 0 + 0 ≤ _), (by decide : 0 + 0 ≤ _)⟩)
  dsimp only [Pt.U, Pt.locs, Pt.cells, Pt.slots] at X268 l268 y268 z268 st268 hQ268
  subst l268 y268 z268
  obtain ⟨rfl, N268q, e268⟩ := hQ268
  have N268 := Fr.app N266 N268q
  refine gs T268 (mkF m 9 #[rv op, rv fa] [(.int (0 : Int32))]) (fun _ hr => st268.trans hr) ?_
  refine gs T268 (mkF m 16 #[rv op, rv fa] []) (fun _ hr => XS.ifYes X268.here hx rfl (pc0 := 9) (pc' := 16) rfl (hb hby d27_9) rfl ((if0 _ _).trans (teq (by decide : (0 : Int32) = (0 : Int32))).1) (by decide) (by decide) hr) ?_
  refine gs T268 (mkF m 17 #[rv op, rv fa] [(.ref fa)]) (fun _ hr => XS.aloadN X268.here hx rfl (hb hby d27_16) rfl rfl hr) ?_
  refine gs T268 (mkF m 18 #[rv op, rv fa] [(.ref op), (.ref fa)]) (fun _ hr => XS.aloadN X268.here hx rfl (hb hby d27_17) rfl rfl hr) ?_
  obtain ⟨T269, X269, e269, st269⟩ := getF X268 hx hZ hown (host := "") (Or.inl (tw hw 65 rfl)) Via.refl e268 F_op_value (g := (mkF m 18 #[rv op, rv fa] [(.ref op), (.ref fa)])) rfl rfl (hb hby d27_18)
  refine gs T269 (mkF m 21 #[rv op, rv fa] [(.ref rr), (.ref fa)]) st269 ?_
  have Zs270 : n0 ≤ h0.size := Nat.le_trans Z0 K0.1
  obtain ⟨_, T271, Lc271, X271, hQ271, st271⟩ := own_callFace X269 hx hZ (xi := Y28) hown (tw hw 122 rfl) (tw hw 123 rfl) (tw hw 124 rfl) ⟨rfl, rfl, by decide +kernel⟩ (by decide) Md e269 G_fa okA (g := (mkF m 21 #[rv op, rv fa] [(.ref rr), (.ref fa)])) rfl (by rw [hml]; rfl) (argsL := [(.ref rr)]) (rest := []) (lenOf pd_3 rfl) rfl (hb hby d27_21) (R' := r19) (Q := Q_rm_lam_z1 Z th rr em q1 q2 op eo nw h0 n0) (by decide) (by show 2 * 0 + 0 + 13 + 3116 ≤ _; decide) (by decide) (by decide) (fun s' U bl mk ck Y' hZ' eU zq1 zq2 zq3 => bodyA hx Y' hZ' hw Md zq1 zq2 zq3 eU G_fa E_rr E_th (rm_lam_z1 l Z a0 hw [] th rr em q1 q2 op eo nw h0 n0 Zs270 (Old.keep O0 K0 hws) E_th F_th_offset F_th_end F_th_records E_op F_op_value E_rr F_rr_onlyMarkersLeft F_rr_newestTimestamp S_OptionalLong_EMPTY_old E_em_old F_em_isPresent_old F_em_value_old S_Optional_EMPTY_old E_eo_old F_eo_value_old hle) (fun v h L q => by obtain ⟨_, rfl, -⟩ := q; exact ⟨_, rfl⟩) (by decide) (by decide) (by decide) (by decide))
  obtain ⟨w271, rfl, N271q, Kc271, P271_0, P271_1, P271_2, P271_3⟩ := hQ271
  have N271 := Fr.app N268 N271q
  have K271 : Keep h0 T271.heap [] := K0.trans Kc271 all0
  have sz_w271 : h0.size ≤ w271 := Nat.le_trans K0.1 P271_0
  have E_w271_271c : Exa Z T271.heap w271 cOL := P271_1
  have F_w271_isPresent_271c : Fld Z T271.heap w271 cOL nIP "Z" (.int (1 : Int32)) := P271_2
  have F_w271_value_271c : Fld Z T271.heap w271 cOL "value" "J" (.long (0 : Int64)) := P271_3
  refine gs T271 (mkF m 26 #[rv op, rv fa] [(.ref w271)]) st271 ?_
  have Zs272 : n0 ≤ T271.heap.size := Nat.le_trans Z0 K271.1
  obtain ⟨_, _, ⟨T273, L273, k273, n273⟩, -, X273, ⟨Lc273, hQ273, l273, y273, z273⟩, st273⟩ := LawKit.callS X271 hx (y := Y16) hown (mvT hZ (tw hw 161 rfl)) (mvT hZ (tw hw 162 rfl)) (mvT hZ (tw hw 8 rfl)) (mvT hZ (tw hw 163 rfl)) (by decide) (backOf (W := 0) (rm_oofn l Z a0 hw [] w271 T271.heap n0 Zs272 (Old.keep O0 K271 hws)) hZ (tw hw 163 rfl) (tw hw 8 rfl) (by decide) (by decide)) (g := (mkF m 26 #[rv op, rv fa] [(.ref w271)])) rfl (by rw [hml]; rfl) (argsL := [(.ref w271)]) (rest := []) (lenOf pd_15 rfl) rfl (wle rfl) (hb hby d27_26) (fun _ _ => ⟨rfl, rfl, (by decide : 5 + 1 ≤ _), (by decide : 10 + 1 ≤ _)⟩)
  dsimp only [Pt.U, Pt.locs, Pt.cells, Pt.slots] at X273 l273 y273 z273 st273 hQ273
  subst l273 y273 z273
  obtain ⟨w273, rfl, N273q, Kc273, P273_0, P273_1, P273_2⟩ := hQ273
  have N273 := Fr.app N271 N273q
  have E_w271_273 : Exa Z T273.heap w271 cOL := E_w271_271c.keep Kc273
  have F_w271_isPresent_273 : Fld Z T273.heap w271 cOL nIP "Z" (.int (1 : Int32)) := F_w271_isPresent_271c.keep Kc273 nin0
  have F_w271_value_273 : Fld Z T273.heap w271 cOL "value" "J" (.long (0 : Int64)) := F_w271_value_271c.keep Kc273 nin0
  have K273 : Keep h0 T273.heap [] := K271.trans Kc273 all0
  have sz_w273 : h0.size ≤ w273 := Nat.le_trans K271.1 P273_0
  have E_w273_273c : Exa Z T273.heap w273 cOP := P273_1
  have F_w273_value_273c : Fld Z T273.heap w273 cOP "value" dOB (.ref w271) := P273_2
  refine gs T273 (mkF m 29 #[rv op, rv fa] [(.ref w273)]) st273 ?_
  exact Goes.ret (v := some (.ref w273)) X273 (by decide) (by decide) (fun h => by rw [Bd.returns] at h; cases h) (by show Q_rm_map_z1 Z th rr em q1 q2 op eo nw fa cK h0 n0 _ T273.heap _; exact ⟨w273, w271, rfl, N273, K273, sz_w273, E_w273_273c, F_w273_value_273c, sz_w271, E_w271_273, F_w271_isPresent_273, F_w271_value_273⟩) (fun fs hr => retOut X273 hx Bd.returns rfl (Or.inr (Or.inr (Or.inr (Or.inr ⟨rfl, rfl, rfl⟩)))) (hb hby d27_29) hr)
def Q_rm_age_z1 (Z : State) (th : Addr) (rr : Addr) (em : Addr) (q1 : Int64) (q2 : Int64) (op : Addr) (eo : Addr) (nw : Addr) (h0 : Heap) (n0 : Nat) (v : Option Value) (h : Heap) (L : List Loc) : Prop := ∃ w : Addr, v = some (.ref w) ∧ Fr n0 L ∧ Keep h0 h [] ∧ h0.size ≤ w ∧ Exa Z h w cOL ∧ Fld Z h w cOL nIP "Z" (.int (1 : Int32)) ∧ Fld Z h w cOL "value" "J" (.long (0 : Int64))
set_option maxRecDepth 65536 in
set_option maxHeartbeats 40000000 in
theorem rm_age_z1 (l : Launch) (Z : State) (a0 : Array Value) (hw : ∀ d ∈ tables_1, d.before a0 Z = true) (ws : List Jvm.Cond) (th : Addr) (rr : Addr) (em : Addr) (q1 : Int64) (q2 : Int64) (op : Addr) (eo : Addr) (nw : Addr) (h0 : Heap) (n0 : Nat) (Z0 : n0 ≤ h0.size) (O0 : Old Z n0 h0) (E_th : Exa Z h0 th cPL) (F_th_offset : Fld Z h0 th cPL "offset" "J" (.long q1)) (F_th_end : Fld Z h0 th cPL "end" "J" (.long q2)) (F_th_records : Fld Z h0 th cPL "records" dOP (.ref op)) (E_op : Exa Z h0 op cOP) (F_op_value : Fld Z h0 op cOP "value" dOB (.ref rr)) (E_rr : Exa Z h0 rr cRR) (F_rr_onlyMarkersLeft : Fld Z h0 rr cRR nOM "Z" (.int (1 : Int32))) (F_rr_newestTimestamp : Fld Z h0 rr cRR nNT dOL (.ref nw)) (S_OptionalLong_EMPTY_old : Sta Z Z.heap cOL "EMPTY" dOL (.ref em)) (E_em_old : Exa Z Z.heap em cOL) (F_em_isPresent_old : Fld Z Z.heap em cOL nIP "Z" (.int (0 : Int32))) (F_em_value_old : Fld Z Z.heap em cOL "value" "J" (.long (0 : Int64))) (S_Optional_EMPTY_old : Sta Z Z.heap cOP "EMPTY" dOP (.ref eo)) (E_eo_old : Exa Z Z.heap eo cOP) (F_eo_value_old : Fld Z Z.heap eo cOP "value" dOB .null) (hle : ¬ ((0 : Int32) < (XT.cmpL q1 q2))) :
    MetFree l Y30 (head1 (Cond.code Y30 prog_13_method_4_code 1 (some (.object cOL)) :: ws) r20) (fun a U => a = #[(.ref th)] ∧ Z.Warmed39 U.vm ∧ U.heap = h0) (fun _ _ _ _ _ => True) (fun _ U o U' => ∃ v L, o = .returned v ∧ Q_rm_age_z1 Z th rr em q1 q2 op eo nw h0 n0 v U'.heap L ∧ FrameEnd U o U' L r20.cells r20.slots) := by
  refine MetFree.of_bodySF (plainFor_of_name pn_com_example_log_lag_gauge_loglaggauge_model_PositionLag) hisR ?_
  intro p e s m args below meth c s₁ Bd hml0 hP hK
  obtain ⟨rfl, hZ, hh⟩ := hP
  have hx := Bd.exec
  have hby := Bd.bytes
  have hml : c.maxLocals = 1 := hml0
  have hown : s.vm.findClass cPL = some m.cls := findClass_of_methodNamed Bd.named
  have hnm := (name_of_methodNamed Bd.named Bd.method).1
  have X0 : Stand p l e r20 s m #[(.ref th)] below meth c s₁ [] 0 0 := Stand.of_body Bd
  have e0 : s₁.heap = h0 := by rw [← hh, Bd.state]; rfl
  have N0 := Fr.nil n0
  refine Goes.out (l := l) (c := c) (R := r20) (Q := Q_rm_age_z1 Z th rr em q1 q2 op eo nw h0 n0) Bd.notSynchronized ?_
  refine Goes.cast (g2 := mkF m 0 #[rv th] []) (by first | (simp [entryFrame, mkF, argsToLocals, Value.category]; done) | rfl) ?_
  have K0 : Keep h0 h0 [] := Keep.refl h0 _
  have hws : ∀ x ∈ ([] : List Addr), n0 ≤ x := all0
  refine gs s₁ (mkF m 1 #[rv th] [(.ref th)]) (fun _ hr => XS.aloadN X0.here hx rfl (hb hby d28_0) rfl rfl hr) ?_
  obtain ⟨T274, X274, e274, st274⟩ := getF X0 hx hZ hown (host := "") (Or.inl (tw hw 41 rfl)) Via.refl e0 F_th_records (g := (mkF m 1 #[rv th] [(.ref th)])) rfl rfl (hb hby d28_1)
  refine gs T274 (mkF m 4 #[rv th] [(.ref op)]) st274 ?_
  refine gs T274 (mkF m 5 #[rv th] [(.ref th), (.ref op)]) (fun _ hr => XS.aloadN X274.here hx rfl (hb hby d28_4) rfl rfl hr) ?_
  obtain ⟨T275, h275, c275, X275, e275, E275, A275, Md275, st275⟩ := own_siteMakes X274 hx hZ (x := Y30) (pc := 5) (fi := 15) (σ := sgA) Bd.named (tw hw 48 rfl) (by decide) cpA (tw hw 51 rfl) e274 (g := (mkF m 5 #[rv th] [(.ref th), (.ref op)])) rfl rfl (by rw [hml]; rfl) (hb hby d28_5) (vals := [(.ref th)]) (rest := [(.ref op)]) rfl rfl own_fit1 (by show 2 * 0 + 2 + 3072 ≤ _; decide) (N := 1) rfl (by decide) (by decide)
  obtain ⟨b275, g275⟩ : ∃ z, z = h0.size := ⟨_, rfl⟩
  rw [← g275] at A275 st275
  have E_th_275 : Exa Z h275 th cPL := E_th.ext E275
  have F_th_offset_275 : Fld Z h275 th cPL "offset" "J" (.long q1) := F_th_offset.ext E275
  have F_th_end_275 : Fld Z h275 th cPL "end" "J" (.long q2) := F_th_end.ext E275
  have F_th_records_275 : Fld Z h275 th cPL "records" dOP (.ref op) := F_th_records.ext E275
  have E_op_275 : Exa Z h275 op cOP := E_op.ext E275
  have F_op_value_275 : Fld Z h275 op cOP "value" dOB (.ref rr) := F_op_value.ext E275
  have E_rr_275 : Exa Z h275 rr cRR := E_rr.ext E275
  have F_rr_onlyMarkersLeft_275 : Fld Z h275 rr cRR nOM "Z" (.int (1 : Int32)) := F_rr_onlyMarkersLeft.ext E275
  have F_rr_newestTimestamp_275 : Fld Z h275 rr cRR nNT dOL (.ref nw) := F_rr_newestTimestamp.ext E275
  have K275 : Keep h0 h275 [] := K0.ext E275
  refine gs T275 (mkF m 10 #[rv th] [(.ref b275), (.ref op)]) st275 ?_
  have Zs276 : n0 ≤ h275.size := Nat.le_trans Z0 K275.1
  obtain ⟨cq277, kq277, q277a, q277b, q277c⟩ := isOf hZ e275 E_op_275
  obtain ⟨_, _, ⟨T277, L277, k277, n277⟩, -, X277, ⟨Lc277, hQ277, l277, y277, z277⟩, st277⟩ := X275.virtualBack hx (y := Y29) (z := Y29) hown (mvT hZ (tw hw 52 rfl)) (mvT hZ (tw hw 53 rfl)) (notFace_of_selects (args := #[]) (mvT hZ (tw hw 55 rfl))) (mvT hZ (tw hw 55 rfl)) (mvT hZ (tw hw 54 rfl)) (by decide) (backOf (W := 0) (rm_map_z1 l Z a0 hw [] th rr em q1 q2 op eo nw b275 c275 h275 n0 Zs276 (Old.keep O0 K275 hws) E_th_275 F_th_offset_275 F_th_end_275 F_th_records_275 E_op_275 F_op_value_275 E_rr_275 F_rr_onlyMarkersLeft_275 F_rr_newestTimestamp_275 A275 S_OptionalLong_EMPTY_old E_em_old F_em_isPresent_old F_em_value_old S_Optional_EMPTY_old E_eo_old F_eo_value_old hle Md275) hZ (tw hw 56 rfl) (tw hw 8 rfl) (by decide) (by decide)) q277a q277c (g := (mkF m 10 #[rv th] [(.ref b275), (.ref op)])) rfl (by rw [hml]; rfl) (Steps.refl _) (argsL := [(.ref b275)]) (rest := []) (lenOf pd_16 rfl) rfl (wle rfl) (hb hby d28_10) (fun _ _ => ⟨rfl, e275, (by decide : 1 + 6 ≤ _), (by decide : 1 + 11 ≤ _)⟩)
  dsimp only [Pt.U, Pt.locs, Pt.cells, Pt.slots] at X277 l277 y277 z277 st277 hQ277
  subst l277 y277 z277
  obtain ⟨w277, wr277, rfl, N277q, Kc277, P277_0, P277_1, P277_2, P277_3, P277_4, P277_5, P277_6⟩ := hQ277
  have N277 := Fr.app N0 N277q
  have K277 : Keep h0 T277.heap [] := K275.trans Kc277 all0
  have E_w277_277c : Exa Z T277.heap w277 cOP := P277_1
  have F_w277_value_277c : Fld Z T277.heap w277 cOP "value" dOB (.ref wr277) := P277_2
  have sz_wr277 : h0.size ≤ wr277 := Nat.le_trans K275.1 P277_3
  have E_wr277_277c : Exa Z T277.heap wr277 cOL := P277_4
  have F_wr277_isPresent_277c : Fld Z T277.heap wr277 cOL nIP "Z" (.int (1 : Int32)) := P277_5
  have F_wr277_value_277c : Fld Z T277.heap wr277 cOL "value" "J" (.long (0 : Int64)) := P277_6
  refine gs T277 (mkF m 13 #[rv th] [(.ref w277)]) (fun _ hr => st277.trans hr) ?_
  have Zs278 : n0 ≤ T277.heap.size := Nat.le_trans Z0 K277.1
  obtain ⟨_, _, ⟨T279, L279, k279, n279⟩, -, X279, ⟨Lc279, hQ279, l279, y279, z279⟩, st279⟩ := LawKit.callS X277 hx (y := Y4) hown (mvT hZ (tw hw 68 rfl)) (mvT hZ (tw hw 2 rfl)) (mvT hZ (tw hw 3 rfl)) (mvT hZ (tw hw 4 rfl)) (by decide) (backOf (W := 1) (rm_olem l Z a0 hw [] em T277.heap n0 Zs278 (Old.keep O0 K277 hws) S_OptionalLong_EMPTY_old) hZ (tw hw 4 rfl) (tw hw 3 rfl) (by decide) (by decide)) (g := (mkF m 13 #[rv th] [(.ref w277)])) rfl (by rw [hml]; rfl) (argsL := []) (rest := [(.ref w277)]) (lenOf pd_6 rfl) rfl (wle rfl) (hb hby d28_13) (fun _ _ => ⟨rfl, rfl, (by decide : 7 + 0 ≤ _), (by decide : 12 + 0 ≤ _)⟩)
  dsimp only [Pt.U, Pt.locs, Pt.cells, Pt.slots] at X279 l279 y279 z279 st279 hQ279
  subst l279 y279 z279
  obtain ⟨rfl, N279q, e279⟩ := hQ279
  have N279 := Fr.app N277 N279q
  refine gs T279 (mkF m 16 #[rv th] [(.ref em), (.ref w277)]) st279 ?_
  have Zs280 : n0 ≤ T277.heap.size := Nat.le_trans Z0 K277.1
  obtain ⟨cq281, kq281, q281a, q281b, q281c⟩ := isOf hZ e279 E_w277_277c
  obtain ⟨_, _, ⟨T281, L281, k281, n281⟩, -, X281, ⟨Lc281, hQ281, l281, y281, z281⟩, st281⟩ := X279.virtualBack hx (y := Y20) (z := Y20) hown (mvT hZ (tw hw 69 rfl)) (mvT hZ (tw hw 70 rfl)) (notFace_of_selects (args := #[]) (mvT hZ (tw hw 72 rfl))) (mvT hZ (tw hw 72 rfl)) (mvT hZ (tw hw 71 rfl)) (by decide) (backOf (W := 0) (rm_oore1 l Z a0 hw [] w277 wr277 em T277.heap n0 Zs280 (Old.keep O0 K277 hws) F_w277_value_277c) hZ (tw hw 73 rfl) (tw hw 8 rfl) (by decide) (by decide)) q281a q281c (g := (mkF m 16 #[rv th] [(.ref em), (.ref w277)])) rfl (by rw [hml]; rfl) (Steps.refl _) (argsL := [(.ref em)]) (rest := []) (lenOf pd_3 rfl) rfl (wle rfl) (hb hby d28_16) (fun _ _ => ⟨rfl, e279, (by decide : 7 + 0 ≤ _), (by decide : 12 + 0 ≤ _)⟩)
  dsimp only [Pt.U, Pt.locs, Pt.cells, Pt.slots] at X281 l281 y281 z281 st281 hQ281
  subst l281 y281 z281
  obtain ⟨rfl, N281q, e281⟩ := hQ281
  have N281 := Fr.app N279 N281q
  refine gs T281 (mkF m 19 #[rv th] [(.ref wr277)]) (fun _ hr => st281.trans hr) ?_
  obtain ⟨T282, X282, e282, st282⟩ := castY X281 hx hZ hown (tw hw 74 rfl) e281 (Ins.self E_wr277_277c) (g := (mkF m 19 #[rv th] [(.ref wr277)])) rfl rfl (hb hby d28_19)
  refine gs T282 (mkF m 22 #[rv th] [(.ref wr277)]) st282 ?_
  exact Goes.ret (v := some (.ref wr277)) X282 (by decide) (by decide) (fun h => by rw [Bd.returns] at h; cases h) (by show Q_rm_age_z1 Z th rr em q1 q2 op eo nw h0 n0 _ T282.heap _; rw [e282]; exact ⟨wr277, rfl, N281, K277, sz_wr277, E_wr277_277c, F_wr277_isPresent_277c, F_wr277_value_277c⟩) (fun fs hr => retOut X282 hx Bd.returns rfl (Or.inr (Or.inr (Or.inr (Or.inr ⟨rfl, rfl, rfl⟩)))) (hb hby d28_22) hr)
def Q_rm_lam_z0 (Z : State) (th : Addr) (rr : Addr) (em : Addr) (q1 : Int64) (q2 : Int64) (op : Addr) (eo : Addr) (nw : Addr) (h0 : Heap) (n0 : Nat) (v : Option Value) (h : Heap) (L : List Loc) : Prop := ∃ w : Addr, v = some (.ref w) ∧ Fr n0 L ∧ Keep h0 h [] ∧ h0.size ≤ w ∧ Exa Z h w cOL ∧ Fld Z h w cOL nIP "Z" (.int (1 : Int32)) ∧ Fld Z h w cOL "value" "J" (.long (0 : Int64))
set_option maxRecDepth 65536 in
set_option maxHeartbeats 40000000 in
theorem rm_lam_z0 (l : Launch) (Z : State) (a0 : Array Value) (hw : ∀ d ∈ tables_1, d.before a0 Z = true) (ws : List Jvm.Cond) (th : Addr) (rr : Addr) (em : Addr) (q1 : Int64) (q2 : Int64) (op : Addr) (eo : Addr) (nw : Addr) (h0 : Heap) (n0 : Nat) (Z0 : n0 ≤ h0.size) (O0 : Old Z n0 h0) (E_th : Exa Z h0 th cPL) (F_th_offset : Fld Z h0 th cPL "offset" "J" (.long q1)) (F_th_end : Fld Z h0 th cPL "end" "J" (.long q2)) (F_th_records : Fld Z h0 th cPL "records" dOP (.ref op)) (E_op : Exa Z h0 op cOP) (F_op_value : Fld Z h0 op cOP "value" dOB (.ref rr)) (E_rr : Exa Z h0 rr cRR) (F_rr_onlyMarkersLeft : Fld Z h0 rr cRR nOM "Z" (.int (0 : Int32))) (F_rr_newestTimestamp : Fld Z h0 rr cRR nNT dOL (.ref nw)) (S_OptionalLong_EMPTY_old : Sta Z Z.heap cOL "EMPTY" dOL (.ref em)) (E_em_old : Exa Z Z.heap em cOL) (F_em_isPresent_old : Fld Z Z.heap em cOL nIP "Z" (.int (0 : Int32))) (F_em_value_old : Fld Z Z.heap em cOL "value" "J" (.long (0 : Int64))) (S_Optional_EMPTY_old : Sta Z Z.heap cOP "EMPTY" dOP (.ref eo)) (E_eo_old : Exa Z Z.heap eo cOP) (F_eo_value_old : Fld Z Z.heap eo cOP "value" dOB .null) (hle : ¬ ((0 : Int32) < (XT.cmpL q1 q2))) (hzz : ¬ ((0 : Int32) < (XT.cmpL (q2 - q1) (0 : Int64)))) :
    MetFree l Y0 (head1 (Cond.code Y0 prog_13_method_14_code 2 (some (.object cOL)) :: ws) r21) (fun a U => a = #[(.ref th), (.ref rr)] ∧ Z.Warmed39 U.vm ∧ U.heap = h0) (fun _ _ _ _ _ => True) (fun _ U o U' => ∃ v L, o = .returned v ∧ Q_rm_lam_z0 Z th rr em q1 q2 op eo nw h0 n0 v U'.heap L ∧ FrameEnd U o U' L r21.cells r21.slots) := by
  refine MetFree.of_bodySF (plainFor_of_name pn_com_example_log_lag_gauge_loglaggauge_model_PositionLag) hisR ?_
  intro p e s m args below meth c s₁ Bd hml0 hP hK
  obtain ⟨rfl, hZ, hh⟩ := hP
  have hx := Bd.exec
  have hby := Bd.bytes
  have hml : c.maxLocals = 2 := hml0
  have hown : s.vm.findClass cPL = some m.cls := findClass_of_methodNamed Bd.named
  have hnm := (name_of_methodNamed Bd.named Bd.method).1
  have X0 : Stand p l e r21 s m #[(.ref th), (.ref rr)] below meth c s₁ [] 0 0 := Stand.of_body Bd
  have e0 : s₁.heap = h0 := by rw [← hh, Bd.state]; rfl
  have N0 := Fr.nil n0
  refine Goes.out (l := l) (c := c) (R := r21) (Q := Q_rm_lam_z0 Z th rr em q1 q2 op eo nw h0 n0) Bd.notSynchronized ?_
  refine Goes.cast (g2 := mkF m 0 #[rv th, rv rr] []) (by first | (simp [entryFrame, mkF, argsToLocals, Value.category]; done) | rfl) ?_
  have K0 : Keep h0 h0 [] := Keep.refl h0 _
  have hws : ∀ x ∈ ([] : List Addr), n0 ≤ x := all0
  refine gs s₁ (mkF m 1 #[rv th, rv rr] [(.ref th)]) (fun _ hr => XS.aloadN X0.here hx rfl (hb hby d26_0) rfl rfl hr) ?_
  refine gs s₁ (mkF m 2 #[rv th, rv rr] [(.ref rr), (.ref th)]) (fun _ hr => XS.aloadN X0.here hx rfl (hb hby d26_1) rfl rfl hr) ?_
  refine gs s₁ (mkF m 3 #[rv th, rv rr] [(.ref rr), (.ref rr), (.ref th)]) (fun _ hr => XS.aloadN X0.here hx rfl (hb hby d26_2) rfl rfl hr) ?_
  have Zs283 : n0 ≤ h0.size := Nat.le_trans Z0 K0.1
  obtain ⟨cq284, kq284, q284a, q284b, q284c⟩ := isOf hZ e0 E_rr
  obtain ⟨_, _, ⟨T284, L284, k284, n284⟩, -, X284, ⟨Lc284, hQ284, l284, y284, z284⟩, st284⟩ := X0.virtualBack hx (y := Y12) (z := Y12) hown (mvT hZ (tw hw 129 rfl)) (mvT hZ (tw hw 130 rfl)) (notFace_of_selects (args := #[]) (mvT hZ (tw hw 132 rfl))) (mvT hZ (tw hw 132 rfl)) (mvT hZ (tw hw 131 rfl)) (by decide) (backOf (W := 2) (rm_newestTimestamp l Z a0 hw [] rr nw h0 n0 Zs283 (Old.keep O0 K0 hws) F_rr_newestTimestamp) hZ (tw hw 133 rfl) (tw hw 96 rfl) (by decide) (by decide)) q284a q284c (g := (mkF m 3 #[rv th, rv rr] [(.ref rr), (.ref rr), (.ref th)])) rfl (by rw [hml]; rfl) (Steps.refl _) (argsL := []) (rest := [(.ref rr), (.ref th)]) (lenOf pd_6 rfl) rfl (wle rfl) (hb hby d26_3) (fun _ _ => ⟨rfl, e0, (by decide : 0 + 0 ≤ _), (by decide : 0 + 0 ≤ _)⟩)
  dsimp only [Pt.U, Pt.locs, Pt.cells, Pt.slots] at X284 l284 y284 z284 st284 hQ284
  subst l284 y284 z284
  obtain ⟨rfl, N284q, e284⟩ := hQ284
  have N284 := Fr.app N0 N284q
  refine gs T284 (mkF m 6 #[rv th, rv rr] [(.ref nw), (.ref rr), (.ref th)]) (fun _ hr => st284.trans hr) ?_
  have Zs285 : n0 ≤ h0.size := Nat.le_trans Z0 K0.1
  obtain ⟨cl286, kl286, q286a, -, -, q286d, -⟩ := id E_th
  obtain ⟨_, _, ⟨T286, L286, k286, n286⟩, -, X286, ⟨Lc286, hQ286, l286, y286, z286⟩, st286⟩ := X284.privateBack hx (y := Y27) hown (mvT hZ (tw hw 134 rfl)) (mvT hZ (tw hw 135 rfl)) (own_selP (mvT hZ (tw hw 12 rfl)) (mvT hZ (tw hw 136 rfl)) (mvT hZ (tw hw 135 rfl)) (by decide)) (Cond.privateMethod_at (args := #[]) (mvT hZ (tw hw 136 rfl))) (mvT hZ (tw hw 137 rfl)) (by decide) (backOf (W := 0) (rm_beh_z0 l Z a0 hw [] th rr em q1 q2 op eo nw h0 n0 Zs285 (Old.keep O0 K0 hws) E_th F_th_offset F_th_end F_th_records E_op F_op_value E_rr F_rr_onlyMarkersLeft S_OptionalLong_EMPTY_old E_em_old F_em_isPresent_old F_em_value_old S_Optional_EMPTY_old E_eo_old F_eo_value_old hle hzz) hZ (tw hw 137 rfl) (tw hw 13 rfl) (by decide) (by decide)) (g := (mkF m 6 #[rv th, rv rr] [(.ref nw), (.ref rr), (.ref th)])) rfl (by rw [hml]; rfl) (Steps.refl _) (own_at e284 q286a) (fun q z => by rw [z] at q286d; cases q286d) (argsL := [(.ref rr), (.ref nw)]) (rest := []) (lenOf pd_14 rfl) rfl (wle rfl) (hb hby d26_6) (fun _ _ => ⟨rfl, e284, (by decide : 0 + 4 ≤ _), (by decide : 0 + 8 ≤ _)⟩)
  dsimp only [Pt.U, Pt.locs, Pt.cells, Pt.slots] at X286 l286 y286 z286 st286 hQ286
  subst l286 y286 z286
  obtain ⟨w286, rfl, N286q, Kc286, P286_0, P286_1, P286_2, P286_3⟩ := hQ286
  have N286 := Fr.app N284 N286q
  have K286 : Keep h0 T286.heap [] := K0.trans Kc286 all0
  have sz_w286 : h0.size ≤ w286 := Nat.le_trans K0.1 P286_0
  have E_w286_286c : Exa Z T286.heap w286 cOL := P286_1
  have F_w286_isPresent_286c : Fld Z T286.heap w286 cOL nIP "Z" (.int (1 : Int32)) := P286_2
  have F_w286_value_286c : Fld Z T286.heap w286 cOL "value" "J" (.long (0 : Int64)) := P286_3
  refine gs T286 (mkF m 9 #[rv th, rv rr] [(.ref w286)]) (fun _ hr => st286.trans hr) ?_
  exact Goes.ret (v := some (.ref w286)) X286 (by decide) (by decide) (fun h => by rw [Bd.returns] at h; cases h) (by show Q_rm_lam_z0 Z th rr em q1 q2 op eo nw h0 n0 _ T286.heap _; exact ⟨w286, rfl, N286, K286, sz_w286, E_w286_286c, F_w286_isPresent_286c, F_w286_value_286c⟩) (fun fs hr => retOut X286 hx Bd.returns rfl (Or.inr (Or.inr (Or.inr (Or.inr ⟨rfl, rfl, rfl⟩)))) (hb hby d26_9) hr)
def Q_rm_map_z0 (Z : State) (th : Addr) (rr : Addr) (em : Addr) (q1 : Int64) (q2 : Int64) (op : Addr) (eo : Addr) (nw : Addr) (fa : Addr) (cK : ClassId) (h0 : Heap) (n0 : Nat) (v : Option Value) (h : Heap) (L : List Loc) : Prop := ∃ w : Addr, ∃ wr : Addr, v = some (.ref w) ∧ Fr n0 L ∧ Keep h0 h [] ∧ h0.size ≤ w ∧ Exa Z h w cOP ∧ Fld Z h w cOP "value" dOB (.ref wr) ∧ h0.size ≤ wr ∧ Exa Z h wr cOL ∧ Fld Z h wr cOL nIP "Z" (.int (1 : Int32)) ∧ Fld Z h wr cOL "value" "J" (.long (0 : Int64))
set_option maxRecDepth 65536 in
set_option maxHeartbeats 40000000 in
theorem rm_map_z0 (l : Launch) (Z : State) (a0 : Array Value) (hw : ∀ d ∈ tables_1, d.before a0 Z = true) (ws : List Jvm.Cond) (th : Addr) (rr : Addr) (em : Addr) (q1 : Int64) (q2 : Int64) (op : Addr) (eo : Addr) (nw : Addr) (fa : Addr) (cK : ClassId) (h0 : Heap) (n0 : Nat) (Z0 : n0 ≤ h0.size) (O0 : Old Z n0 h0) (E_th : Exa Z h0 th cPL) (F_th_offset : Fld Z h0 th cPL "offset" "J" (.long q1)) (F_th_end : Fld Z h0 th cPL "end" "J" (.long q2)) (F_th_records : Fld Z h0 th cPL "records" dOP (.ref op)) (E_op : Exa Z h0 op cOP) (F_op_value : Fld Z h0 op cOP "value" dOB (.ref rr)) (E_rr : Exa Z h0 rr cRR) (F_rr_onlyMarkersLeft : Fld Z h0 rr cRR nOM "Z" (.int (0 : Int32))) (F_rr_newestTimestamp : Fld Z h0 rr cRR nNT dOL (.ref nw)) (G_fa : FnV h0 fa cK #[(.ref th)]) (S_OptionalLong_EMPTY_old : Sta Z Z.heap cOL "EMPTY" dOL (.ref em)) (E_em_old : Exa Z Z.heap em cOL) (F_em_isPresent_old : Fld Z Z.heap em cOL nIP "Z" (.int (0 : Int32))) (F_em_value_old : Fld Z Z.heap em cOL "value" "J" (.long (0 : Int64))) (S_Optional_EMPTY_old : Sta Z Z.heap cOP "EMPTY" dOP (.ref eo)) (E_eo_old : Exa Z Z.heap eo cOP) (F_eo_value_old : Fld Z Z.heap eo cOP "value" dOB .null) (hle : ¬ ((0 : Int32) < (XT.cmpL q1 q2))) (hzz : ¬ ((0 : Int32) < (XT.cmpL (q2 - q1) (0 : Int64)))) (Md : Jvm.LamKit.Made Z cPL sgA cK) :
    MetFree l Y29 (head1 (Cond.code Y29 jdk_32_method_11_code 2 (some (.object cOP)) :: ws) r22) (fun a U => a = #[(.ref op), (.ref fa)] ∧ Z.Warmed39 U.vm ∧ U.heap = h0) (fun _ _ _ _ _ => True) (fun _ U o U' => ∃ v L, o = .returned v ∧ Q_rm_map_z0 Z th rr em q1 q2 op eo nw fa cK h0 n0 v U'.heap L ∧ FrameEnd U o U' L r22.cells r22.slots) := by
  refine MetFree.of_bodySF (plainFor_of_name pn_java_util_Optional) hisR ?_
  intro p e s m args below meth c s₁ Bd hml0 hP hK
  obtain ⟨rfl, hZ, hh⟩ := hP
  have hx := Bd.exec
  have hby := Bd.bytes
  have hml : c.maxLocals = 2 := hml0
  have hown : s.vm.findClass cOP = some m.cls := findClass_of_methodNamed Bd.named
  have hnm := (name_of_methodNamed Bd.named Bd.method).1
  have X0 : Stand p l e r22 s m #[(.ref op), (.ref fa)] below meth c s₁ [] 0 0 := Stand.of_body Bd
  have e0 : s₁.heap = h0 := by rw [← hh, Bd.state]; rfl
  have N0 := Fr.nil n0
  refine Goes.out (l := l) (c := c) (R := r22) (Q := Q_rm_map_z0 Z th rr em q1 q2 op eo nw fa cK h0 n0) Bd.notSynchronized ?_
  refine Goes.cast (g2 := mkF m 0 #[rv op, rv fa] []) (by first | (simp [entryFrame, mkF, argsToLocals, Value.category]; done) | rfl) ?_
  have K0 : Keep h0 h0 [] := Keep.refl h0 _
  have hws : ∀ x ∈ ([] : List Addr), n0 ≤ x := all0
  refine gs s₁ (mkF m 1 #[rv op, rv fa] [(.ref fa)]) (fun _ hr => XS.aloadN X0.here hx rfl (hb hby d27_0) rfl rfl hr) ?_
  have Zs287 : n0 ≤ h0.size := Nat.le_trans Z0 K0.1
  obtain ⟨_, _, ⟨T288, L288, k288, n288⟩, -, X288, ⟨Lc288, hQ288, l288, y288, z288⟩, st288⟩ := LawKit.callS X0 hx (y := Y13) hown (mvT hZ (tw hw 57 rfl)) (mvT hZ (tw hw 58 rfl)) (mvT hZ (tw hw 35 rfl)) (mvT hZ (tw hw 59 rfl)) (by decide) (backOf (W := 0) (rm_rnn1 l Z a0 hw [] fa h0 n0 Zs287 (Old.keep O0 K0 hws)) hZ (tw hw 59 rfl) (tw hw 35 rfl) (by decide) (by decide)) (g := (mkF m 1 #[rv op, rv fa] [(.ref fa)])) rfl (by rw [hml]; rfl) (argsL := [(.ref fa)]) (rest := []) (lenOf pd_3 rfl) rfl (wle rfl) (hb hby d27_1) (fun _ _ => ⟨rfl, e0, (by decide : 0 + 0 ≤ _), (by decide : 0 + 0 ≤ _)⟩)
  dsimp only [Pt.U, Pt.locs, Pt.cells, Pt.slots] at X288 l288 y288 z288 st288 hQ288
  subst l288 y288 z288
  obtain ⟨rfl, N288q, e288⟩ := hQ288
  have N288 := Fr.app N0 N288q
  refine gs T288 (mkF m 4 #[rv op, rv fa] [(.ref fa)]) st288 ?_
  refine gs T288 (mkF m 5 #[rv op, rv fa] []) (fun _ hr => XT.pop X288.here hx rfl (hb hby d27_4) rfl rfl hr) ?_
  refine gs T288 (mkF m 6 #[rv op, rv fa] [(.ref op)]) (fun _ hr => XS.aloadN X288.here hx rfl (hb hby d27_5) rfl rfl hr) ?_
  have Zs289 : n0 ≤ h0.size := Nat.le_trans Z0 K0.1
  obtain ⟨cq290, kq290, q290a, q290b, q290c⟩ := isOf hZ e288 E_op
  obtain ⟨_, _, ⟨T290, L290, k290, n290⟩, -, X290, ⟨Lc290, hQ290, l290, y290, z290⟩, st290⟩ := X288.virtualBack hx (y := Y18) (z := Y18) hown (mvT hZ (tw hw 60 rfl)) (mvT hZ (tw hw 61 rfl)) (notFace_of_selects (args := #[]) (mvT hZ (tw hw 63 rfl))) (mvT hZ (tw hw 63 rfl)) (mvT hZ (tw hw 62 rfl)) (by decide) (backOf (W := 0) (rm_oise1 l Z a0 hw [] op rr h0 n0 Zs289 (Old.keep O0 K0 hws) F_op_value) hZ (tw hw 64 rfl) (tw hw 8 rfl) (by decide) (by decide)) q290a q290c (g := (mkF m 6 #[rv op, rv fa] [(.ref op)])) rfl (by rw [hml]; rfl) (Steps.refl _) (argsL := []) (rest := []) (lenOf pd_1 rfl) rfl (wle rfl) (hb hby d27_6) (fun _ _ => ⟨rfl, e288, (by decide : 0 + 0 ≤ _), (by decide : 0 + 0 ≤ _)⟩)
  dsimp only [Pt.U, Pt.locs, Pt.cells, Pt.slots] at X290 l290 y290 z290 st290 hQ290
  subst l290 y290 z290
  obtain ⟨rfl, N290q, e290⟩ := hQ290
  have N290 := Fr.app N288 N290q
  refine gs T290 (mkF m 9 #[rv op, rv fa] [(.int (0 : Int32))]) (fun _ hr => st290.trans hr) ?_
  refine gs T290 (mkF m 16 #[rv op, rv fa] []) (fun _ hr => XS.ifYes X290.here hx rfl (pc0 := 9) (pc' := 16) rfl (hb hby d27_9) rfl ((if0 _ _).trans (teq (by decide : (0 : Int32) = (0 : Int32))).1) (by decide) (by decide) hr) ?_
  refine gs T290 (mkF m 17 #[rv op, rv fa] [(.ref fa)]) (fun _ hr => XS.aloadN X290.here hx rfl (hb hby d27_16) rfl rfl hr) ?_
  refine gs T290 (mkF m 18 #[rv op, rv fa] [(.ref op), (.ref fa)]) (fun _ hr => XS.aloadN X290.here hx rfl (hb hby d27_17) rfl rfl hr) ?_
  obtain ⟨T291, X291, e291, st291⟩ := getF X290 hx hZ hown (host := "") (Or.inl (tw hw 65 rfl)) Via.refl e290 F_op_value (g := (mkF m 18 #[rv op, rv fa] [(.ref op), (.ref fa)])) rfl rfl (hb hby d27_18)
  refine gs T291 (mkF m 21 #[rv op, rv fa] [(.ref rr), (.ref fa)]) st291 ?_
  have Zs292 : n0 ≤ h0.size := Nat.le_trans Z0 K0.1
  obtain ⟨_, T293, Lc293, X293, hQ293, st293⟩ := own_callFace X291 hx hZ (xi := Y28) hown (tw hw 122 rfl) (tw hw 123 rfl) (tw hw 124 rfl) ⟨rfl, rfl, by decide +kernel⟩ (by decide) Md e291 G_fa okA (g := (mkF m 21 #[rv op, rv fa] [(.ref rr), (.ref fa)])) rfl (by rw [hml]; rfl) (argsL := [(.ref rr)]) (rest := []) (lenOf pd_3 rfl) rfl (hb hby d27_21) (R' := r23) (Q := Q_rm_lam_z0 Z th rr em q1 q2 op eo nw h0 n0) (by decide) (by show 2 * 0 + 0 + 13 + 3116 ≤ _; decide) (by decide) (by decide) (fun s' U bl mk ck Y' hZ' eU zq1 zq2 zq3 => bodyA hx Y' hZ' hw Md zq1 zq2 zq3 eU G_fa E_rr E_th (rm_lam_z0 l Z a0 hw [] th rr em q1 q2 op eo nw h0 n0 Zs292 (Old.keep O0 K0 hws) E_th F_th_offset F_th_end F_th_records E_op F_op_value E_rr F_rr_onlyMarkersLeft F_rr_newestTimestamp S_OptionalLong_EMPTY_old E_em_old F_em_isPresent_old F_em_value_old S_Optional_EMPTY_old E_eo_old F_eo_value_old hle hzz) (fun v h L q => by obtain ⟨_, rfl, -⟩ := q; exact ⟨_, rfl⟩) (by decide) (by decide) (by decide) (by decide))
  obtain ⟨w293, rfl, N293q, Kc293, P293_0, P293_1, P293_2, P293_3⟩ := hQ293
  have N293 := Fr.app N290 N293q
  have K293 : Keep h0 T293.heap [] := K0.trans Kc293 all0
  have sz_w293 : h0.size ≤ w293 := Nat.le_trans K0.1 P293_0
  have E_w293_293c : Exa Z T293.heap w293 cOL := P293_1
  have F_w293_isPresent_293c : Fld Z T293.heap w293 cOL nIP "Z" (.int (1 : Int32)) := P293_2
  have F_w293_value_293c : Fld Z T293.heap w293 cOL "value" "J" (.long (0 : Int64)) := P293_3
  refine gs T293 (mkF m 26 #[rv op, rv fa] [(.ref w293)]) st293 ?_
  have Zs294 : n0 ≤ T293.heap.size := Nat.le_trans Z0 K293.1
  obtain ⟨_, _, ⟨T295, L295, k295, n295⟩, -, X295, ⟨Lc295, hQ295, l295, y295, z295⟩, st295⟩ := LawKit.callS X293 hx (y := Y16) hown (mvT hZ (tw hw 161 rfl)) (mvT hZ (tw hw 162 rfl)) (mvT hZ (tw hw 8 rfl)) (mvT hZ (tw hw 163 rfl)) (by decide) (backOf (W := 0) (rm_oofn l Z a0 hw [] w293 T293.heap n0 Zs294 (Old.keep O0 K293 hws)) hZ (tw hw 163 rfl) (tw hw 8 rfl) (by decide) (by decide)) (g := (mkF m 26 #[rv op, rv fa] [(.ref w293)])) rfl (by rw [hml]; rfl) (argsL := [(.ref w293)]) (rest := []) (lenOf pd_15 rfl) rfl (wle rfl) (hb hby d27_26) (fun _ _ => ⟨rfl, rfl, (by decide : 4 + 1 ≤ _), (by decide : 8 + 1 ≤ _)⟩)
  dsimp only [Pt.U, Pt.locs, Pt.cells, Pt.slots] at X295 l295 y295 z295 st295 hQ295
  subst l295 y295 z295
  obtain ⟨w295, rfl, N295q, Kc295, P295_0, P295_1, P295_2⟩ := hQ295
  have N295 := Fr.app N293 N295q
  have E_w293_295 : Exa Z T295.heap w293 cOL := E_w293_293c.keep Kc295
  have F_w293_isPresent_295 : Fld Z T295.heap w293 cOL nIP "Z" (.int (1 : Int32)) := F_w293_isPresent_293c.keep Kc295 nin0
  have F_w293_value_295 : Fld Z T295.heap w293 cOL "value" "J" (.long (0 : Int64)) := F_w293_value_293c.keep Kc295 nin0
  have K295 : Keep h0 T295.heap [] := K293.trans Kc295 all0
  have sz_w295 : h0.size ≤ w295 := Nat.le_trans K293.1 P295_0
  have E_w295_295c : Exa Z T295.heap w295 cOP := P295_1
  have F_w295_value_295c : Fld Z T295.heap w295 cOP "value" dOB (.ref w293) := P295_2
  refine gs T295 (mkF m 29 #[rv op, rv fa] [(.ref w295)]) st295 ?_
  exact Goes.ret (v := some (.ref w295)) X295 (by decide) (by decide) (fun h => by rw [Bd.returns] at h; cases h) (by show Q_rm_map_z0 Z th rr em q1 q2 op eo nw fa cK h0 n0 _ T295.heap _; exact ⟨w295, w293, rfl, N295, K295, sz_w295, E_w295_295c, F_w295_value_295c, sz_w293, E_w293_295, F_w293_isPresent_295, F_w293_value_295⟩) (fun fs hr => retOut X295 hx Bd.returns rfl (Or.inr (Or.inr (Or.inr (Or.inr ⟨rfl, rfl, rfl⟩)))) (hb hby d27_29) hr)
def Q_rm_age_z0 (Z : State) (th : Addr) (rr : Addr) (em : Addr) (q1 : Int64) (q2 : Int64) (op : Addr) (eo : Addr) (nw : Addr) (h0 : Heap) (n0 : Nat) (v : Option Value) (h : Heap) (L : List Loc) : Prop := ∃ w : Addr, v = some (.ref w) ∧ Fr n0 L ∧ Keep h0 h [] ∧ h0.size ≤ w ∧ Exa Z h w cOL ∧ Fld Z h w cOL nIP "Z" (.int (1 : Int32)) ∧ Fld Z h w cOL "value" "J" (.long (0 : Int64))
set_option maxRecDepth 65536 in
set_option maxHeartbeats 40000000 in
theorem rm_age_z0 (l : Launch) (Z : State) (a0 : Array Value) (hw : ∀ d ∈ tables_1, d.before a0 Z = true) (ws : List Jvm.Cond) (th : Addr) (rr : Addr) (em : Addr) (q1 : Int64) (q2 : Int64) (op : Addr) (eo : Addr) (nw : Addr) (h0 : Heap) (n0 : Nat) (Z0 : n0 ≤ h0.size) (O0 : Old Z n0 h0) (E_th : Exa Z h0 th cPL) (F_th_offset : Fld Z h0 th cPL "offset" "J" (.long q1)) (F_th_end : Fld Z h0 th cPL "end" "J" (.long q2)) (F_th_records : Fld Z h0 th cPL "records" dOP (.ref op)) (E_op : Exa Z h0 op cOP) (F_op_value : Fld Z h0 op cOP "value" dOB (.ref rr)) (E_rr : Exa Z h0 rr cRR) (F_rr_onlyMarkersLeft : Fld Z h0 rr cRR nOM "Z" (.int (0 : Int32))) (F_rr_newestTimestamp : Fld Z h0 rr cRR nNT dOL (.ref nw)) (S_OptionalLong_EMPTY_old : Sta Z Z.heap cOL "EMPTY" dOL (.ref em)) (E_em_old : Exa Z Z.heap em cOL) (F_em_isPresent_old : Fld Z Z.heap em cOL nIP "Z" (.int (0 : Int32))) (F_em_value_old : Fld Z Z.heap em cOL "value" "J" (.long (0 : Int64))) (S_Optional_EMPTY_old : Sta Z Z.heap cOP "EMPTY" dOP (.ref eo)) (E_eo_old : Exa Z Z.heap eo cOP) (F_eo_value_old : Fld Z Z.heap eo cOP "value" dOB .null) (hle : ¬ ((0 : Int32) < (XT.cmpL q1 q2))) (hzz : ¬ ((0 : Int32) < (XT.cmpL (q2 - q1) (0 : Int64)))) :
    MetFree l Y30 (head1 (Cond.code Y30 prog_13_method_4_code 1 (some (.object cOL)) :: ws) r24) (fun a U => a = #[(.ref th)] ∧ Z.Warmed39 U.vm ∧ U.heap = h0) (fun _ _ _ _ _ => True) (fun _ U o U' => ∃ v L, o = .returned v ∧ Q_rm_age_z0 Z th rr em q1 q2 op eo nw h0 n0 v U'.heap L ∧ FrameEnd U o U' L r24.cells r24.slots) := by
  refine MetFree.of_bodySF (plainFor_of_name pn_com_example_log_lag_gauge_loglaggauge_model_PositionLag) hisR ?_
  intro p e s m args below meth c s₁ Bd hml0 hP hK
  obtain ⟨rfl, hZ, hh⟩ := hP
  have hx := Bd.exec
  have hby := Bd.bytes
  have hml : c.maxLocals = 1 := hml0
  have hown : s.vm.findClass cPL = some m.cls := findClass_of_methodNamed Bd.named
  have hnm := (name_of_methodNamed Bd.named Bd.method).1
  have X0 : Stand p l e r24 s m #[(.ref th)] below meth c s₁ [] 0 0 := Stand.of_body Bd
  have e0 : s₁.heap = h0 := by rw [← hh, Bd.state]; rfl
  have N0 := Fr.nil n0
  refine Goes.out (l := l) (c := c) (R := r24) (Q := Q_rm_age_z0 Z th rr em q1 q2 op eo nw h0 n0) Bd.notSynchronized ?_
  refine Goes.cast (g2 := mkF m 0 #[rv th] []) (by first | (simp [entryFrame, mkF, argsToLocals, Value.category]; done) | rfl) ?_
  have K0 : Keep h0 h0 [] := Keep.refl h0 _
  have hws : ∀ x ∈ ([] : List Addr), n0 ≤ x := all0
  refine gs s₁ (mkF m 1 #[rv th] [(.ref th)]) (fun _ hr => XS.aloadN X0.here hx rfl (hb hby d28_0) rfl rfl hr) ?_
  obtain ⟨T296, X296, e296, st296⟩ := getF X0 hx hZ hown (host := "") (Or.inl (tw hw 41 rfl)) Via.refl e0 F_th_records (g := (mkF m 1 #[rv th] [(.ref th)])) rfl rfl (hb hby d28_1)
  refine gs T296 (mkF m 4 #[rv th] [(.ref op)]) st296 ?_
  refine gs T296 (mkF m 5 #[rv th] [(.ref th), (.ref op)]) (fun _ hr => XS.aloadN X296.here hx rfl (hb hby d28_4) rfl rfl hr) ?_
  obtain ⟨T297, h297, c297, X297, e297, E297, A297, Md297, st297⟩ := own_siteMakes X296 hx hZ (x := Y30) (pc := 5) (fi := 15) (σ := sgA) Bd.named (tw hw 48 rfl) (by decide) cpA (tw hw 51 rfl) e296 (g := (mkF m 5 #[rv th] [(.ref th), (.ref op)])) rfl rfl (by rw [hml]; rfl) (hb hby d28_5) (vals := [(.ref th)]) (rest := [(.ref op)]) rfl rfl own_fit1 (by show 2 * 0 + 2 + 3072 ≤ _; decide) (N := 1) rfl (by decide) (by decide)
  obtain ⟨b297, g297⟩ : ∃ z, z = h0.size := ⟨_, rfl⟩
  rw [← g297] at A297 st297
  have E_th_297 : Exa Z h297 th cPL := E_th.ext E297
  have F_th_offset_297 : Fld Z h297 th cPL "offset" "J" (.long q1) := F_th_offset.ext E297
  have F_th_end_297 : Fld Z h297 th cPL "end" "J" (.long q2) := F_th_end.ext E297
  have F_th_records_297 : Fld Z h297 th cPL "records" dOP (.ref op) := F_th_records.ext E297
  have E_op_297 : Exa Z h297 op cOP := E_op.ext E297
  have F_op_value_297 : Fld Z h297 op cOP "value" dOB (.ref rr) := F_op_value.ext E297
  have E_rr_297 : Exa Z h297 rr cRR := E_rr.ext E297
  have F_rr_onlyMarkersLeft_297 : Fld Z h297 rr cRR nOM "Z" (.int (0 : Int32)) := F_rr_onlyMarkersLeft.ext E297
  have F_rr_newestTimestamp_297 : Fld Z h297 rr cRR nNT dOL (.ref nw) := F_rr_newestTimestamp.ext E297
  have K297 : Keep h0 h297 [] := K0.ext E297
  refine gs T297 (mkF m 10 #[rv th] [(.ref b297), (.ref op)]) st297 ?_
  have Zs298 : n0 ≤ h297.size := Nat.le_trans Z0 K297.1
  obtain ⟨cq299, kq299, q299a, q299b, q299c⟩ := isOf hZ e297 E_op_297
  obtain ⟨_, _, ⟨T299, L299, k299, n299⟩, -, X299, ⟨Lc299, hQ299, l299, y299, z299⟩, st299⟩ := X297.virtualBack hx (y := Y29) (z := Y29) hown (mvT hZ (tw hw 52 rfl)) (mvT hZ (tw hw 53 rfl)) (notFace_of_selects (args := #[]) (mvT hZ (tw hw 55 rfl))) (mvT hZ (tw hw 55 rfl)) (mvT hZ (tw hw 54 rfl)) (by decide) (backOf (W := 0) (rm_map_z0 l Z a0 hw [] th rr em q1 q2 op eo nw b297 c297 h297 n0 Zs298 (Old.keep O0 K297 hws) E_th_297 F_th_offset_297 F_th_end_297 F_th_records_297 E_op_297 F_op_value_297 E_rr_297 F_rr_onlyMarkersLeft_297 F_rr_newestTimestamp_297 A297 S_OptionalLong_EMPTY_old E_em_old F_em_isPresent_old F_em_value_old S_Optional_EMPTY_old E_eo_old F_eo_value_old hle hzz Md297) hZ (tw hw 56 rfl) (tw hw 8 rfl) (by decide) (by decide)) q299a q299c (g := (mkF m 10 #[rv th] [(.ref b297), (.ref op)])) rfl (by rw [hml]; rfl) (Steps.refl _) (argsL := [(.ref b297)]) (rest := []) (lenOf pd_16 rfl) rfl (wle rfl) (hb hby d28_10) (fun _ _ => ⟨rfl, e297, (by decide : 1 + 5 ≤ _), (by decide : 1 + 9 ≤ _)⟩)
  dsimp only [Pt.U, Pt.locs, Pt.cells, Pt.slots] at X299 l299 y299 z299 st299 hQ299
  subst l299 y299 z299
  obtain ⟨w299, wr299, rfl, N299q, Kc299, P299_0, P299_1, P299_2, P299_3, P299_4, P299_5, P299_6⟩ := hQ299
  have N299 := Fr.app N0 N299q
  have K299 : Keep h0 T299.heap [] := K297.trans Kc299 all0
  have E_w299_299c : Exa Z T299.heap w299 cOP := P299_1
  have F_w299_value_299c : Fld Z T299.heap w299 cOP "value" dOB (.ref wr299) := P299_2
  have sz_wr299 : h0.size ≤ wr299 := Nat.le_trans K297.1 P299_3
  have E_wr299_299c : Exa Z T299.heap wr299 cOL := P299_4
  have F_wr299_isPresent_299c : Fld Z T299.heap wr299 cOL nIP "Z" (.int (1 : Int32)) := P299_5
  have F_wr299_value_299c : Fld Z T299.heap wr299 cOL "value" "J" (.long (0 : Int64)) := P299_6
  refine gs T299 (mkF m 13 #[rv th] [(.ref w299)]) (fun _ hr => st299.trans hr) ?_
  have Zs300 : n0 ≤ T299.heap.size := Nat.le_trans Z0 K299.1
  obtain ⟨_, _, ⟨T301, L301, k301, n301⟩, -, X301, ⟨Lc301, hQ301, l301, y301, z301⟩, st301⟩ := LawKit.callS X299 hx (y := Y4) hown (mvT hZ (tw hw 68 rfl)) (mvT hZ (tw hw 2 rfl)) (mvT hZ (tw hw 3 rfl)) (mvT hZ (tw hw 4 rfl)) (by decide) (backOf (W := 1) (rm_olem l Z a0 hw [] em T299.heap n0 Zs300 (Old.keep O0 K299 hws) S_OptionalLong_EMPTY_old) hZ (tw hw 4 rfl) (tw hw 3 rfl) (by decide) (by decide)) (g := (mkF m 13 #[rv th] [(.ref w299)])) rfl (by rw [hml]; rfl) (argsL := []) (rest := [(.ref w299)]) (lenOf pd_6 rfl) rfl (wle rfl) (hb hby d28_13) (fun _ _ => ⟨rfl, rfl, (by decide : 6 + 0 ≤ _), (by decide : 10 + 0 ≤ _)⟩)
  dsimp only [Pt.U, Pt.locs, Pt.cells, Pt.slots] at X301 l301 y301 z301 st301 hQ301
  subst l301 y301 z301
  obtain ⟨rfl, N301q, e301⟩ := hQ301
  have N301 := Fr.app N299 N301q
  refine gs T301 (mkF m 16 #[rv th] [(.ref em), (.ref w299)]) st301 ?_
  have Zs302 : n0 ≤ T299.heap.size := Nat.le_trans Z0 K299.1
  obtain ⟨cq303, kq303, q303a, q303b, q303c⟩ := isOf hZ e301 E_w299_299c
  obtain ⟨_, _, ⟨T303, L303, k303, n303⟩, -, X303, ⟨Lc303, hQ303, l303, y303, z303⟩, st303⟩ := X301.virtualBack hx (y := Y20) (z := Y20) hown (mvT hZ (tw hw 69 rfl)) (mvT hZ (tw hw 70 rfl)) (notFace_of_selects (args := #[]) (mvT hZ (tw hw 72 rfl))) (mvT hZ (tw hw 72 rfl)) (mvT hZ (tw hw 71 rfl)) (by decide) (backOf (W := 0) (rm_oore1 l Z a0 hw [] w299 wr299 em T299.heap n0 Zs302 (Old.keep O0 K299 hws) F_w299_value_299c) hZ (tw hw 73 rfl) (tw hw 8 rfl) (by decide) (by decide)) q303a q303c (g := (mkF m 16 #[rv th] [(.ref em), (.ref w299)])) rfl (by rw [hml]; rfl) (Steps.refl _) (argsL := [(.ref em)]) (rest := []) (lenOf pd_3 rfl) rfl (wle rfl) (hb hby d28_16) (fun _ _ => ⟨rfl, e301, (by decide : 6 + 0 ≤ _), (by decide : 10 + 0 ≤ _)⟩)
  dsimp only [Pt.U, Pt.locs, Pt.cells, Pt.slots] at X303 l303 y303 z303 st303 hQ303
  subst l303 y303 z303
  obtain ⟨rfl, N303q, e303⟩ := hQ303
  have N303 := Fr.app N301 N303q
  refine gs T303 (mkF m 19 #[rv th] [(.ref wr299)]) (fun _ hr => st303.trans hr) ?_
  obtain ⟨T304, X304, e304, st304⟩ := castY X303 hx hZ hown (tw hw 74 rfl) e303 (Ins.self E_wr299_299c) (g := (mkF m 19 #[rv th] [(.ref wr299)])) rfl rfl (hb hby d28_19)
  refine gs T304 (mkF m 22 #[rv th] [(.ref wr299)]) st304 ?_
  exact Goes.ret (v := some (.ref wr299)) X304 (by decide) (by decide) (fun h => by rw [Bd.returns] at h; cases h) (by show Q_rm_age_z0 Z th rr em q1 q2 op eo nw h0 n0 _ T304.heap _; rw [e304]; exact ⟨wr299, rfl, N303, K299, sz_wr299, E_wr299_299c, F_wr299_isPresent_299c, F_wr299_value_299c⟩) (fun fs hr => retOut X304 hx Bd.returns rfl (Or.inr (Or.inr (Or.inr (Or.inr ⟨rfl, rfl, rfl⟩)))) (hb hby d28_22) hr)
def Q_rm_lam_p1em (Z : State) (th : Addr) (rr : Addr) (em : Addr) (q1 : Int64) (q2 : Int64) (op : Addr) (eo : Addr) (nw : Addr) (q4 : Int64) (h0 : Heap) (n0 : Nat) (v : Option Value) (h : Heap) (L : List Loc) : Prop := ∃ w : Addr, v = some (.ref w) ∧ Fr n0 L ∧ Keep h0 h [] ∧ h0.size ≤ w ∧ Exa Z h w cOL ∧ Fld Z h w cOL nIP "Z" (.int (1 : Int32)) ∧ Fld Z h w cOL "value" "J" (.long (0 : Int64))
set_option maxRecDepth 65536 in
set_option maxHeartbeats 40000000 in
theorem rm_lam_p1em (l : Launch) (Z : State) (a0 : Array Value) (hw : ∀ d ∈ tables_1, d.before a0 Z = true) (ws : List Jvm.Cond) (th : Addr) (rr : Addr) (em : Addr) (q1 : Int64) (q2 : Int64) (op : Addr) (eo : Addr) (nw : Addr) (q4 : Int64) (h0 : Heap) (n0 : Nat) (Z0 : n0 ≤ h0.size) (O0 : Old Z n0 h0) (E_th : Exa Z h0 th cPL) (F_th_offset : Fld Z h0 th cPL "offset" "J" (.long q1)) (F_th_end : Fld Z h0 th cPL "end" "J" (.long q2)) (F_th_records : Fld Z h0 th cPL "records" dOP (.ref op)) (E_op : Exa Z h0 op cOP) (F_op_value : Fld Z h0 op cOP "value" dOB (.ref rr)) (E_rr : Exa Z h0 rr cRR) (F_rr_onlyMarkersLeft : Fld Z h0 rr cRR nOM "Z" (.int (0 : Int32))) (F_rr_firstUnreadTimestamp : Fld Z h0 rr cRR nLT dOL (.ref em)) (E_nw : Exa Z h0 nw cOL) (F_nw_isPresent : Fld Z h0 nw cOL nIP "Z" (.int (1 : Int32))) (F_nw_value : Fld Z h0 nw cOL "value" "J" (.long q4)) (F_rr_newestTimestamp : Fld Z h0 rr cRR nNT dOL (.ref nw)) (S_OptionalLong_EMPTY_old : Sta Z Z.heap cOL "EMPTY" dOL (.ref em)) (E_em_old : Exa Z Z.heap em cOL) (F_em_isPresent_old : Fld Z Z.heap em cOL nIP "Z" (.int (0 : Int32))) (F_em_value_old : Fld Z Z.heap em cOL "value" "J" (.long (0 : Int64))) (S_Optional_EMPTY_old : Sta Z Z.heap cOP "EMPTY" dOP (.ref eo)) (E_eo_old : Exa Z Z.heap eo cOP) (F_eo_value_old : Fld Z Z.heap eo cOP "value" dOB .null) (hle : ¬ ((0 : Int32) < (XT.cmpL q1 q2))) (hpp : (0 : Int32) < (XT.cmpL (q2 - q1) (0 : Int64))) :
    MetFree l Y0 (head1 (Cond.code Y0 prog_13_method_14_code 2 (some (.object cOL)) :: ws) r21) (fun a U => a = #[(.ref th), (.ref rr)] ∧ Z.Warmed39 U.vm ∧ U.heap = h0) (fun _ _ _ _ _ => True) (fun _ U o U' => ∃ v L, o = .returned v ∧ Q_rm_lam_p1em Z th rr em q1 q2 op eo nw q4 h0 n0 v U'.heap L ∧ FrameEnd U o U' L r21.cells r21.slots) := by
  refine MetFree.of_bodySF (plainFor_of_name pn_com_example_log_lag_gauge_loglaggauge_model_PositionLag) hisR ?_
  intro p e s m args below meth c s₁ Bd hml0 hP hK
  obtain ⟨rfl, hZ, hh⟩ := hP
  have hx := Bd.exec
  have hby := Bd.bytes
  have hml : c.maxLocals = 2 := hml0
  have hown : s.vm.findClass cPL = some m.cls := findClass_of_methodNamed Bd.named
  have hnm := (name_of_methodNamed Bd.named Bd.method).1
  have X0 : Stand p l e r21 s m #[(.ref th), (.ref rr)] below meth c s₁ [] 0 0 := Stand.of_body Bd
  have e0 : s₁.heap = h0 := by rw [← hh, Bd.state]; rfl
  have N0 := Fr.nil n0
  refine Goes.out (l := l) (c := c) (R := r21) (Q := Q_rm_lam_p1em Z th rr em q1 q2 op eo nw q4 h0 n0) Bd.notSynchronized ?_
  refine Goes.cast (g2 := mkF m 0 #[rv th, rv rr] []) (by first | (simp [entryFrame, mkF, argsToLocals, Value.category]; done) | rfl) ?_
  have K0 : Keep h0 h0 [] := Keep.refl h0 _
  have hws : ∀ x ∈ ([] : List Addr), n0 ≤ x := all0
  refine gs s₁ (mkF m 1 #[rv th, rv rr] [(.ref th)]) (fun _ hr => XS.aloadN X0.here hx rfl (hb hby d26_0) rfl rfl hr) ?_
  refine gs s₁ (mkF m 2 #[rv th, rv rr] [(.ref rr), (.ref th)]) (fun _ hr => XS.aloadN X0.here hx rfl (hb hby d26_1) rfl rfl hr) ?_
  refine gs s₁ (mkF m 3 #[rv th, rv rr] [(.ref rr), (.ref rr), (.ref th)]) (fun _ hr => XS.aloadN X0.here hx rfl (hb hby d26_2) rfl rfl hr) ?_
  have Zs305 : n0 ≤ h0.size := Nat.le_trans Z0 K0.1
  obtain ⟨cq306, kq306, q306a, q306b, q306c⟩ := isOf hZ e0 E_rr
  obtain ⟨_, _, ⟨T306, L306, k306, n306⟩, -, X306, ⟨Lc306, hQ306, l306, y306, z306⟩, st306⟩ := X0.virtualBack hx (y := Y12) (z := Y12) hown (mvT hZ (tw hw 129 rfl)) (mvT hZ (tw hw 130 rfl)) (notFace_of_selects (args := #[]) (mvT hZ (tw hw 132 rfl))) (mvT hZ (tw hw 132 rfl)) (mvT hZ (tw hw 131 rfl)) (by decide) (backOf (W := 2) (rm_newestTimestamp l Z a0 hw [] rr nw h0 n0 Zs305 (Old.keep O0 K0 hws) F_rr_newestTimestamp) hZ (tw hw 133 rfl) (tw hw 96 rfl) (by decide) (by decide)) q306a q306c (g := (mkF m 3 #[rv th, rv rr] [(.ref rr), (.ref rr), (.ref th)])) rfl (by rw [hml]; rfl) (Steps.refl _) (argsL := []) (rest := [(.ref rr), (.ref th)]) (lenOf pd_6 rfl) rfl (wle rfl) (hb hby d26_3) (fun _ _ => ⟨rfl, e0, (by decide : 0 + 0 ≤ _), (by decide : 0 + 0 ≤ _)⟩)
  dsimp only [Pt.U, Pt.locs, Pt.cells, Pt.slots] at X306 l306 y306 z306 st306 hQ306
  subst l306 y306 z306
  obtain ⟨rfl, N306q, e306⟩ := hQ306
  have N306 := Fr.app N0 N306q
  refine gs T306 (mkF m 6 #[rv th, rv rr] [(.ref nw), (.ref rr), (.ref th)]) (fun _ hr => st306.trans hr) ?_
  have Zs307 : n0 ≤ h0.size := Nat.le_trans Z0 K0.1
  obtain ⟨cl308, kl308, q308a, -, -, q308d, -⟩ := id E_th
  obtain ⟨_, _, ⟨T308, L308, k308, n308⟩, -, X308, ⟨Lc308, hQ308, l308, y308, z308⟩, st308⟩ := X306.privateBack hx (y := Y27) hown (mvT hZ (tw hw 134 rfl)) (mvT hZ (tw hw 135 rfl)) (own_selP (mvT hZ (tw hw 12 rfl)) (mvT hZ (tw hw 136 rfl)) (mvT hZ (tw hw 135 rfl)) (by decide)) (Cond.privateMethod_at (args := #[]) (mvT hZ (tw hw 136 rfl))) (mvT hZ (tw hw 137 rfl)) (by decide) (backOf (W := 0) (rm_beh_p1em l Z a0 hw [] th rr em q1 q2 op eo nw q4 h0 n0 Zs307 (Old.keep O0 K0 hws) E_th F_th_offset F_th_end F_th_records E_op F_op_value E_rr F_rr_onlyMarkersLeft F_rr_firstUnreadTimestamp E_nw F_nw_isPresent F_nw_value S_OptionalLong_EMPTY_old E_em_old F_em_isPresent_old F_em_value_old S_Optional_EMPTY_old E_eo_old F_eo_value_old hle hpp) hZ (tw hw 137 rfl) (tw hw 13 rfl) (by decide) (by decide)) (g := (mkF m 6 #[rv th, rv rr] [(.ref nw), (.ref rr), (.ref th)])) rfl (by rw [hml]; rfl) (Steps.refl _) (own_at e306 q308a) (fun q z => by rw [z] at q308d; cases q308d) (argsL := [(.ref rr), (.ref nw)]) (rest := []) (lenOf pd_14 rfl) rfl (wle rfl) (hb hby d26_6) (fun _ _ => ⟨rfl, e306, (by decide : 0 + 4 ≤ _), (by decide : 0 + 8 ≤ _)⟩)
  dsimp only [Pt.U, Pt.locs, Pt.cells, Pt.slots] at X308 l308 y308 z308 st308 hQ308
  subst l308 y308 z308
  obtain ⟨w308, rfl, N308q, Kc308, P308_0, P308_1, P308_2, P308_3⟩ := hQ308
  have N308 := Fr.app N306 N308q
  have K308 : Keep h0 T308.heap [] := K0.trans Kc308 all0
  have sz_w308 : h0.size ≤ w308 := Nat.le_trans K0.1 P308_0
  have E_w308_308c : Exa Z T308.heap w308 cOL := P308_1
  have F_w308_isPresent_308c : Fld Z T308.heap w308 cOL nIP "Z" (.int (1 : Int32)) := P308_2
  have F_w308_value_308c : Fld Z T308.heap w308 cOL "value" "J" (.long (0 : Int64)) := P308_3
  refine gs T308 (mkF m 9 #[rv th, rv rr] [(.ref w308)]) (fun _ hr => st308.trans hr) ?_
  exact Goes.ret (v := some (.ref w308)) X308 (by decide) (by decide) (fun h => by rw [Bd.returns] at h; cases h) (by show Q_rm_lam_p1em Z th rr em q1 q2 op eo nw q4 h0 n0 _ T308.heap _; exact ⟨w308, rfl, N308, K308, sz_w308, E_w308_308c, F_w308_isPresent_308c, F_w308_value_308c⟩) (fun fs hr => retOut X308 hx Bd.returns rfl (Or.inr (Or.inr (Or.inr (Or.inr ⟨rfl, rfl, rfl⟩)))) (hb hby d26_9) hr)
def Q_rm_map_p1em (Z : State) (th : Addr) (rr : Addr) (em : Addr) (q1 : Int64) (q2 : Int64) (op : Addr) (eo : Addr) (nw : Addr) (q4 : Int64) (fa : Addr) (cK : ClassId) (h0 : Heap) (n0 : Nat) (v : Option Value) (h : Heap) (L : List Loc) : Prop := ∃ w : Addr, ∃ wr : Addr, v = some (.ref w) ∧ Fr n0 L ∧ Keep h0 h [] ∧ h0.size ≤ w ∧ Exa Z h w cOP ∧ Fld Z h w cOP "value" dOB (.ref wr) ∧ h0.size ≤ wr ∧ Exa Z h wr cOL ∧ Fld Z h wr cOL nIP "Z" (.int (1 : Int32)) ∧ Fld Z h wr cOL "value" "J" (.long (0 : Int64))
set_option maxRecDepth 65536 in
set_option maxHeartbeats 40000000 in
theorem rm_map_p1em (l : Launch) (Z : State) (a0 : Array Value) (hw : ∀ d ∈ tables_1, d.before a0 Z = true) (ws : List Jvm.Cond) (th : Addr) (rr : Addr) (em : Addr) (q1 : Int64) (q2 : Int64) (op : Addr) (eo : Addr) (nw : Addr) (q4 : Int64) (fa : Addr) (cK : ClassId) (h0 : Heap) (n0 : Nat) (Z0 : n0 ≤ h0.size) (O0 : Old Z n0 h0) (E_th : Exa Z h0 th cPL) (F_th_offset : Fld Z h0 th cPL "offset" "J" (.long q1)) (F_th_end : Fld Z h0 th cPL "end" "J" (.long q2)) (F_th_records : Fld Z h0 th cPL "records" dOP (.ref op)) (E_op : Exa Z h0 op cOP) (F_op_value : Fld Z h0 op cOP "value" dOB (.ref rr)) (E_rr : Exa Z h0 rr cRR) (F_rr_onlyMarkersLeft : Fld Z h0 rr cRR nOM "Z" (.int (0 : Int32))) (F_rr_firstUnreadTimestamp : Fld Z h0 rr cRR nLT dOL (.ref em)) (E_nw : Exa Z h0 nw cOL) (F_nw_isPresent : Fld Z h0 nw cOL nIP "Z" (.int (1 : Int32))) (F_nw_value : Fld Z h0 nw cOL "value" "J" (.long q4)) (F_rr_newestTimestamp : Fld Z h0 rr cRR nNT dOL (.ref nw)) (G_fa : FnV h0 fa cK #[(.ref th)]) (S_OptionalLong_EMPTY_old : Sta Z Z.heap cOL "EMPTY" dOL (.ref em)) (E_em_old : Exa Z Z.heap em cOL) (F_em_isPresent_old : Fld Z Z.heap em cOL nIP "Z" (.int (0 : Int32))) (F_em_value_old : Fld Z Z.heap em cOL "value" "J" (.long (0 : Int64))) (S_Optional_EMPTY_old : Sta Z Z.heap cOP "EMPTY" dOP (.ref eo)) (E_eo_old : Exa Z Z.heap eo cOP) (F_eo_value_old : Fld Z Z.heap eo cOP "value" dOB .null) (hle : ¬ ((0 : Int32) < (XT.cmpL q1 q2))) (hpp : (0 : Int32) < (XT.cmpL (q2 - q1) (0 : Int64))) (Md : Jvm.LamKit.Made Z cPL sgA cK) :
    MetFree l Y29 (head1 (Cond.code Y29 jdk_32_method_11_code 2 (some (.object cOP)) :: ws) r22) (fun a U => a = #[(.ref op), (.ref fa)] ∧ Z.Warmed39 U.vm ∧ U.heap = h0) (fun _ _ _ _ _ => True) (fun _ U o U' => ∃ v L, o = .returned v ∧ Q_rm_map_p1em Z th rr em q1 q2 op eo nw q4 fa cK h0 n0 v U'.heap L ∧ FrameEnd U o U' L r22.cells r22.slots) := by
  refine MetFree.of_bodySF (plainFor_of_name pn_java_util_Optional) hisR ?_
  intro p e s m args below meth c s₁ Bd hml0 hP hK
  obtain ⟨rfl, hZ, hh⟩ := hP
  have hx := Bd.exec
  have hby := Bd.bytes
  have hml : c.maxLocals = 2 := hml0
  have hown : s.vm.findClass cOP = some m.cls := findClass_of_methodNamed Bd.named
  have hnm := (name_of_methodNamed Bd.named Bd.method).1
  have X0 : Stand p l e r22 s m #[(.ref op), (.ref fa)] below meth c s₁ [] 0 0 := Stand.of_body Bd
  have e0 : s₁.heap = h0 := by rw [← hh, Bd.state]; rfl
  have N0 := Fr.nil n0
  refine Goes.out (l := l) (c := c) (R := r22) (Q := Q_rm_map_p1em Z th rr em q1 q2 op eo nw q4 fa cK h0 n0) Bd.notSynchronized ?_
  refine Goes.cast (g2 := mkF m 0 #[rv op, rv fa] []) (by first | (simp [entryFrame, mkF, argsToLocals, Value.category]; done) | rfl) ?_
  have K0 : Keep h0 h0 [] := Keep.refl h0 _
  have hws : ∀ x ∈ ([] : List Addr), n0 ≤ x := all0
  refine gs s₁ (mkF m 1 #[rv op, rv fa] [(.ref fa)]) (fun _ hr => XS.aloadN X0.here hx rfl (hb hby d27_0) rfl rfl hr) ?_
  have Zs309 : n0 ≤ h0.size := Nat.le_trans Z0 K0.1
  obtain ⟨_, _, ⟨T310, L310, k310, n310⟩, -, X310, ⟨Lc310, hQ310, l310, y310, z310⟩, st310⟩ := LawKit.callS X0 hx (y := Y13) hown (mvT hZ (tw hw 57 rfl)) (mvT hZ (tw hw 58 rfl)) (mvT hZ (tw hw 35 rfl)) (mvT hZ (tw hw 59 rfl)) (by decide) (backOf (W := 0) (rm_rnn1 l Z a0 hw [] fa h0 n0 Zs309 (Old.keep O0 K0 hws)) hZ (tw hw 59 rfl) (tw hw 35 rfl) (by decide) (by decide)) (g := (mkF m 1 #[rv op, rv fa] [(.ref fa)])) rfl (by rw [hml]; rfl) (argsL := [(.ref fa)]) (rest := []) (lenOf pd_3 rfl) rfl (wle rfl) (hb hby d27_1) (fun _ _ => ⟨rfl, e0, (by decide : 0 + 0 ≤ _), (by decide : 0 + 0 ≤ _)⟩)
  dsimp only [Pt.U, Pt.locs, Pt.cells, Pt.slots] at X310 l310 y310 z310 st310 hQ310
  subst l310 y310 z310
  obtain ⟨rfl, N310q, e310⟩ := hQ310
  have N310 := Fr.app N0 N310q
  refine gs T310 (mkF m 4 #[rv op, rv fa] [(.ref fa)]) st310 ?_
  refine gs T310 (mkF m 5 #[rv op, rv fa] []) (fun _ hr => XT.pop X310.here hx rfl (hb hby d27_4) rfl rfl hr) ?_
  refine gs T310 (mkF m 6 #[rv op, rv fa] [(.ref op)]) (fun _ hr => XS.aloadN X310.here hx rfl (hb hby d27_5) rfl rfl hr) ?_
  have Zs311 : n0 ≤ h0.size := Nat.le_trans Z0 K0.1
  obtain ⟨cq312, kq312, q312a, q312b, q312c⟩ := isOf hZ e310 E_op
  obtain ⟨_, _, ⟨T312, L312, k312, n312⟩, -, X312, ⟨Lc312, hQ312, l312, y312, z312⟩, st312⟩ := X310.virtualBack hx (y := Y18) (z := Y18) hown (mvT hZ (tw hw 60 rfl)) (mvT hZ (tw hw 61 rfl)) (notFace_of_selects (args := #[]) (mvT hZ (tw hw 63 rfl))) (mvT hZ (tw hw 63 rfl)) (mvT hZ (tw hw 62 rfl)) (by decide) (backOf (W := 0) (rm_oise1 l Z a0 hw [] op rr h0 n0 Zs311 (Old.keep O0 K0 hws) F_op_value) hZ (tw hw 64 rfl) (tw hw 8 rfl) (by decide) (by decide)) q312a q312c (g := (mkF m 6 #[rv op, rv fa] [(.ref op)])) rfl (by rw [hml]; rfl) (Steps.refl _) (argsL := []) (rest := []) (lenOf pd_1 rfl) rfl (wle rfl) (hb hby d27_6) (fun _ _ => ⟨rfl, e310, (by decide : 0 + 0 ≤ _), (by decide : 0 + 0 ≤ _)⟩)
  dsimp only [Pt.U, Pt.locs, Pt.cells, Pt.slots] at X312 l312 y312 z312 st312 hQ312
  subst l312 y312 z312
  obtain ⟨rfl, N312q, e312⟩ := hQ312
  have N312 := Fr.app N310 N312q
  refine gs T312 (mkF m 9 #[rv op, rv fa] [(.int (0 : Int32))]) (fun _ hr => st312.trans hr) ?_
  refine gs T312 (mkF m 16 #[rv op, rv fa] []) (fun _ hr => XS.ifYes X312.here hx rfl (pc0 := 9) (pc' := 16) rfl (hb hby d27_9) rfl ((if0 _ _).trans (teq (by decide : (0 : Int32) = (0 : Int32))).1) (by decide) (by decide) hr) ?_
  refine gs T312 (mkF m 17 #[rv op, rv fa] [(.ref fa)]) (fun _ hr => XS.aloadN X312.here hx rfl (hb hby d27_16) rfl rfl hr) ?_
  refine gs T312 (mkF m 18 #[rv op, rv fa] [(.ref op), (.ref fa)]) (fun _ hr => XS.aloadN X312.here hx rfl (hb hby d27_17) rfl rfl hr) ?_
  obtain ⟨T313, X313, e313, st313⟩ := getF X312 hx hZ hown (host := "") (Or.inl (tw hw 65 rfl)) Via.refl e312 F_op_value (g := (mkF m 18 #[rv op, rv fa] [(.ref op), (.ref fa)])) rfl rfl (hb hby d27_18)
  refine gs T313 (mkF m 21 #[rv op, rv fa] [(.ref rr), (.ref fa)]) st313 ?_
  have Zs314 : n0 ≤ h0.size := Nat.le_trans Z0 K0.1
  obtain ⟨_, T315, Lc315, X315, hQ315, st315⟩ := own_callFace X313 hx hZ (xi := Y28) hown (tw hw 122 rfl) (tw hw 123 rfl) (tw hw 124 rfl) ⟨rfl, rfl, by decide +kernel⟩ (by decide) Md e313 G_fa okA (g := (mkF m 21 #[rv op, rv fa] [(.ref rr), (.ref fa)])) rfl (by rw [hml]; rfl) (argsL := [(.ref rr)]) (rest := []) (lenOf pd_3 rfl) rfl (hb hby d27_21) (R' := r23) (Q := Q_rm_lam_p1em Z th rr em q1 q2 op eo nw q4 h0 n0) (by decide) (by show 2 * 0 + 0 + 13 + 3116 ≤ _; decide) (by decide) (by decide) (fun s' U bl mk ck Y' hZ' eU zq1 zq2 zq3 => bodyA hx Y' hZ' hw Md zq1 zq2 zq3 eU G_fa E_rr E_th (rm_lam_p1em l Z a0 hw [] th rr em q1 q2 op eo nw q4 h0 n0 Zs314 (Old.keep O0 K0 hws) E_th F_th_offset F_th_end F_th_records E_op F_op_value E_rr F_rr_onlyMarkersLeft F_rr_firstUnreadTimestamp E_nw F_nw_isPresent F_nw_value F_rr_newestTimestamp S_OptionalLong_EMPTY_old E_em_old F_em_isPresent_old F_em_value_old S_Optional_EMPTY_old E_eo_old F_eo_value_old hle hpp) (fun v h L q => by obtain ⟨_, rfl, -⟩ := q; exact ⟨_, rfl⟩) (by decide) (by decide) (by decide) (by decide))
  obtain ⟨w315, rfl, N315q, Kc315, P315_0, P315_1, P315_2, P315_3⟩ := hQ315
  have N315 := Fr.app N312 N315q
  have K315 : Keep h0 T315.heap [] := K0.trans Kc315 all0
  have sz_w315 : h0.size ≤ w315 := Nat.le_trans K0.1 P315_0
  have E_w315_315c : Exa Z T315.heap w315 cOL := P315_1
  have F_w315_isPresent_315c : Fld Z T315.heap w315 cOL nIP "Z" (.int (1 : Int32)) := P315_2
  have F_w315_value_315c : Fld Z T315.heap w315 cOL "value" "J" (.long (0 : Int64)) := P315_3
  refine gs T315 (mkF m 26 #[rv op, rv fa] [(.ref w315)]) st315 ?_
  have Zs316 : n0 ≤ T315.heap.size := Nat.le_trans Z0 K315.1
  obtain ⟨_, _, ⟨T317, L317, k317, n317⟩, -, X317, ⟨Lc317, hQ317, l317, y317, z317⟩, st317⟩ := LawKit.callS X315 hx (y := Y16) hown (mvT hZ (tw hw 161 rfl)) (mvT hZ (tw hw 162 rfl)) (mvT hZ (tw hw 8 rfl)) (mvT hZ (tw hw 163 rfl)) (by decide) (backOf (W := 0) (rm_oofn l Z a0 hw [] w315 T315.heap n0 Zs316 (Old.keep O0 K315 hws)) hZ (tw hw 163 rfl) (tw hw 8 rfl) (by decide) (by decide)) (g := (mkF m 26 #[rv op, rv fa] [(.ref w315)])) rfl (by rw [hml]; rfl) (argsL := [(.ref w315)]) (rest := []) (lenOf pd_15 rfl) rfl (wle rfl) (hb hby d27_26) (fun _ _ => ⟨rfl, rfl, (by decide : 4 + 1 ≤ _), (by decide : 8 + 1 ≤ _)⟩)
  dsimp only [Pt.U, Pt.locs, Pt.cells, Pt.slots] at X317 l317 y317 z317 st317 hQ317
  subst l317 y317 z317
  obtain ⟨w317, rfl, N317q, Kc317, P317_0, P317_1, P317_2⟩ := hQ317
  have N317 := Fr.app N315 N317q
  have E_w315_317 : Exa Z T317.heap w315 cOL := E_w315_315c.keep Kc317
  have F_w315_isPresent_317 : Fld Z T317.heap w315 cOL nIP "Z" (.int (1 : Int32)) := F_w315_isPresent_315c.keep Kc317 nin0
  have F_w315_value_317 : Fld Z T317.heap w315 cOL "value" "J" (.long (0 : Int64)) := F_w315_value_315c.keep Kc317 nin0
  have K317 : Keep h0 T317.heap [] := K315.trans Kc317 all0
  have sz_w317 : h0.size ≤ w317 := Nat.le_trans K315.1 P317_0
  have E_w317_317c : Exa Z T317.heap w317 cOP := P317_1
  have F_w317_value_317c : Fld Z T317.heap w317 cOP "value" dOB (.ref w315) := P317_2
  refine gs T317 (mkF m 29 #[rv op, rv fa] [(.ref w317)]) st317 ?_
  exact Goes.ret (v := some (.ref w317)) X317 (by decide) (by decide) (fun h => by rw [Bd.returns] at h; cases h) (by show Q_rm_map_p1em Z th rr em q1 q2 op eo nw q4 fa cK h0 n0 _ T317.heap _; exact ⟨w317, w315, rfl, N317, K317, sz_w317, E_w317_317c, F_w317_value_317c, sz_w315, E_w315_317, F_w315_isPresent_317, F_w315_value_317⟩) (fun fs hr => retOut X317 hx Bd.returns rfl (Or.inr (Or.inr (Or.inr (Or.inr ⟨rfl, rfl, rfl⟩)))) (hb hby d27_29) hr)
def Q_rm_age_p1em (Z : State) (th : Addr) (rr : Addr) (em : Addr) (q1 : Int64) (q2 : Int64) (op : Addr) (eo : Addr) (nw : Addr) (q4 : Int64) (h0 : Heap) (n0 : Nat) (v : Option Value) (h : Heap) (L : List Loc) : Prop := ∃ w : Addr, v = some (.ref w) ∧ Fr n0 L ∧ Keep h0 h [] ∧ h0.size ≤ w ∧ Exa Z h w cOL ∧ Fld Z h w cOL nIP "Z" (.int (1 : Int32)) ∧ Fld Z h w cOL "value" "J" (.long (0 : Int64))
set_option maxRecDepth 65536 in
set_option maxHeartbeats 40000000 in
theorem rm_age_p1em (l : Launch) (Z : State) (a0 : Array Value) (hw : ∀ d ∈ tables_1, d.before a0 Z = true) (ws : List Jvm.Cond) (th : Addr) (rr : Addr) (em : Addr) (q1 : Int64) (q2 : Int64) (op : Addr) (eo : Addr) (nw : Addr) (q4 : Int64) (h0 : Heap) (n0 : Nat) (Z0 : n0 ≤ h0.size) (O0 : Old Z n0 h0) (E_th : Exa Z h0 th cPL) (F_th_offset : Fld Z h0 th cPL "offset" "J" (.long q1)) (F_th_end : Fld Z h0 th cPL "end" "J" (.long q2)) (F_th_records : Fld Z h0 th cPL "records" dOP (.ref op)) (E_op : Exa Z h0 op cOP) (F_op_value : Fld Z h0 op cOP "value" dOB (.ref rr)) (E_rr : Exa Z h0 rr cRR) (F_rr_onlyMarkersLeft : Fld Z h0 rr cRR nOM "Z" (.int (0 : Int32))) (F_rr_firstUnreadTimestamp : Fld Z h0 rr cRR nLT dOL (.ref em)) (E_nw : Exa Z h0 nw cOL) (F_nw_isPresent : Fld Z h0 nw cOL nIP "Z" (.int (1 : Int32))) (F_nw_value : Fld Z h0 nw cOL "value" "J" (.long q4)) (F_rr_newestTimestamp : Fld Z h0 rr cRR nNT dOL (.ref nw)) (S_OptionalLong_EMPTY_old : Sta Z Z.heap cOL "EMPTY" dOL (.ref em)) (E_em_old : Exa Z Z.heap em cOL) (F_em_isPresent_old : Fld Z Z.heap em cOL nIP "Z" (.int (0 : Int32))) (F_em_value_old : Fld Z Z.heap em cOL "value" "J" (.long (0 : Int64))) (S_Optional_EMPTY_old : Sta Z Z.heap cOP "EMPTY" dOP (.ref eo)) (E_eo_old : Exa Z Z.heap eo cOP) (F_eo_value_old : Fld Z Z.heap eo cOP "value" dOB .null) (hle : ¬ ((0 : Int32) < (XT.cmpL q1 q2))) (hpp : (0 : Int32) < (XT.cmpL (q2 - q1) (0 : Int64))) :
    MetFree l Y30 (head1 (Cond.code Y30 prog_13_method_4_code 1 (some (.object cOL)) :: ws) r24) (fun a U => a = #[(.ref th)] ∧ Z.Warmed39 U.vm ∧ U.heap = h0) (fun _ _ _ _ _ => True) (fun _ U o U' => ∃ v L, o = .returned v ∧ Q_rm_age_p1em Z th rr em q1 q2 op eo nw q4 h0 n0 v U'.heap L ∧ FrameEnd U o U' L r24.cells r24.slots) := by
  refine MetFree.of_bodySF (plainFor_of_name pn_com_example_log_lag_gauge_loglaggauge_model_PositionLag) hisR ?_
  intro p e s m args below meth c s₁ Bd hml0 hP hK
  obtain ⟨rfl, hZ, hh⟩ := hP
  have hx := Bd.exec
  have hby := Bd.bytes
  have hml : c.maxLocals = 1 := hml0
  have hown : s.vm.findClass cPL = some m.cls := findClass_of_methodNamed Bd.named
  have hnm := (name_of_methodNamed Bd.named Bd.method).1
  have X0 : Stand p l e r24 s m #[(.ref th)] below meth c s₁ [] 0 0 := Stand.of_body Bd
  have e0 : s₁.heap = h0 := by rw [← hh, Bd.state]; rfl
  have N0 := Fr.nil n0
  refine Goes.out (l := l) (c := c) (R := r24) (Q := Q_rm_age_p1em Z th rr em q1 q2 op eo nw q4 h0 n0) Bd.notSynchronized ?_
  refine Goes.cast (g2 := mkF m 0 #[rv th] []) (by first | (simp [entryFrame, mkF, argsToLocals, Value.category]; done) | rfl) ?_
  have K0 : Keep h0 h0 [] := Keep.refl h0 _
  have hws : ∀ x ∈ ([] : List Addr), n0 ≤ x := all0
  refine gs s₁ (mkF m 1 #[rv th] [(.ref th)]) (fun _ hr => XS.aloadN X0.here hx rfl (hb hby d28_0) rfl rfl hr) ?_
  obtain ⟨T318, X318, e318, st318⟩ := getF X0 hx hZ hown (host := "") (Or.inl (tw hw 41 rfl)) Via.refl e0 F_th_records (g := (mkF m 1 #[rv th] [(.ref th)])) rfl rfl (hb hby d28_1)
  refine gs T318 (mkF m 4 #[rv th] [(.ref op)]) st318 ?_
  refine gs T318 (mkF m 5 #[rv th] [(.ref th), (.ref op)]) (fun _ hr => XS.aloadN X318.here hx rfl (hb hby d28_4) rfl rfl hr) ?_
  obtain ⟨T319, h319, c319, X319, e319, E319, A319, Md319, st319⟩ := own_siteMakes X318 hx hZ (x := Y30) (pc := 5) (fi := 15) (σ := sgA) Bd.named (tw hw 48 rfl) (by decide) cpA (tw hw 51 rfl) e318 (g := (mkF m 5 #[rv th] [(.ref th), (.ref op)])) rfl rfl (by rw [hml]; rfl) (hb hby d28_5) (vals := [(.ref th)]) (rest := [(.ref op)]) rfl rfl own_fit1 (by show 2 * 0 + 2 + 3072 ≤ _; decide) (N := 1) rfl (by decide) (by decide)
  obtain ⟨b319, g319⟩ : ∃ z, z = h0.size := ⟨_, rfl⟩
  rw [← g319] at A319 st319
  have E_th_319 : Exa Z h319 th cPL := E_th.ext E319
  have F_th_offset_319 : Fld Z h319 th cPL "offset" "J" (.long q1) := F_th_offset.ext E319
  have F_th_end_319 : Fld Z h319 th cPL "end" "J" (.long q2) := F_th_end.ext E319
  have F_th_records_319 : Fld Z h319 th cPL "records" dOP (.ref op) := F_th_records.ext E319
  have E_op_319 : Exa Z h319 op cOP := E_op.ext E319
  have F_op_value_319 : Fld Z h319 op cOP "value" dOB (.ref rr) := F_op_value.ext E319
  have E_rr_319 : Exa Z h319 rr cRR := E_rr.ext E319
  have F_rr_onlyMarkersLeft_319 : Fld Z h319 rr cRR nOM "Z" (.int (0 : Int32)) := F_rr_onlyMarkersLeft.ext E319
  have F_rr_firstUnreadTimestamp_319 : Fld Z h319 rr cRR nLT dOL (.ref em) := F_rr_firstUnreadTimestamp.ext E319
  have E_nw_319 : Exa Z h319 nw cOL := E_nw.ext E319
  have F_nw_isPresent_319 : Fld Z h319 nw cOL nIP "Z" (.int (1 : Int32)) := F_nw_isPresent.ext E319
  have F_nw_value_319 : Fld Z h319 nw cOL "value" "J" (.long q4) := F_nw_value.ext E319
  have F_rr_newestTimestamp_319 : Fld Z h319 rr cRR nNT dOL (.ref nw) := F_rr_newestTimestamp.ext E319
  have K319 : Keep h0 h319 [] := K0.ext E319
  refine gs T319 (mkF m 10 #[rv th] [(.ref b319), (.ref op)]) st319 ?_
  have Zs320 : n0 ≤ h319.size := Nat.le_trans Z0 K319.1
  obtain ⟨cq321, kq321, q321a, q321b, q321c⟩ := isOf hZ e319 E_op_319
  obtain ⟨_, _, ⟨T321, L321, k321, n321⟩, -, X321, ⟨Lc321, hQ321, l321, y321, z321⟩, st321⟩ := X319.virtualBack hx (y := Y29) (z := Y29) hown (mvT hZ (tw hw 52 rfl)) (mvT hZ (tw hw 53 rfl)) (notFace_of_selects (args := #[]) (mvT hZ (tw hw 55 rfl))) (mvT hZ (tw hw 55 rfl)) (mvT hZ (tw hw 54 rfl)) (by decide) (backOf (W := 0) (rm_map_p1em l Z a0 hw [] th rr em q1 q2 op eo nw q4 b319 c319 h319 n0 Zs320 (Old.keep O0 K319 hws) E_th_319 F_th_offset_319 F_th_end_319 F_th_records_319 E_op_319 F_op_value_319 E_rr_319 F_rr_onlyMarkersLeft_319 F_rr_firstUnreadTimestamp_319 E_nw_319 F_nw_isPresent_319 F_nw_value_319 F_rr_newestTimestamp_319 A319 S_OptionalLong_EMPTY_old E_em_old F_em_isPresent_old F_em_value_old S_Optional_EMPTY_old E_eo_old F_eo_value_old hle hpp Md319) hZ (tw hw 56 rfl) (tw hw 8 rfl) (by decide) (by decide)) q321a q321c (g := (mkF m 10 #[rv th] [(.ref b319), (.ref op)])) rfl (by rw [hml]; rfl) (Steps.refl _) (argsL := [(.ref b319)]) (rest := []) (lenOf pd_16 rfl) rfl (wle rfl) (hb hby d28_10) (fun _ _ => ⟨rfl, e319, (by decide : 1 + 5 ≤ _), (by decide : 1 + 9 ≤ _)⟩)
  dsimp only [Pt.U, Pt.locs, Pt.cells, Pt.slots] at X321 l321 y321 z321 st321 hQ321
  subst l321 y321 z321
  obtain ⟨w321, wr321, rfl, N321q, Kc321, P321_0, P321_1, P321_2, P321_3, P321_4, P321_5, P321_6⟩ := hQ321
  have N321 := Fr.app N0 N321q
  have K321 : Keep h0 T321.heap [] := K319.trans Kc321 all0
  have E_w321_321c : Exa Z T321.heap w321 cOP := P321_1
  have F_w321_value_321c : Fld Z T321.heap w321 cOP "value" dOB (.ref wr321) := P321_2
  have sz_wr321 : h0.size ≤ wr321 := Nat.le_trans K319.1 P321_3
  have E_wr321_321c : Exa Z T321.heap wr321 cOL := P321_4
  have F_wr321_isPresent_321c : Fld Z T321.heap wr321 cOL nIP "Z" (.int (1 : Int32)) := P321_5
  have F_wr321_value_321c : Fld Z T321.heap wr321 cOL "value" "J" (.long (0 : Int64)) := P321_6
  refine gs T321 (mkF m 13 #[rv th] [(.ref w321)]) (fun _ hr => st321.trans hr) ?_
  have Zs322 : n0 ≤ T321.heap.size := Nat.le_trans Z0 K321.1
  obtain ⟨_, _, ⟨T323, L323, k323, n323⟩, -, X323, ⟨Lc323, hQ323, l323, y323, z323⟩, st323⟩ := LawKit.callS X321 hx (y := Y4) hown (mvT hZ (tw hw 68 rfl)) (mvT hZ (tw hw 2 rfl)) (mvT hZ (tw hw 3 rfl)) (mvT hZ (tw hw 4 rfl)) (by decide) (backOf (W := 1) (rm_olem l Z a0 hw [] em T321.heap n0 Zs322 (Old.keep O0 K321 hws) S_OptionalLong_EMPTY_old) hZ (tw hw 4 rfl) (tw hw 3 rfl) (by decide) (by decide)) (g := (mkF m 13 #[rv th] [(.ref w321)])) rfl (by rw [hml]; rfl) (argsL := []) (rest := [(.ref w321)]) (lenOf pd_6 rfl) rfl (wle rfl) (hb hby d28_13) (fun _ _ => ⟨rfl, rfl, (by decide : 6 + 0 ≤ _), (by decide : 10 + 0 ≤ _)⟩)
  dsimp only [Pt.U, Pt.locs, Pt.cells, Pt.slots] at X323 l323 y323 z323 st323 hQ323
  subst l323 y323 z323
  obtain ⟨rfl, N323q, e323⟩ := hQ323
  have N323 := Fr.app N321 N323q
  refine gs T323 (mkF m 16 #[rv th] [(.ref em), (.ref w321)]) st323 ?_
  have Zs324 : n0 ≤ T321.heap.size := Nat.le_trans Z0 K321.1
  obtain ⟨cq325, kq325, q325a, q325b, q325c⟩ := isOf hZ e323 E_w321_321c
  obtain ⟨_, _, ⟨T325, L325, k325, n325⟩, -, X325, ⟨Lc325, hQ325, l325, y325, z325⟩, st325⟩ := X323.virtualBack hx (y := Y20) (z := Y20) hown (mvT hZ (tw hw 69 rfl)) (mvT hZ (tw hw 70 rfl)) (notFace_of_selects (args := #[]) (mvT hZ (tw hw 72 rfl))) (mvT hZ (tw hw 72 rfl)) (mvT hZ (tw hw 71 rfl)) (by decide) (backOf (W := 0) (rm_oore1 l Z a0 hw [] w321 wr321 em T321.heap n0 Zs324 (Old.keep O0 K321 hws) F_w321_value_321c) hZ (tw hw 73 rfl) (tw hw 8 rfl) (by decide) (by decide)) q325a q325c (g := (mkF m 16 #[rv th] [(.ref em), (.ref w321)])) rfl (by rw [hml]; rfl) (Steps.refl _) (argsL := [(.ref em)]) (rest := []) (lenOf pd_3 rfl) rfl (wle rfl) (hb hby d28_16) (fun _ _ => ⟨rfl, e323, (by decide : 6 + 0 ≤ _), (by decide : 10 + 0 ≤ _)⟩)
  dsimp only [Pt.U, Pt.locs, Pt.cells, Pt.slots] at X325 l325 y325 z325 st325 hQ325
  subst l325 y325 z325
  obtain ⟨rfl, N325q, e325⟩ := hQ325
  have N325 := Fr.app N323 N325q
  refine gs T325 (mkF m 19 #[rv th] [(.ref wr321)]) (fun _ hr => st325.trans hr) ?_
  obtain ⟨T326, X326, e326, st326⟩ := castY X325 hx hZ hown (tw hw 74 rfl) e325 (Ins.self E_wr321_321c) (g := (mkF m 19 #[rv th] [(.ref wr321)])) rfl rfl (hb hby d28_19)
  refine gs T326 (mkF m 22 #[rv th] [(.ref wr321)]) st326 ?_
  exact Goes.ret (v := some (.ref wr321)) X326 (by decide) (by decide) (fun h => by rw [Bd.returns] at h; cases h) (by show Q_rm_age_p1em Z th rr em q1 q2 op eo nw q4 h0 n0 _ T326.heap _; rw [e326]; exact ⟨wr321, rfl, N325, K321, sz_wr321, E_wr321_321c, F_wr321_isPresent_321c, F_wr321_value_321c⟩) (fun fs hr => retOut X326 hx Bd.returns rfl (Or.inr (Or.inr (Or.inr (Or.inr ⟨rfl, rfl, rfl⟩)))) (hb hby d28_22) hr)
def Q_rm_lam_pem (Z : State) (th : Addr) (rr : Addr) (em : Addr) (q1 : Int64) (q2 : Int64) (op : Addr) (eo : Addr) (fu : Addr) (h0 : Heap) (n0 : Nat) (v : Option Value) (h : Heap) (L : List Loc) : Prop := ∃ w : Addr, v = some (.ref w) ∧ Fr n0 L ∧ Keep h0 h [] ∧ h0.size ≤ w ∧ Exa Z h w cOL ∧ Fld Z h w cOL nIP "Z" (.int (1 : Int32)) ∧ Fld Z h w cOL "value" "J" (.long (0 : Int64))
set_option maxRecDepth 65536 in
set_option maxHeartbeats 40000000 in
theorem rm_lam_pem (l : Launch) (Z : State) (a0 : Array Value) (hw : ∀ d ∈ tables_1, d.before a0 Z = true) (ws : List Jvm.Cond) (th : Addr) (rr : Addr) (em : Addr) (q1 : Int64) (q2 : Int64) (op : Addr) (eo : Addr) (fu : Addr) (h0 : Heap) (n0 : Nat) (Z0 : n0 ≤ h0.size) (O0 : Old Z n0 h0) (E_th : Exa Z h0 th cPL) (F_th_offset : Fld Z h0 th cPL "offset" "J" (.long q1)) (F_th_end : Fld Z h0 th cPL "end" "J" (.long q2)) (F_th_records : Fld Z h0 th cPL "records" dOP (.ref op)) (E_op : Exa Z h0 op cOP) (F_op_value : Fld Z h0 op cOP "value" dOB (.ref rr)) (E_rr : Exa Z h0 rr cRR) (F_rr_onlyMarkersLeft : Fld Z h0 rr cRR nOM "Z" (.int (0 : Int32))) (F_rr_firstUnreadTimestamp : Fld Z h0 rr cRR nLT dOL (.ref fu)) (F_rr_newestTimestamp : Fld Z h0 rr cRR nNT dOL (.ref em)) (S_OptionalLong_EMPTY_old : Sta Z Z.heap cOL "EMPTY" dOL (.ref em)) (E_em_old : Exa Z Z.heap em cOL) (F_em_isPresent_old : Fld Z Z.heap em cOL nIP "Z" (.int (0 : Int32))) (F_em_value_old : Fld Z Z.heap em cOL "value" "J" (.long (0 : Int64))) (S_Optional_EMPTY_old : Sta Z Z.heap cOP "EMPTY" dOP (.ref eo)) (E_eo_old : Exa Z Z.heap eo cOP) (F_eo_value_old : Fld Z Z.heap eo cOP "value" dOB .null) (hle : ¬ ((0 : Int32) < (XT.cmpL q1 q2))) (hpp : (0 : Int32) < (XT.cmpL (q2 - q1) (0 : Int64))) :
    MetFree l Y0 (head1 (Cond.code Y0 prog_13_method_14_code 2 (some (.object cOL)) :: ws) r21) (fun a U => a = #[(.ref th), (.ref rr)] ∧ Z.Warmed39 U.vm ∧ U.heap = h0) (fun _ _ _ _ _ => True) (fun _ U o U' => ∃ v L, o = .returned v ∧ Q_rm_lam_pem Z th rr em q1 q2 op eo fu h0 n0 v U'.heap L ∧ FrameEnd U o U' L r21.cells r21.slots) := by
  refine MetFree.of_bodySF (plainFor_of_name pn_com_example_log_lag_gauge_loglaggauge_model_PositionLag) hisR ?_
  intro p e s m args below meth c s₁ Bd hml0 hP hK
  obtain ⟨rfl, hZ, hh⟩ := hP
  have hx := Bd.exec
  have hby := Bd.bytes
  have hml : c.maxLocals = 2 := hml0
  have hown : s.vm.findClass cPL = some m.cls := findClass_of_methodNamed Bd.named
  have hnm := (name_of_methodNamed Bd.named Bd.method).1
  have X0 : Stand p l e r21 s m #[(.ref th), (.ref rr)] below meth c s₁ [] 0 0 := Stand.of_body Bd
  have e0 : s₁.heap = h0 := by rw [← hh, Bd.state]; rfl
  have N0 := Fr.nil n0
  refine Goes.out (l := l) (c := c) (R := r21) (Q := Q_rm_lam_pem Z th rr em q1 q2 op eo fu h0 n0) Bd.notSynchronized ?_
  refine Goes.cast (g2 := mkF m 0 #[rv th, rv rr] []) (by first | (simp [entryFrame, mkF, argsToLocals, Value.category]; done) | rfl) ?_
  have K0 : Keep h0 h0 [] := Keep.refl h0 _
  have hws : ∀ x ∈ ([] : List Addr), n0 ≤ x := all0
  refine gs s₁ (mkF m 1 #[rv th, rv rr] [(.ref th)]) (fun _ hr => XS.aloadN X0.here hx rfl (hb hby d26_0) rfl rfl hr) ?_
  refine gs s₁ (mkF m 2 #[rv th, rv rr] [(.ref rr), (.ref th)]) (fun _ hr => XS.aloadN X0.here hx rfl (hb hby d26_1) rfl rfl hr) ?_
  refine gs s₁ (mkF m 3 #[rv th, rv rr] [(.ref rr), (.ref rr), (.ref th)]) (fun _ hr => XS.aloadN X0.here hx rfl (hb hby d26_2) rfl rfl hr) ?_
  have Zs327 : n0 ≤ h0.size := Nat.le_trans Z0 K0.1
  obtain ⟨cq328, kq328, q328a, q328b, q328c⟩ := isOf hZ e0 E_rr
  obtain ⟨_, _, ⟨T328, L328, k328, n328⟩, -, X328, ⟨Lc328, hQ328, l328, y328, z328⟩, st328⟩ := X0.virtualBack hx (y := Y12) (z := Y12) hown (mvT hZ (tw hw 129 rfl)) (mvT hZ (tw hw 130 rfl)) (notFace_of_selects (args := #[]) (mvT hZ (tw hw 132 rfl))) (mvT hZ (tw hw 132 rfl)) (mvT hZ (tw hw 131 rfl)) (by decide) (backOf (W := 2) (rm_newestTimestamp l Z a0 hw [] rr em h0 n0 Zs327 (Old.keep O0 K0 hws) F_rr_newestTimestamp) hZ (tw hw 133 rfl) (tw hw 96 rfl) (by decide) (by decide)) q328a q328c (g := (mkF m 3 #[rv th, rv rr] [(.ref rr), (.ref rr), (.ref th)])) rfl (by rw [hml]; rfl) (Steps.refl _) (argsL := []) (rest := [(.ref rr), (.ref th)]) (lenOf pd_6 rfl) rfl (wle rfl) (hb hby d26_3) (fun _ _ => ⟨rfl, e0, (by decide : 0 + 0 ≤ _), (by decide : 0 + 0 ≤ _)⟩)
  dsimp only [Pt.U, Pt.locs, Pt.cells, Pt.slots] at X328 l328 y328 z328 st328 hQ328
  subst l328 y328 z328
  obtain ⟨rfl, N328q, e328⟩ := hQ328
  have N328 := Fr.app N0 N328q
  refine gs T328 (mkF m 6 #[rv th, rv rr] [(.ref em), (.ref rr), (.ref th)]) (fun _ hr => st328.trans hr) ?_
  have Zs329 : n0 ≤ h0.size := Nat.le_trans Z0 K0.1
  obtain ⟨cl330, kl330, q330a, -, -, q330d, -⟩ := id E_th
  obtain ⟨_, _, ⟨T330, L330, k330, n330⟩, -, X330, ⟨Lc330, hQ330, l330, y330, z330⟩, st330⟩ := X328.privateBack hx (y := Y27) hown (mvT hZ (tw hw 134 rfl)) (mvT hZ (tw hw 135 rfl)) (own_selP (mvT hZ (tw hw 12 rfl)) (mvT hZ (tw hw 136 rfl)) (mvT hZ (tw hw 135 rfl)) (by decide)) (Cond.privateMethod_at (args := #[]) (mvT hZ (tw hw 136 rfl))) (mvT hZ (tw hw 137 rfl)) (by decide) (backOf (W := 0) (rm_beh_pem l Z a0 hw [] th rr em q1 q2 op eo fu h0 n0 Zs329 (Old.keep O0 K0 hws) E_th F_th_offset F_th_end F_th_records E_op F_op_value E_rr F_rr_onlyMarkersLeft F_rr_firstUnreadTimestamp S_OptionalLong_EMPTY_old E_em_old F_em_isPresent_old F_em_value_old S_Optional_EMPTY_old E_eo_old F_eo_value_old hle hpp) hZ (tw hw 137 rfl) (tw hw 13 rfl) (by decide) (by decide)) (g := (mkF m 6 #[rv th, rv rr] [(.ref em), (.ref rr), (.ref th)])) rfl (by rw [hml]; rfl) (Steps.refl _) (own_at e328 q330a) (fun q z => by rw [z] at q330d; cases q330d) (argsL := [(.ref rr), (.ref em)]) (rest := []) (lenOf pd_14 rfl) rfl (wle rfl) (hb hby d26_6) (fun _ _ => ⟨rfl, e328, (by decide : 0 + 4 ≤ _), (by decide : 0 + 8 ≤ _)⟩)
  dsimp only [Pt.U, Pt.locs, Pt.cells, Pt.slots] at X330 l330 y330 z330 st330 hQ330
  subst l330 y330 z330
  obtain ⟨w330, rfl, N330q, Kc330, P330_0, P330_1, P330_2, P330_3⟩ := hQ330
  have N330 := Fr.app N328 N330q
  have K330 : Keep h0 T330.heap [] := K0.trans Kc330 all0
  have sz_w330 : h0.size ≤ w330 := Nat.le_trans K0.1 P330_0
  have E_w330_330c : Exa Z T330.heap w330 cOL := P330_1
  have F_w330_isPresent_330c : Fld Z T330.heap w330 cOL nIP "Z" (.int (1 : Int32)) := P330_2
  have F_w330_value_330c : Fld Z T330.heap w330 cOL "value" "J" (.long (0 : Int64)) := P330_3
  refine gs T330 (mkF m 9 #[rv th, rv rr] [(.ref w330)]) (fun _ hr => st330.trans hr) ?_
  exact Goes.ret (v := some (.ref w330)) X330 (by decide) (by decide) (fun h => by rw [Bd.returns] at h; cases h) (by show Q_rm_lam_pem Z th rr em q1 q2 op eo fu h0 n0 _ T330.heap _; exact ⟨w330, rfl, N330, K330, sz_w330, E_w330_330c, F_w330_isPresent_330c, F_w330_value_330c⟩) (fun fs hr => retOut X330 hx Bd.returns rfl (Or.inr (Or.inr (Or.inr (Or.inr ⟨rfl, rfl, rfl⟩)))) (hb hby d26_9) hr)
def Q_rm_map_pem (Z : State) (th : Addr) (rr : Addr) (em : Addr) (q1 : Int64) (q2 : Int64) (op : Addr) (eo : Addr) (fu : Addr) (fa : Addr) (cK : ClassId) (h0 : Heap) (n0 : Nat) (v : Option Value) (h : Heap) (L : List Loc) : Prop := ∃ w : Addr, ∃ wr : Addr, v = some (.ref w) ∧ Fr n0 L ∧ Keep h0 h [] ∧ h0.size ≤ w ∧ Exa Z h w cOP ∧ Fld Z h w cOP "value" dOB (.ref wr) ∧ h0.size ≤ wr ∧ Exa Z h wr cOL ∧ Fld Z h wr cOL nIP "Z" (.int (1 : Int32)) ∧ Fld Z h wr cOL "value" "J" (.long (0 : Int64))
set_option maxRecDepth 65536 in
set_option maxHeartbeats 40000000 in
theorem rm_map_pem (l : Launch) (Z : State) (a0 : Array Value) (hw : ∀ d ∈ tables_1, d.before a0 Z = true) (ws : List Jvm.Cond) (th : Addr) (rr : Addr) (em : Addr) (q1 : Int64) (q2 : Int64) (op : Addr) (eo : Addr) (fu : Addr) (fa : Addr) (cK : ClassId) (h0 : Heap) (n0 : Nat) (Z0 : n0 ≤ h0.size) (O0 : Old Z n0 h0) (E_th : Exa Z h0 th cPL) (F_th_offset : Fld Z h0 th cPL "offset" "J" (.long q1)) (F_th_end : Fld Z h0 th cPL "end" "J" (.long q2)) (F_th_records : Fld Z h0 th cPL "records" dOP (.ref op)) (E_op : Exa Z h0 op cOP) (F_op_value : Fld Z h0 op cOP "value" dOB (.ref rr)) (E_rr : Exa Z h0 rr cRR) (F_rr_onlyMarkersLeft : Fld Z h0 rr cRR nOM "Z" (.int (0 : Int32))) (F_rr_firstUnreadTimestamp : Fld Z h0 rr cRR nLT dOL (.ref fu)) (F_rr_newestTimestamp : Fld Z h0 rr cRR nNT dOL (.ref em)) (G_fa : FnV h0 fa cK #[(.ref th)]) (S_OptionalLong_EMPTY_old : Sta Z Z.heap cOL "EMPTY" dOL (.ref em)) (E_em_old : Exa Z Z.heap em cOL) (F_em_isPresent_old : Fld Z Z.heap em cOL nIP "Z" (.int (0 : Int32))) (F_em_value_old : Fld Z Z.heap em cOL "value" "J" (.long (0 : Int64))) (S_Optional_EMPTY_old : Sta Z Z.heap cOP "EMPTY" dOP (.ref eo)) (E_eo_old : Exa Z Z.heap eo cOP) (F_eo_value_old : Fld Z Z.heap eo cOP "value" dOB .null) (hle : ¬ ((0 : Int32) < (XT.cmpL q1 q2))) (hpp : (0 : Int32) < (XT.cmpL (q2 - q1) (0 : Int64))) (Md : Jvm.LamKit.Made Z cPL sgA cK) :
    MetFree l Y29 (head1 (Cond.code Y29 jdk_32_method_11_code 2 (some (.object cOP)) :: ws) r22) (fun a U => a = #[(.ref op), (.ref fa)] ∧ Z.Warmed39 U.vm ∧ U.heap = h0) (fun _ _ _ _ _ => True) (fun _ U o U' => ∃ v L, o = .returned v ∧ Q_rm_map_pem Z th rr em q1 q2 op eo fu fa cK h0 n0 v U'.heap L ∧ FrameEnd U o U' L r22.cells r22.slots) := by
  refine MetFree.of_bodySF (plainFor_of_name pn_java_util_Optional) hisR ?_
  intro p e s m args below meth c s₁ Bd hml0 hP hK
  obtain ⟨rfl, hZ, hh⟩ := hP
  have hx := Bd.exec
  have hby := Bd.bytes
  have hml : c.maxLocals = 2 := hml0
  have hown : s.vm.findClass cOP = some m.cls := findClass_of_methodNamed Bd.named
  have hnm := (name_of_methodNamed Bd.named Bd.method).1
  have X0 : Stand p l e r22 s m #[(.ref op), (.ref fa)] below meth c s₁ [] 0 0 := Stand.of_body Bd
  have e0 : s₁.heap = h0 := by rw [← hh, Bd.state]; rfl
  have N0 := Fr.nil n0
  refine Goes.out (l := l) (c := c) (R := r22) (Q := Q_rm_map_pem Z th rr em q1 q2 op eo fu fa cK h0 n0) Bd.notSynchronized ?_
  refine Goes.cast (g2 := mkF m 0 #[rv op, rv fa] []) (by first | (simp [entryFrame, mkF, argsToLocals, Value.category]; done) | rfl) ?_
  have K0 : Keep h0 h0 [] := Keep.refl h0 _
  have hws : ∀ x ∈ ([] : List Addr), n0 ≤ x := all0
  refine gs s₁ (mkF m 1 #[rv op, rv fa] [(.ref fa)]) (fun _ hr => XS.aloadN X0.here hx rfl (hb hby d27_0) rfl rfl hr) ?_
  have Zs331 : n0 ≤ h0.size := Nat.le_trans Z0 K0.1
  obtain ⟨_, _, ⟨T332, L332, k332, n332⟩, -, X332, ⟨Lc332, hQ332, l332, y332, z332⟩, st332⟩ := LawKit.callS X0 hx (y := Y13) hown (mvT hZ (tw hw 57 rfl)) (mvT hZ (tw hw 58 rfl)) (mvT hZ (tw hw 35 rfl)) (mvT hZ (tw hw 59 rfl)) (by decide) (backOf (W := 0) (rm_rnn1 l Z a0 hw [] fa h0 n0 Zs331 (Old.keep O0 K0 hws)) hZ (tw hw 59 rfl) (tw hw 35 rfl) (by decide) (by decide)) (g := (mkF m 1 #[rv op, rv fa] [(.ref fa)])) rfl (by rw [hml]; rfl) (argsL := [(.ref fa)]) (rest := []) (lenOf pd_3 rfl) rfl (wle rfl) (hb hby d27_1) (fun _ _ => ⟨rfl, e0, (by decide : 0 + 0 ≤ _), (by decide : 0 + 0 ≤ _)⟩)
  dsimp only [Pt.U, Pt.locs, Pt.cells, Pt.slots] at X332 l332 y332 z332 st332 hQ332
  subst l332 y332 z332
  obtain ⟨rfl, N332q, e332⟩ := hQ332
  have N332 := Fr.app N0 N332q
  refine gs T332 (mkF m 4 #[rv op, rv fa] [(.ref fa)]) st332 ?_
  refine gs T332 (mkF m 5 #[rv op, rv fa] []) (fun _ hr => XT.pop X332.here hx rfl (hb hby d27_4) rfl rfl hr) ?_
  refine gs T332 (mkF m 6 #[rv op, rv fa] [(.ref op)]) (fun _ hr => XS.aloadN X332.here hx rfl (hb hby d27_5) rfl rfl hr) ?_
  have Zs333 : n0 ≤ h0.size := Nat.le_trans Z0 K0.1
  obtain ⟨cq334, kq334, q334a, q334b, q334c⟩ := isOf hZ e332 E_op
  obtain ⟨_, _, ⟨T334, L334, k334, n334⟩, -, X334, ⟨Lc334, hQ334, l334, y334, z334⟩, st334⟩ := X332.virtualBack hx (y := Y18) (z := Y18) hown (mvT hZ (tw hw 60 rfl)) (mvT hZ (tw hw 61 rfl)) (notFace_of_selects (args := #[]) (mvT hZ (tw hw 63 rfl))) (mvT hZ (tw hw 63 rfl)) (mvT hZ (tw hw 62 rfl)) (by decide) (backOf (W := 0) (rm_oise1 l Z a0 hw [] op rr h0 n0 Zs333 (Old.keep O0 K0 hws) F_op_value) hZ (tw hw 64 rfl) (tw hw 8 rfl) (by decide) (by decide)) q334a q334c (g := (mkF m 6 #[rv op, rv fa] [(.ref op)])) rfl (by rw [hml]; rfl) (Steps.refl _) (argsL := []) (rest := []) (lenOf pd_1 rfl) rfl (wle rfl) (hb hby d27_6) (fun _ _ => ⟨rfl, e332, (by decide : 0 + 0 ≤ _), (by decide : 0 + 0 ≤ _)⟩)
  dsimp only [Pt.U, Pt.locs, Pt.cells, Pt.slots] at X334 l334 y334 z334 st334 hQ334
  subst l334 y334 z334
  obtain ⟨rfl, N334q, e334⟩ := hQ334
  have N334 := Fr.app N332 N334q
  refine gs T334 (mkF m 9 #[rv op, rv fa] [(.int (0 : Int32))]) (fun _ hr => st334.trans hr) ?_
  refine gs T334 (mkF m 16 #[rv op, rv fa] []) (fun _ hr => XS.ifYes X334.here hx rfl (pc0 := 9) (pc' := 16) rfl (hb hby d27_9) rfl ((if0 _ _).trans (teq (by decide : (0 : Int32) = (0 : Int32))).1) (by decide) (by decide) hr) ?_
  refine gs T334 (mkF m 17 #[rv op, rv fa] [(.ref fa)]) (fun _ hr => XS.aloadN X334.here hx rfl (hb hby d27_16) rfl rfl hr) ?_
  refine gs T334 (mkF m 18 #[rv op, rv fa] [(.ref op), (.ref fa)]) (fun _ hr => XS.aloadN X334.here hx rfl (hb hby d27_17) rfl rfl hr) ?_
  obtain ⟨T335, X335, e335, st335⟩ := getF X334 hx hZ hown (host := "") (Or.inl (tw hw 65 rfl)) Via.refl e334 F_op_value (g := (mkF m 18 #[rv op, rv fa] [(.ref op), (.ref fa)])) rfl rfl (hb hby d27_18)
  refine gs T335 (mkF m 21 #[rv op, rv fa] [(.ref rr), (.ref fa)]) st335 ?_
  have Zs336 : n0 ≤ h0.size := Nat.le_trans Z0 K0.1
  obtain ⟨_, T337, Lc337, X337, hQ337, st337⟩ := own_callFace X335 hx hZ (xi := Y28) hown (tw hw 122 rfl) (tw hw 123 rfl) (tw hw 124 rfl) ⟨rfl, rfl, by decide +kernel⟩ (by decide) Md e335 G_fa okA (g := (mkF m 21 #[rv op, rv fa] [(.ref rr), (.ref fa)])) rfl (by rw [hml]; rfl) (argsL := [(.ref rr)]) (rest := []) (lenOf pd_3 rfl) rfl (hb hby d27_21) (R' := r23) (Q := Q_rm_lam_pem Z th rr em q1 q2 op eo fu h0 n0) (by decide) (by show 2 * 0 + 0 + 13 + 3116 ≤ _; decide) (by decide) (by decide) (fun s' U bl mk ck Y' hZ' eU zq1 zq2 zq3 => bodyA hx Y' hZ' hw Md zq1 zq2 zq3 eU G_fa E_rr E_th (rm_lam_pem l Z a0 hw [] th rr em q1 q2 op eo fu h0 n0 Zs336 (Old.keep O0 K0 hws) E_th F_th_offset F_th_end F_th_records E_op F_op_value E_rr F_rr_onlyMarkersLeft F_rr_firstUnreadTimestamp F_rr_newestTimestamp S_OptionalLong_EMPTY_old E_em_old F_em_isPresent_old F_em_value_old S_Optional_EMPTY_old E_eo_old F_eo_value_old hle hpp) (fun v h L q => by obtain ⟨_, rfl, -⟩ := q; exact ⟨_, rfl⟩) (by decide) (by decide) (by decide) (by decide))
  obtain ⟨w337, rfl, N337q, Kc337, P337_0, P337_1, P337_2, P337_3⟩ := hQ337
  have N337 := Fr.app N334 N337q
  have K337 : Keep h0 T337.heap [] := K0.trans Kc337 all0
  have sz_w337 : h0.size ≤ w337 := Nat.le_trans K0.1 P337_0
  have E_w337_337c : Exa Z T337.heap w337 cOL := P337_1
  have F_w337_isPresent_337c : Fld Z T337.heap w337 cOL nIP "Z" (.int (1 : Int32)) := P337_2
  have F_w337_value_337c : Fld Z T337.heap w337 cOL "value" "J" (.long (0 : Int64)) := P337_3
  refine gs T337 (mkF m 26 #[rv op, rv fa] [(.ref w337)]) st337 ?_
  have Zs338 : n0 ≤ T337.heap.size := Nat.le_trans Z0 K337.1
  obtain ⟨_, _, ⟨T339, L339, k339, n339⟩, -, X339, ⟨Lc339, hQ339, l339, y339, z339⟩, st339⟩ := LawKit.callS X337 hx (y := Y16) hown (mvT hZ (tw hw 161 rfl)) (mvT hZ (tw hw 162 rfl)) (mvT hZ (tw hw 8 rfl)) (mvT hZ (tw hw 163 rfl)) (by decide) (backOf (W := 0) (rm_oofn l Z a0 hw [] w337 T337.heap n0 Zs338 (Old.keep O0 K337 hws)) hZ (tw hw 163 rfl) (tw hw 8 rfl) (by decide) (by decide)) (g := (mkF m 26 #[rv op, rv fa] [(.ref w337)])) rfl (by rw [hml]; rfl) (argsL := [(.ref w337)]) (rest := []) (lenOf pd_15 rfl) rfl (wle rfl) (hb hby d27_26) (fun _ _ => ⟨rfl, rfl, (by decide : 4 + 1 ≤ _), (by decide : 8 + 1 ≤ _)⟩)
  dsimp only [Pt.U, Pt.locs, Pt.cells, Pt.slots] at X339 l339 y339 z339 st339 hQ339
  subst l339 y339 z339
  obtain ⟨w339, rfl, N339q, Kc339, P339_0, P339_1, P339_2⟩ := hQ339
  have N339 := Fr.app N337 N339q
  have E_w337_339 : Exa Z T339.heap w337 cOL := E_w337_337c.keep Kc339
  have F_w337_isPresent_339 : Fld Z T339.heap w337 cOL nIP "Z" (.int (1 : Int32)) := F_w337_isPresent_337c.keep Kc339 nin0
  have F_w337_value_339 : Fld Z T339.heap w337 cOL "value" "J" (.long (0 : Int64)) := F_w337_value_337c.keep Kc339 nin0
  have K339 : Keep h0 T339.heap [] := K337.trans Kc339 all0
  have sz_w339 : h0.size ≤ w339 := Nat.le_trans K337.1 P339_0
  have E_w339_339c : Exa Z T339.heap w339 cOP := P339_1
  have F_w339_value_339c : Fld Z T339.heap w339 cOP "value" dOB (.ref w337) := P339_2
  refine gs T339 (mkF m 29 #[rv op, rv fa] [(.ref w339)]) st339 ?_
  exact Goes.ret (v := some (.ref w339)) X339 (by decide) (by decide) (fun h => by rw [Bd.returns] at h; cases h) (by show Q_rm_map_pem Z th rr em q1 q2 op eo fu fa cK h0 n0 _ T339.heap _; exact ⟨w339, w337, rfl, N339, K339, sz_w339, E_w339_339c, F_w339_value_339c, sz_w337, E_w337_339, F_w337_isPresent_339, F_w337_value_339⟩) (fun fs hr => retOut X339 hx Bd.returns rfl (Or.inr (Or.inr (Or.inr (Or.inr ⟨rfl, rfl, rfl⟩)))) (hb hby d27_29) hr)
def Q_rm_age_pem (Z : State) (th : Addr) (rr : Addr) (em : Addr) (q1 : Int64) (q2 : Int64) (op : Addr) (eo : Addr) (fu : Addr) (h0 : Heap) (n0 : Nat) (v : Option Value) (h : Heap) (L : List Loc) : Prop := ∃ w : Addr, v = some (.ref w) ∧ Fr n0 L ∧ Keep h0 h [] ∧ h0.size ≤ w ∧ Exa Z h w cOL ∧ Fld Z h w cOL nIP "Z" (.int (1 : Int32)) ∧ Fld Z h w cOL "value" "J" (.long (0 : Int64))
set_option maxRecDepth 65536 in
set_option maxHeartbeats 40000000 in
theorem rm_age_pem (l : Launch) (Z : State) (a0 : Array Value) (hw : ∀ d ∈ tables_1, d.before a0 Z = true) (ws : List Jvm.Cond) (th : Addr) (rr : Addr) (em : Addr) (q1 : Int64) (q2 : Int64) (op : Addr) (eo : Addr) (fu : Addr) (h0 : Heap) (n0 : Nat) (Z0 : n0 ≤ h0.size) (O0 : Old Z n0 h0) (E_th : Exa Z h0 th cPL) (F_th_offset : Fld Z h0 th cPL "offset" "J" (.long q1)) (F_th_end : Fld Z h0 th cPL "end" "J" (.long q2)) (F_th_records : Fld Z h0 th cPL "records" dOP (.ref op)) (E_op : Exa Z h0 op cOP) (F_op_value : Fld Z h0 op cOP "value" dOB (.ref rr)) (E_rr : Exa Z h0 rr cRR) (F_rr_onlyMarkersLeft : Fld Z h0 rr cRR nOM "Z" (.int (0 : Int32))) (F_rr_firstUnreadTimestamp : Fld Z h0 rr cRR nLT dOL (.ref fu)) (F_rr_newestTimestamp : Fld Z h0 rr cRR nNT dOL (.ref em)) (S_OptionalLong_EMPTY_old : Sta Z Z.heap cOL "EMPTY" dOL (.ref em)) (E_em_old : Exa Z Z.heap em cOL) (F_em_isPresent_old : Fld Z Z.heap em cOL nIP "Z" (.int (0 : Int32))) (F_em_value_old : Fld Z Z.heap em cOL "value" "J" (.long (0 : Int64))) (S_Optional_EMPTY_old : Sta Z Z.heap cOP "EMPTY" dOP (.ref eo)) (E_eo_old : Exa Z Z.heap eo cOP) (F_eo_value_old : Fld Z Z.heap eo cOP "value" dOB .null) (hle : ¬ ((0 : Int32) < (XT.cmpL q1 q2))) (hpp : (0 : Int32) < (XT.cmpL (q2 - q1) (0 : Int64))) :
    MetFree l Y30 (head1 (Cond.code Y30 prog_13_method_4_code 1 (some (.object cOL)) :: ws) r24) (fun a U => a = #[(.ref th)] ∧ Z.Warmed39 U.vm ∧ U.heap = h0) (fun _ _ _ _ _ => True) (fun _ U o U' => ∃ v L, o = .returned v ∧ Q_rm_age_pem Z th rr em q1 q2 op eo fu h0 n0 v U'.heap L ∧ FrameEnd U o U' L r24.cells r24.slots) := by
  refine MetFree.of_bodySF (plainFor_of_name pn_com_example_log_lag_gauge_loglaggauge_model_PositionLag) hisR ?_
  intro p e s m args below meth c s₁ Bd hml0 hP hK
  obtain ⟨rfl, hZ, hh⟩ := hP
  have hx := Bd.exec
  have hby := Bd.bytes
  have hml : c.maxLocals = 1 := hml0
  have hown : s.vm.findClass cPL = some m.cls := findClass_of_methodNamed Bd.named
  have hnm := (name_of_methodNamed Bd.named Bd.method).1
  have X0 : Stand p l e r24 s m #[(.ref th)] below meth c s₁ [] 0 0 := Stand.of_body Bd
  have e0 : s₁.heap = h0 := by rw [← hh, Bd.state]; rfl
  have N0 := Fr.nil n0
  refine Goes.out (l := l) (c := c) (R := r24) (Q := Q_rm_age_pem Z th rr em q1 q2 op eo fu h0 n0) Bd.notSynchronized ?_
  refine Goes.cast (g2 := mkF m 0 #[rv th] []) (by first | (simp [entryFrame, mkF, argsToLocals, Value.category]; done) | rfl) ?_
  have K0 : Keep h0 h0 [] := Keep.refl h0 _
  have hws : ∀ x ∈ ([] : List Addr), n0 ≤ x := all0
  refine gs s₁ (mkF m 1 #[rv th] [(.ref th)]) (fun _ hr => XS.aloadN X0.here hx rfl (hb hby d28_0) rfl rfl hr) ?_
  obtain ⟨T340, X340, e340, st340⟩ := getF X0 hx hZ hown (host := "") (Or.inl (tw hw 41 rfl)) Via.refl e0 F_th_records (g := (mkF m 1 #[rv th] [(.ref th)])) rfl rfl (hb hby d28_1)
  refine gs T340 (mkF m 4 #[rv th] [(.ref op)]) st340 ?_
  refine gs T340 (mkF m 5 #[rv th] [(.ref th), (.ref op)]) (fun _ hr => XS.aloadN X340.here hx rfl (hb hby d28_4) rfl rfl hr) ?_
  obtain ⟨T341, h341, c341, X341, e341, E341, A341, Md341, st341⟩ := own_siteMakes X340 hx hZ (x := Y30) (pc := 5) (fi := 15) (σ := sgA) Bd.named (tw hw 48 rfl) (by decide) cpA (tw hw 51 rfl) e340 (g := (mkF m 5 #[rv th] [(.ref th), (.ref op)])) rfl rfl (by rw [hml]; rfl) (hb hby d28_5) (vals := [(.ref th)]) (rest := [(.ref op)]) rfl rfl own_fit1 (by show 2 * 0 + 2 + 3072 ≤ _; decide) (N := 1) rfl (by decide) (by decide)
  obtain ⟨b341, g341⟩ : ∃ z, z = h0.size := ⟨_, rfl⟩
  rw [← g341] at A341 st341
  have E_th_341 : Exa Z h341 th cPL := E_th.ext E341
  have F_th_offset_341 : Fld Z h341 th cPL "offset" "J" (.long q1) := F_th_offset.ext E341
  have F_th_end_341 : Fld Z h341 th cPL "end" "J" (.long q2) := F_th_end.ext E341
  have F_th_records_341 : Fld Z h341 th cPL "records" dOP (.ref op) := F_th_records.ext E341
  have E_op_341 : Exa Z h341 op cOP := E_op.ext E341
  have F_op_value_341 : Fld Z h341 op cOP "value" dOB (.ref rr) := F_op_value.ext E341
  have E_rr_341 : Exa Z h341 rr cRR := E_rr.ext E341
  have F_rr_onlyMarkersLeft_341 : Fld Z h341 rr cRR nOM "Z" (.int (0 : Int32)) := F_rr_onlyMarkersLeft.ext E341
  have F_rr_firstUnreadTimestamp_341 : Fld Z h341 rr cRR nLT dOL (.ref fu) := F_rr_firstUnreadTimestamp.ext E341
  have F_rr_newestTimestamp_341 : Fld Z h341 rr cRR nNT dOL (.ref em) := F_rr_newestTimestamp.ext E341
  have K341 : Keep h0 h341 [] := K0.ext E341
  refine gs T341 (mkF m 10 #[rv th] [(.ref b341), (.ref op)]) st341 ?_
  have Zs342 : n0 ≤ h341.size := Nat.le_trans Z0 K341.1
  obtain ⟨cq343, kq343, q343a, q343b, q343c⟩ := isOf hZ e341 E_op_341
  obtain ⟨_, _, ⟨T343, L343, k343, n343⟩, -, X343, ⟨Lc343, hQ343, l343, y343, z343⟩, st343⟩ := X341.virtualBack hx (y := Y29) (z := Y29) hown (mvT hZ (tw hw 52 rfl)) (mvT hZ (tw hw 53 rfl)) (notFace_of_selects (args := #[]) (mvT hZ (tw hw 55 rfl))) (mvT hZ (tw hw 55 rfl)) (mvT hZ (tw hw 54 rfl)) (by decide) (backOf (W := 0) (rm_map_pem l Z a0 hw [] th rr em q1 q2 op eo fu b341 c341 h341 n0 Zs342 (Old.keep O0 K341 hws) E_th_341 F_th_offset_341 F_th_end_341 F_th_records_341 E_op_341 F_op_value_341 E_rr_341 F_rr_onlyMarkersLeft_341 F_rr_firstUnreadTimestamp_341 F_rr_newestTimestamp_341 A341 S_OptionalLong_EMPTY_old E_em_old F_em_isPresent_old F_em_value_old S_Optional_EMPTY_old E_eo_old F_eo_value_old hle hpp Md341) hZ (tw hw 56 rfl) (tw hw 8 rfl) (by decide) (by decide)) q343a q343c (g := (mkF m 10 #[rv th] [(.ref b341), (.ref op)])) rfl (by rw [hml]; rfl) (Steps.refl _) (argsL := [(.ref b341)]) (rest := []) (lenOf pd_16 rfl) rfl (wle rfl) (hb hby d28_10) (fun _ _ => ⟨rfl, e341, (by decide : 1 + 5 ≤ _), (by decide : 1 + 9 ≤ _)⟩)
  dsimp only [Pt.U, Pt.locs, Pt.cells, Pt.slots] at X343 l343 y343 z343 st343 hQ343
  subst l343 y343 z343
  obtain ⟨w343, wr343, rfl, N343q, Kc343, P343_0, P343_1, P343_2, P343_3, P343_4, P343_5, P343_6⟩ := hQ343
  have N343 := Fr.app N0 N343q
  have K343 : Keep h0 T343.heap [] := K341.trans Kc343 all0
  have E_w343_343c : Exa Z T343.heap w343 cOP := P343_1
  have F_w343_value_343c : Fld Z T343.heap w343 cOP "value" dOB (.ref wr343) := P343_2
  have sz_wr343 : h0.size ≤ wr343 := Nat.le_trans K341.1 P343_3
  have E_wr343_343c : Exa Z T343.heap wr343 cOL := P343_4
  have F_wr343_isPresent_343c : Fld Z T343.heap wr343 cOL nIP "Z" (.int (1 : Int32)) := P343_5
  have F_wr343_value_343c : Fld Z T343.heap wr343 cOL "value" "J" (.long (0 : Int64)) := P343_6
  refine gs T343 (mkF m 13 #[rv th] [(.ref w343)]) (fun _ hr => st343.trans hr) ?_
  have Zs344 : n0 ≤ T343.heap.size := Nat.le_trans Z0 K343.1
  obtain ⟨_, _, ⟨T345, L345, k345, n345⟩, -, X345, ⟨Lc345, hQ345, l345, y345, z345⟩, st345⟩ := LawKit.callS X343 hx (y := Y4) hown (mvT hZ (tw hw 68 rfl)) (mvT hZ (tw hw 2 rfl)) (mvT hZ (tw hw 3 rfl)) (mvT hZ (tw hw 4 rfl)) (by decide) (backOf (W := 1) (rm_olem l Z a0 hw [] em T343.heap n0 Zs344 (Old.keep O0 K343 hws) S_OptionalLong_EMPTY_old) hZ (tw hw 4 rfl) (tw hw 3 rfl) (by decide) (by decide)) (g := (mkF m 13 #[rv th] [(.ref w343)])) rfl (by rw [hml]; rfl) (argsL := []) (rest := [(.ref w343)]) (lenOf pd_6 rfl) rfl (wle rfl) (hb hby d28_13) (fun _ _ => ⟨rfl, rfl, (by decide : 6 + 0 ≤ _), (by decide : 10 + 0 ≤ _)⟩)
  dsimp only [Pt.U, Pt.locs, Pt.cells, Pt.slots] at X345 l345 y345 z345 st345 hQ345
  subst l345 y345 z345
  obtain ⟨rfl, N345q, e345⟩ := hQ345
  have N345 := Fr.app N343 N345q
  refine gs T345 (mkF m 16 #[rv th] [(.ref em), (.ref w343)]) st345 ?_
  have Zs346 : n0 ≤ T343.heap.size := Nat.le_trans Z0 K343.1
  obtain ⟨cq347, kq347, q347a, q347b, q347c⟩ := isOf hZ e345 E_w343_343c
  obtain ⟨_, _, ⟨T347, L347, k347, n347⟩, -, X347, ⟨Lc347, hQ347, l347, y347, z347⟩, st347⟩ := X345.virtualBack hx (y := Y20) (z := Y20) hown (mvT hZ (tw hw 69 rfl)) (mvT hZ (tw hw 70 rfl)) (notFace_of_selects (args := #[]) (mvT hZ (tw hw 72 rfl))) (mvT hZ (tw hw 72 rfl)) (mvT hZ (tw hw 71 rfl)) (by decide) (backOf (W := 0) (rm_oore1 l Z a0 hw [] w343 wr343 em T343.heap n0 Zs346 (Old.keep O0 K343 hws) F_w343_value_343c) hZ (tw hw 73 rfl) (tw hw 8 rfl) (by decide) (by decide)) q347a q347c (g := (mkF m 16 #[rv th] [(.ref em), (.ref w343)])) rfl (by rw [hml]; rfl) (Steps.refl _) (argsL := [(.ref em)]) (rest := []) (lenOf pd_3 rfl) rfl (wle rfl) (hb hby d28_16) (fun _ _ => ⟨rfl, e345, (by decide : 6 + 0 ≤ _), (by decide : 10 + 0 ≤ _)⟩)
  dsimp only [Pt.U, Pt.locs, Pt.cells, Pt.slots] at X347 l347 y347 z347 st347 hQ347
  subst l347 y347 z347
  obtain ⟨rfl, N347q, e347⟩ := hQ347
  have N347 := Fr.app N345 N347q
  refine gs T347 (mkF m 19 #[rv th] [(.ref wr343)]) (fun _ hr => st347.trans hr) ?_
  obtain ⟨T348, X348, e348, st348⟩ := castY X347 hx hZ hown (tw hw 74 rfl) e347 (Ins.self E_wr343_343c) (g := (mkF m 19 #[rv th] [(.ref wr343)])) rfl rfl (hb hby d28_19)
  refine gs T348 (mkF m 22 #[rv th] [(.ref wr343)]) st348 ?_
  exact Goes.ret (v := some (.ref wr343)) X348 (by decide) (by decide) (fun h => by rw [Bd.returns] at h; cases h) (by show Q_rm_age_pem Z th rr em q1 q2 op eo fu h0 n0 _ T348.heap _; rw [e348]; exact ⟨wr343, rfl, N347, K343, sz_wr343, E_wr343_343c, F_wr343_isPresent_343c, F_wr343_value_343c⟩) (fun fs hr => retOut X348 hx Bd.returns rfl (Or.inr (Or.inr (Or.inr (Or.inr ⟨rfl, rfl, rfl⟩)))) (hb hby d28_22) hr)
def Q_rm_lam_p1 (Z : State) (th : Addr) (rr : Addr) (em : Addr) (q1 : Int64) (q2 : Int64) (op : Addr) (eo : Addr) (nw : Addr) (fu : Addr) (q3 : Int64) (q4 : Int64) (h0 : Heap) (n0 : Nat) (v : Option Value) (h : Heap) (L : List Loc) : Prop := ∃ w : Addr, v = some (.ref w) ∧ Fr n0 L ∧ Keep h0 h [] ∧ h0.size ≤ w ∧ Exa Z h w cOL ∧ Fld Z h w cOL nIP "Z" (.int (1 : Int32)) ∧ Fld Z h w cOL "value" "J" (.long (q4 - q3))
set_option maxRecDepth 65536 in
set_option maxHeartbeats 40000000 in
theorem rm_lam_p1 (l : Launch) (Z : State) (a0 : Array Value) (hw : ∀ d ∈ tables_1, d.before a0 Z = true) (ws : List Jvm.Cond) (th : Addr) (rr : Addr) (em : Addr) (q1 : Int64) (q2 : Int64) (op : Addr) (eo : Addr) (nw : Addr) (fu : Addr) (q3 : Int64) (q4 : Int64) (h0 : Heap) (n0 : Nat) (Z0 : n0 ≤ h0.size) (O0 : Old Z n0 h0) (E_th : Exa Z h0 th cPL) (F_th_offset : Fld Z h0 th cPL "offset" "J" (.long q1)) (F_th_end : Fld Z h0 th cPL "end" "J" (.long q2)) (F_th_records : Fld Z h0 th cPL "records" dOP (.ref op)) (E_op : Exa Z h0 op cOP) (F_op_value : Fld Z h0 op cOP "value" dOB (.ref rr)) (E_rr : Exa Z h0 rr cRR) (F_rr_onlyMarkersLeft : Fld Z h0 rr cRR nOM "Z" (.int (0 : Int32))) (F_rr_firstUnreadTimestamp : Fld Z h0 rr cRR nLT dOL (.ref fu)) (E_fu : Exa Z h0 fu cOL) (F_fu_isPresent : Fld Z h0 fu cOL nIP "Z" (.int (1 : Int32))) (F_fu_value : Fld Z h0 fu cOL "value" "J" (.long q3)) (E_nw : Exa Z h0 nw cOL) (F_nw_isPresent : Fld Z h0 nw cOL nIP "Z" (.int (1 : Int32))) (F_nw_value : Fld Z h0 nw cOL "value" "J" (.long q4)) (F_rr_newestTimestamp : Fld Z h0 rr cRR nNT dOL (.ref nw)) (S_OptionalLong_EMPTY_old : Sta Z Z.heap cOL "EMPTY" dOL (.ref em)) (E_em_old : Exa Z Z.heap em cOL) (F_em_isPresent_old : Fld Z Z.heap em cOL nIP "Z" (.int (0 : Int32))) (F_em_value_old : Fld Z Z.heap em cOL "value" "J" (.long (0 : Int64))) (S_Optional_EMPTY_old : Sta Z Z.heap cOP "EMPTY" dOP (.ref eo)) (E_eo_old : Exa Z Z.heap eo cOP) (F_eo_value_old : Fld Z Z.heap eo cOP "value" dOB .null) (hle : ¬ ((0 : Int32) < (XT.cmpL q1 q2))) (hpp : (0 : Int32) < (XT.cmpL (q2 - q1) (0 : Int64))) (hmx : (XT.cmpL (0 : Int64) (q4 - q3)) < (0 : Int32)) :
    MetFree l Y0 (head1 (Cond.code Y0 prog_13_method_14_code 2 (some (.object cOL)) :: ws) r17) (fun a U => a = #[(.ref th), (.ref rr)] ∧ Z.Warmed39 U.vm ∧ U.heap = h0) (fun _ _ _ _ _ => True) (fun _ U o U' => ∃ v L, o = .returned v ∧ Q_rm_lam_p1 Z th rr em q1 q2 op eo nw fu q3 q4 h0 n0 v U'.heap L ∧ FrameEnd U o U' L r17.cells r17.slots) := by
  refine MetFree.of_bodySF (plainFor_of_name pn_com_example_log_lag_gauge_loglaggauge_model_PositionLag) hisR ?_
  intro p e s m args below meth c s₁ Bd hml0 hP hK
  obtain ⟨rfl, hZ, hh⟩ := hP
  have hx := Bd.exec
  have hby := Bd.bytes
  have hml : c.maxLocals = 2 := hml0
  have hown : s.vm.findClass cPL = some m.cls := findClass_of_methodNamed Bd.named
  have hnm := (name_of_methodNamed Bd.named Bd.method).1
  have X0 : Stand p l e r17 s m #[(.ref th), (.ref rr)] below meth c s₁ [] 0 0 := Stand.of_body Bd
  have e0 : s₁.heap = h0 := by rw [← hh, Bd.state]; rfl
  have N0 := Fr.nil n0
  refine Goes.out (l := l) (c := c) (R := r17) (Q := Q_rm_lam_p1 Z th rr em q1 q2 op eo nw fu q3 q4 h0 n0) Bd.notSynchronized ?_
  refine Goes.cast (g2 := mkF m 0 #[rv th, rv rr] []) (by first | (simp [entryFrame, mkF, argsToLocals, Value.category]; done) | rfl) ?_
  have K0 : Keep h0 h0 [] := Keep.refl h0 _
  have hws : ∀ x ∈ ([] : List Addr), n0 ≤ x := all0
  refine gs s₁ (mkF m 1 #[rv th, rv rr] [(.ref th)]) (fun _ hr => XS.aloadN X0.here hx rfl (hb hby d26_0) rfl rfl hr) ?_
  refine gs s₁ (mkF m 2 #[rv th, rv rr] [(.ref rr), (.ref th)]) (fun _ hr => XS.aloadN X0.here hx rfl (hb hby d26_1) rfl rfl hr) ?_
  refine gs s₁ (mkF m 3 #[rv th, rv rr] [(.ref rr), (.ref rr), (.ref th)]) (fun _ hr => XS.aloadN X0.here hx rfl (hb hby d26_2) rfl rfl hr) ?_
  have Zs349 : n0 ≤ h0.size := Nat.le_trans Z0 K0.1
  obtain ⟨cq350, kq350, q350a, q350b, q350c⟩ := isOf hZ e0 E_rr
  obtain ⟨_, _, ⟨T350, L350, k350, n350⟩, -, X350, ⟨Lc350, hQ350, l350, y350, z350⟩, st350⟩ := X0.virtualBack hx (y := Y12) (z := Y12) hown (mvT hZ (tw hw 129 rfl)) (mvT hZ (tw hw 130 rfl)) (notFace_of_selects (args := #[]) (mvT hZ (tw hw 132 rfl))) (mvT hZ (tw hw 132 rfl)) (mvT hZ (tw hw 131 rfl)) (by decide) (backOf (W := 2) (rm_newestTimestamp l Z a0 hw [] rr nw h0 n0 Zs349 (Old.keep O0 K0 hws) F_rr_newestTimestamp) hZ (tw hw 133 rfl) (tw hw 96 rfl) (by decide) (by decide)) q350a q350c (g := (mkF m 3 #[rv th, rv rr] [(.ref rr), (.ref rr), (.ref th)])) rfl (by rw [hml]; rfl) (Steps.refl _) (argsL := []) (rest := [(.ref rr), (.ref th)]) (lenOf pd_6 rfl) rfl (wle rfl) (hb hby d26_3) (fun _ _ => ⟨rfl, e0, (by decide : 0 + 0 ≤ _), (by decide : 0 + 0 ≤ _)⟩)
  dsimp only [Pt.U, Pt.locs, Pt.cells, Pt.slots] at X350 l350 y350 z350 st350 hQ350
  subst l350 y350 z350
  obtain ⟨rfl, N350q, e350⟩ := hQ350
  have N350 := Fr.app N0 N350q
  refine gs T350 (mkF m 6 #[rv th, rv rr] [(.ref nw), (.ref rr), (.ref th)]) (fun _ hr => st350.trans hr) ?_
  have Zs351 : n0 ≤ h0.size := Nat.le_trans Z0 K0.1
  obtain ⟨cl352, kl352, q352a, -, -, q352d, -⟩ := id E_th
  obtain ⟨_, _, ⟨T352, L352, k352, n352⟩, -, X352, ⟨Lc352, hQ352, l352, y352, z352⟩, st352⟩ := X350.privateBack hx (y := Y27) hown (mvT hZ (tw hw 134 rfl)) (mvT hZ (tw hw 135 rfl)) (own_selP (mvT hZ (tw hw 12 rfl)) (mvT hZ (tw hw 136 rfl)) (mvT hZ (tw hw 135 rfl)) (by decide)) (Cond.privateMethod_at (args := #[]) (mvT hZ (tw hw 136 rfl))) (mvT hZ (tw hw 137 rfl)) (by decide) (backOf (W := 0) (rm_beh_p1 l Z a0 hw [] th rr em q1 q2 op eo nw fu q3 q4 h0 n0 Zs351 (Old.keep O0 K0 hws) E_th F_th_offset F_th_end F_th_records E_op F_op_value E_rr F_rr_onlyMarkersLeft F_rr_firstUnreadTimestamp E_fu F_fu_isPresent F_fu_value E_nw F_nw_isPresent F_nw_value S_OptionalLong_EMPTY_old E_em_old F_em_isPresent_old F_em_value_old S_Optional_EMPTY_old E_eo_old F_eo_value_old hle hpp hmx) hZ (tw hw 137 rfl) (tw hw 13 rfl) (by decide) (by decide)) (g := (mkF m 6 #[rv th, rv rr] [(.ref nw), (.ref rr), (.ref th)])) rfl (by rw [hml]; rfl) (Steps.refl _) (own_at e350 q352a) (fun q z => by rw [z] at q352d; cases q352d) (argsL := [(.ref rr), (.ref nw)]) (rest := []) (lenOf pd_14 rfl) rfl (wle rfl) (hb hby d26_6) (fun _ _ => ⟨rfl, e350, (by decide : 0 + 5 ≤ _), (by decide : 0 + 10 ≤ _)⟩)
  dsimp only [Pt.U, Pt.locs, Pt.cells, Pt.slots] at X352 l352 y352 z352 st352 hQ352
  subst l352 y352 z352
  obtain ⟨w352, rfl, N352q, Kc352, P352_0, P352_1, P352_2, P352_3⟩ := hQ352
  have N352 := Fr.app N350 N352q
  have K352 : Keep h0 T352.heap [] := K0.trans Kc352 all0
  have sz_w352 : h0.size ≤ w352 := Nat.le_trans K0.1 P352_0
  have E_w352_352c : Exa Z T352.heap w352 cOL := P352_1
  have F_w352_isPresent_352c : Fld Z T352.heap w352 cOL nIP "Z" (.int (1 : Int32)) := P352_2
  have F_w352_value_352c : Fld Z T352.heap w352 cOL "value" "J" (.long (q4 - q3)) := P352_3
  refine gs T352 (mkF m 9 #[rv th, rv rr] [(.ref w352)]) (fun _ hr => st352.trans hr) ?_
  exact Goes.ret (v := some (.ref w352)) X352 (by decide) (by decide) (fun h => by rw [Bd.returns] at h; cases h) (by show Q_rm_lam_p1 Z th rr em q1 q2 op eo nw fu q3 q4 h0 n0 _ T352.heap _; exact ⟨w352, rfl, N352, K352, sz_w352, E_w352_352c, F_w352_isPresent_352c, F_w352_value_352c⟩) (fun fs hr => retOut X352 hx Bd.returns rfl (Or.inr (Or.inr (Or.inr (Or.inr ⟨rfl, rfl, rfl⟩)))) (hb hby d26_9) hr)
def Q_rm_map_p1 (Z : State) (th : Addr) (rr : Addr) (em : Addr) (q1 : Int64) (q2 : Int64) (op : Addr) (eo : Addr) (nw : Addr) (fu : Addr) (q3 : Int64) (q4 : Int64) (fa : Addr) (cK : ClassId) (h0 : Heap) (n0 : Nat) (v : Option Value) (h : Heap) (L : List Loc) : Prop := ∃ w : Addr, ∃ wr : Addr, v = some (.ref w) ∧ Fr n0 L ∧ Keep h0 h [] ∧ h0.size ≤ w ∧ Exa Z h w cOP ∧ Fld Z h w cOP "value" dOB (.ref wr) ∧ h0.size ≤ wr ∧ Exa Z h wr cOL ∧ Fld Z h wr cOL nIP "Z" (.int (1 : Int32)) ∧ Fld Z h wr cOL "value" "J" (.long (q4 - q3))
set_option maxRecDepth 65536 in
set_option maxHeartbeats 40000000 in
theorem rm_map_p1 (l : Launch) (Z : State) (a0 : Array Value) (hw : ∀ d ∈ tables_1, d.before a0 Z = true) (ws : List Jvm.Cond) (th : Addr) (rr : Addr) (em : Addr) (q1 : Int64) (q2 : Int64) (op : Addr) (eo : Addr) (nw : Addr) (fu : Addr) (q3 : Int64) (q4 : Int64) (fa : Addr) (cK : ClassId) (h0 : Heap) (n0 : Nat) (Z0 : n0 ≤ h0.size) (O0 : Old Z n0 h0) (E_th : Exa Z h0 th cPL) (F_th_offset : Fld Z h0 th cPL "offset" "J" (.long q1)) (F_th_end : Fld Z h0 th cPL "end" "J" (.long q2)) (F_th_records : Fld Z h0 th cPL "records" dOP (.ref op)) (E_op : Exa Z h0 op cOP) (F_op_value : Fld Z h0 op cOP "value" dOB (.ref rr)) (E_rr : Exa Z h0 rr cRR) (F_rr_onlyMarkersLeft : Fld Z h0 rr cRR nOM "Z" (.int (0 : Int32))) (F_rr_firstUnreadTimestamp : Fld Z h0 rr cRR nLT dOL (.ref fu)) (E_fu : Exa Z h0 fu cOL) (F_fu_isPresent : Fld Z h0 fu cOL nIP "Z" (.int (1 : Int32))) (F_fu_value : Fld Z h0 fu cOL "value" "J" (.long q3)) (E_nw : Exa Z h0 nw cOL) (F_nw_isPresent : Fld Z h0 nw cOL nIP "Z" (.int (1 : Int32))) (F_nw_value : Fld Z h0 nw cOL "value" "J" (.long q4)) (F_rr_newestTimestamp : Fld Z h0 rr cRR nNT dOL (.ref nw)) (G_fa : FnV h0 fa cK #[(.ref th)]) (S_OptionalLong_EMPTY_old : Sta Z Z.heap cOL "EMPTY" dOL (.ref em)) (E_em_old : Exa Z Z.heap em cOL) (F_em_isPresent_old : Fld Z Z.heap em cOL nIP "Z" (.int (0 : Int32))) (F_em_value_old : Fld Z Z.heap em cOL "value" "J" (.long (0 : Int64))) (S_Optional_EMPTY_old : Sta Z Z.heap cOP "EMPTY" dOP (.ref eo)) (E_eo_old : Exa Z Z.heap eo cOP) (F_eo_value_old : Fld Z Z.heap eo cOP "value" dOB .null) (hle : ¬ ((0 : Int32) < (XT.cmpL q1 q2))) (hpp : (0 : Int32) < (XT.cmpL (q2 - q1) (0 : Int64))) (hmx : (XT.cmpL (0 : Int64) (q4 - q3)) < (0 : Int32)) (Md : Jvm.LamKit.Made Z cPL sgA cK) :
    MetFree l Y29 (head1 (Cond.code Y29 jdk_32_method_11_code 2 (some (.object cOP)) :: ws) r18) (fun a U => a = #[(.ref op), (.ref fa)] ∧ Z.Warmed39 U.vm ∧ U.heap = h0) (fun _ _ _ _ _ => True) (fun _ U o U' => ∃ v L, o = .returned v ∧ Q_rm_map_p1 Z th rr em q1 q2 op eo nw fu q3 q4 fa cK h0 n0 v U'.heap L ∧ FrameEnd U o U' L r18.cells r18.slots) := by
  refine MetFree.of_bodySF (plainFor_of_name pn_java_util_Optional) hisR ?_
  intro p e s m args below meth c s₁ Bd hml0 hP hK
  obtain ⟨rfl, hZ, hh⟩ := hP
  have hx := Bd.exec
  have hby := Bd.bytes
  have hml : c.maxLocals = 2 := hml0
  have hown : s.vm.findClass cOP = some m.cls := findClass_of_methodNamed Bd.named
  have hnm := (name_of_methodNamed Bd.named Bd.method).1
  have X0 : Stand p l e r18 s m #[(.ref op), (.ref fa)] below meth c s₁ [] 0 0 := Stand.of_body Bd
  have e0 : s₁.heap = h0 := by rw [← hh, Bd.state]; rfl
  have N0 := Fr.nil n0
  refine Goes.out (l := l) (c := c) (R := r18) (Q := Q_rm_map_p1 Z th rr em q1 q2 op eo nw fu q3 q4 fa cK h0 n0) Bd.notSynchronized ?_
  refine Goes.cast (g2 := mkF m 0 #[rv op, rv fa] []) (by first | (simp [entryFrame, mkF, argsToLocals, Value.category]; done) | rfl) ?_
  have K0 : Keep h0 h0 [] := Keep.refl h0 _
  have hws : ∀ x ∈ ([] : List Addr), n0 ≤ x := all0
  refine gs s₁ (mkF m 1 #[rv op, rv fa] [(.ref fa)]) (fun _ hr => XS.aloadN X0.here hx rfl (hb hby d27_0) rfl rfl hr) ?_
  have Zs353 : n0 ≤ h0.size := Nat.le_trans Z0 K0.1
  obtain ⟨_, _, ⟨T354, L354, k354, n354⟩, -, X354, ⟨Lc354, hQ354, l354, y354, z354⟩, st354⟩ := LawKit.callS X0 hx (y := Y13) hown (mvT hZ (tw hw 57 rfl)) (mvT hZ (tw hw 58 rfl)) (mvT hZ (tw hw 35 rfl)) (mvT hZ (tw hw 59 rfl)) (by decide) (backOf (W := 0) (rm_rnn1 l Z a0 hw [] fa h0 n0 Zs353 (Old.keep O0 K0 hws)) hZ (tw hw 59 rfl) (tw hw 35 rfl) (by decide) (by decide)) (g := (mkF m 1 #[rv op, rv fa] [(.ref fa)])) rfl (by rw [hml]; rfl) (argsL := [(.ref fa)]) (rest := []) (lenOf pd_3 rfl) rfl (wle rfl) (hb hby d27_1) (fun _ _ => ⟨rfl, e0, (by decide : 0 + 0 ≤ _), (by decide : 0 + 0 ≤ _)⟩)
  dsimp only [Pt.U, Pt.locs, Pt.cells, Pt.slots] at X354 l354 y354 z354 st354 hQ354
  subst l354 y354 z354
  obtain ⟨rfl, N354q, e354⟩ := hQ354
  have N354 := Fr.app N0 N354q
  refine gs T354 (mkF m 4 #[rv op, rv fa] [(.ref fa)]) st354 ?_
  refine gs T354 (mkF m 5 #[rv op, rv fa] []) (fun _ hr => XT.pop X354.here hx rfl (hb hby d27_4) rfl rfl hr) ?_
  refine gs T354 (mkF m 6 #[rv op, rv fa] [(.ref op)]) (fun _ hr => XS.aloadN X354.here hx rfl (hb hby d27_5) rfl rfl hr) ?_
  have Zs355 : n0 ≤ h0.size := Nat.le_trans Z0 K0.1
  obtain ⟨cq356, kq356, q356a, q356b, q356c⟩ := isOf hZ e354 E_op
  obtain ⟨_, _, ⟨T356, L356, k356, n356⟩, -, X356, ⟨Lc356, hQ356, l356, y356, z356⟩, st356⟩ := X354.virtualBack hx (y := Y18) (z := Y18) hown (mvT hZ (tw hw 60 rfl)) (mvT hZ (tw hw 61 rfl)) (notFace_of_selects (args := #[]) (mvT hZ (tw hw 63 rfl))) (mvT hZ (tw hw 63 rfl)) (mvT hZ (tw hw 62 rfl)) (by decide) (backOf (W := 0) (rm_oise1 l Z a0 hw [] op rr h0 n0 Zs355 (Old.keep O0 K0 hws) F_op_value) hZ (tw hw 64 rfl) (tw hw 8 rfl) (by decide) (by decide)) q356a q356c (g := (mkF m 6 #[rv op, rv fa] [(.ref op)])) rfl (by rw [hml]; rfl) (Steps.refl _) (argsL := []) (rest := []) (lenOf pd_1 rfl) rfl (wle rfl) (hb hby d27_6) (fun _ _ => ⟨rfl, e354, (by decide : 0 + 0 ≤ _), (by decide : 0 + 0 ≤ _)⟩)
  dsimp only [Pt.U, Pt.locs, Pt.cells, Pt.slots] at X356 l356 y356 z356 st356 hQ356
  subst l356 y356 z356
  obtain ⟨rfl, N356q, e356⟩ := hQ356
  have N356 := Fr.app N354 N356q
  refine gs T356 (mkF m 9 #[rv op, rv fa] [(.int (0 : Int32))]) (fun _ hr => st356.trans hr) ?_
  refine gs T356 (mkF m 16 #[rv op, rv fa] []) (fun _ hr => XS.ifYes X356.here hx rfl (pc0 := 9) (pc' := 16) rfl (hb hby d27_9) rfl ((if0 _ _).trans (teq (by decide : (0 : Int32) = (0 : Int32))).1) (by decide) (by decide) hr) ?_
  refine gs T356 (mkF m 17 #[rv op, rv fa] [(.ref fa)]) (fun _ hr => XS.aloadN X356.here hx rfl (hb hby d27_16) rfl rfl hr) ?_
  refine gs T356 (mkF m 18 #[rv op, rv fa] [(.ref op), (.ref fa)]) (fun _ hr => XS.aloadN X356.here hx rfl (hb hby d27_17) rfl rfl hr) ?_
  obtain ⟨T357, X357, e357, st357⟩ := getF X356 hx hZ hown (host := "") (Or.inl (tw hw 65 rfl)) Via.refl e356 F_op_value (g := (mkF m 18 #[rv op, rv fa] [(.ref op), (.ref fa)])) rfl rfl (hb hby d27_18)
  refine gs T357 (mkF m 21 #[rv op, rv fa] [(.ref rr), (.ref fa)]) st357 ?_
  have Zs358 : n0 ≤ h0.size := Nat.le_trans Z0 K0.1
  obtain ⟨_, T359, Lc359, X359, hQ359, st359⟩ := own_callFace X357 hx hZ (xi := Y28) hown (tw hw 122 rfl) (tw hw 123 rfl) (tw hw 124 rfl) ⟨rfl, rfl, by decide +kernel⟩ (by decide) Md e357 G_fa okA (g := (mkF m 21 #[rv op, rv fa] [(.ref rr), (.ref fa)])) rfl (by rw [hml]; rfl) (argsL := [(.ref rr)]) (rest := []) (lenOf pd_3 rfl) rfl (hb hby d27_21) (R' := r19) (Q := Q_rm_lam_p1 Z th rr em q1 q2 op eo nw fu q3 q4 h0 n0) (by decide) (by show 2 * 0 + 0 + 13 + 3116 ≤ _; decide) (by decide) (by decide) (fun s' U bl mk ck Y' hZ' eU zq1 zq2 zq3 => bodyA hx Y' hZ' hw Md zq1 zq2 zq3 eU G_fa E_rr E_th (rm_lam_p1 l Z a0 hw [] th rr em q1 q2 op eo nw fu q3 q4 h0 n0 Zs358 (Old.keep O0 K0 hws) E_th F_th_offset F_th_end F_th_records E_op F_op_value E_rr F_rr_onlyMarkersLeft F_rr_firstUnreadTimestamp E_fu F_fu_isPresent F_fu_value E_nw F_nw_isPresent F_nw_value F_rr_newestTimestamp S_OptionalLong_EMPTY_old E_em_old F_em_isPresent_old F_em_value_old S_Optional_EMPTY_old E_eo_old F_eo_value_old hle hpp hmx) (fun v h L q => by obtain ⟨_, rfl, -⟩ := q; exact ⟨_, rfl⟩) (by decide) (by decide) (by decide) (by decide))
  obtain ⟨w359, rfl, N359q, Kc359, P359_0, P359_1, P359_2, P359_3⟩ := hQ359
  have N359 := Fr.app N356 N359q
  have K359 : Keep h0 T359.heap [] := K0.trans Kc359 all0
  have sz_w359 : h0.size ≤ w359 := Nat.le_trans K0.1 P359_0
  have E_w359_359c : Exa Z T359.heap w359 cOL := P359_1
  have F_w359_isPresent_359c : Fld Z T359.heap w359 cOL nIP "Z" (.int (1 : Int32)) := P359_2
  have F_w359_value_359c : Fld Z T359.heap w359 cOL "value" "J" (.long (q4 - q3)) := P359_3
  refine gs T359 (mkF m 26 #[rv op, rv fa] [(.ref w359)]) st359 ?_
  have Zs360 : n0 ≤ T359.heap.size := Nat.le_trans Z0 K359.1
  obtain ⟨_, _, ⟨T361, L361, k361, n361⟩, -, X361, ⟨Lc361, hQ361, l361, y361, z361⟩, st361⟩ := LawKit.callS X359 hx (y := Y16) hown (mvT hZ (tw hw 161 rfl)) (mvT hZ (tw hw 162 rfl)) (mvT hZ (tw hw 8 rfl)) (mvT hZ (tw hw 163 rfl)) (by decide) (backOf (W := 0) (rm_oofn l Z a0 hw [] w359 T359.heap n0 Zs360 (Old.keep O0 K359 hws)) hZ (tw hw 163 rfl) (tw hw 8 rfl) (by decide) (by decide)) (g := (mkF m 26 #[rv op, rv fa] [(.ref w359)])) rfl (by rw [hml]; rfl) (argsL := [(.ref w359)]) (rest := []) (lenOf pd_15 rfl) rfl (wle rfl) (hb hby d27_26) (fun _ _ => ⟨rfl, rfl, (by decide : 5 + 1 ≤ _), (by decide : 10 + 1 ≤ _)⟩)
  dsimp only [Pt.U, Pt.locs, Pt.cells, Pt.slots] at X361 l361 y361 z361 st361 hQ361
  subst l361 y361 z361
  obtain ⟨w361, rfl, N361q, Kc361, P361_0, P361_1, P361_2⟩ := hQ361
  have N361 := Fr.app N359 N361q
  have E_w359_361 : Exa Z T361.heap w359 cOL := E_w359_359c.keep Kc361
  have F_w359_isPresent_361 : Fld Z T361.heap w359 cOL nIP "Z" (.int (1 : Int32)) := F_w359_isPresent_359c.keep Kc361 nin0
  have F_w359_value_361 : Fld Z T361.heap w359 cOL "value" "J" (.long (q4 - q3)) := F_w359_value_359c.keep Kc361 nin0
  have K361 : Keep h0 T361.heap [] := K359.trans Kc361 all0
  have sz_w361 : h0.size ≤ w361 := Nat.le_trans K359.1 P361_0
  have E_w361_361c : Exa Z T361.heap w361 cOP := P361_1
  have F_w361_value_361c : Fld Z T361.heap w361 cOP "value" dOB (.ref w359) := P361_2
  refine gs T361 (mkF m 29 #[rv op, rv fa] [(.ref w361)]) st361 ?_
  exact Goes.ret (v := some (.ref w361)) X361 (by decide) (by decide) (fun h => by rw [Bd.returns] at h; cases h) (by show Q_rm_map_p1 Z th rr em q1 q2 op eo nw fu q3 q4 fa cK h0 n0 _ T361.heap _; exact ⟨w361, w359, rfl, N361, K361, sz_w361, E_w361_361c, F_w361_value_361c, sz_w359, E_w359_361, F_w359_isPresent_361, F_w359_value_361⟩) (fun fs hr => retOut X361 hx Bd.returns rfl (Or.inr (Or.inr (Or.inr (Or.inr ⟨rfl, rfl, rfl⟩)))) (hb hby d27_29) hr)
def Q_rm_age_p1 (Z : State) (th : Addr) (rr : Addr) (em : Addr) (q1 : Int64) (q2 : Int64) (op : Addr) (eo : Addr) (nw : Addr) (fu : Addr) (q3 : Int64) (q4 : Int64) (h0 : Heap) (n0 : Nat) (v : Option Value) (h : Heap) (L : List Loc) : Prop := ∃ w : Addr, v = some (.ref w) ∧ Fr n0 L ∧ Keep h0 h [] ∧ h0.size ≤ w ∧ Exa Z h w cOL ∧ Fld Z h w cOL nIP "Z" (.int (1 : Int32)) ∧ Fld Z h w cOL "value" "J" (.long (q4 - q3))
set_option maxRecDepth 65536 in
set_option maxHeartbeats 40000000 in
theorem rm_age_p1 (l : Launch) (Z : State) (a0 : Array Value) (hw : ∀ d ∈ tables_1, d.before a0 Z = true) (ws : List Jvm.Cond) (th : Addr) (rr : Addr) (em : Addr) (q1 : Int64) (q2 : Int64) (op : Addr) (eo : Addr) (nw : Addr) (fu : Addr) (q3 : Int64) (q4 : Int64) (h0 : Heap) (n0 : Nat) (Z0 : n0 ≤ h0.size) (O0 : Old Z n0 h0) (E_th : Exa Z h0 th cPL) (F_th_offset : Fld Z h0 th cPL "offset" "J" (.long q1)) (F_th_end : Fld Z h0 th cPL "end" "J" (.long q2)) (F_th_records : Fld Z h0 th cPL "records" dOP (.ref op)) (E_op : Exa Z h0 op cOP) (F_op_value : Fld Z h0 op cOP "value" dOB (.ref rr)) (E_rr : Exa Z h0 rr cRR) (F_rr_onlyMarkersLeft : Fld Z h0 rr cRR nOM "Z" (.int (0 : Int32))) (F_rr_firstUnreadTimestamp : Fld Z h0 rr cRR nLT dOL (.ref fu)) (E_fu : Exa Z h0 fu cOL) (F_fu_isPresent : Fld Z h0 fu cOL nIP "Z" (.int (1 : Int32))) (F_fu_value : Fld Z h0 fu cOL "value" "J" (.long q3)) (E_nw : Exa Z h0 nw cOL) (F_nw_isPresent : Fld Z h0 nw cOL nIP "Z" (.int (1 : Int32))) (F_nw_value : Fld Z h0 nw cOL "value" "J" (.long q4)) (F_rr_newestTimestamp : Fld Z h0 rr cRR nNT dOL (.ref nw)) (S_OptionalLong_EMPTY_old : Sta Z Z.heap cOL "EMPTY" dOL (.ref em)) (E_em_old : Exa Z Z.heap em cOL) (F_em_isPresent_old : Fld Z Z.heap em cOL nIP "Z" (.int (0 : Int32))) (F_em_value_old : Fld Z Z.heap em cOL "value" "J" (.long (0 : Int64))) (S_Optional_EMPTY_old : Sta Z Z.heap cOP "EMPTY" dOP (.ref eo)) (E_eo_old : Exa Z Z.heap eo cOP) (F_eo_value_old : Fld Z Z.heap eo cOP "value" dOB .null) (hle : ¬ ((0 : Int32) < (XT.cmpL q1 q2))) (hpp : (0 : Int32) < (XT.cmpL (q2 - q1) (0 : Int64))) (hmx : (XT.cmpL (0 : Int64) (q4 - q3)) < (0 : Int32)) :
    MetFree l Y30 (head1 (Cond.code Y30 prog_13_method_4_code 1 (some (.object cOL)) :: ws) r20) (fun a U => a = #[(.ref th)] ∧ Z.Warmed39 U.vm ∧ U.heap = h0) (fun _ _ _ _ _ => True) (fun _ U o U' => ∃ v L, o = .returned v ∧ Q_rm_age_p1 Z th rr em q1 q2 op eo nw fu q3 q4 h0 n0 v U'.heap L ∧ FrameEnd U o U' L r20.cells r20.slots) := by
  refine MetFree.of_bodySF (plainFor_of_name pn_com_example_log_lag_gauge_loglaggauge_model_PositionLag) hisR ?_
  intro p e s m args below meth c s₁ Bd hml0 hP hK
  obtain ⟨rfl, hZ, hh⟩ := hP
  have hx := Bd.exec
  have hby := Bd.bytes
  have hml : c.maxLocals = 1 := hml0
  have hown : s.vm.findClass cPL = some m.cls := findClass_of_methodNamed Bd.named
  have hnm := (name_of_methodNamed Bd.named Bd.method).1
  have X0 : Stand p l e r20 s m #[(.ref th)] below meth c s₁ [] 0 0 := Stand.of_body Bd
  have e0 : s₁.heap = h0 := by rw [← hh, Bd.state]; rfl
  have N0 := Fr.nil n0
  refine Goes.out (l := l) (c := c) (R := r20) (Q := Q_rm_age_p1 Z th rr em q1 q2 op eo nw fu q3 q4 h0 n0) Bd.notSynchronized ?_
  refine Goes.cast (g2 := mkF m 0 #[rv th] []) (by first | (simp [entryFrame, mkF, argsToLocals, Value.category]; done) | rfl) ?_
  have K0 : Keep h0 h0 [] := Keep.refl h0 _
  have hws : ∀ x ∈ ([] : List Addr), n0 ≤ x := all0
  refine gs s₁ (mkF m 1 #[rv th] [(.ref th)]) (fun _ hr => XS.aloadN X0.here hx rfl (hb hby d28_0) rfl rfl hr) ?_
  obtain ⟨T362, X362, e362, st362⟩ := getF X0 hx hZ hown (host := "") (Or.inl (tw hw 41 rfl)) Via.refl e0 F_th_records (g := (mkF m 1 #[rv th] [(.ref th)])) rfl rfl (hb hby d28_1)
  refine gs T362 (mkF m 4 #[rv th] [(.ref op)]) st362 ?_
  refine gs T362 (mkF m 5 #[rv th] [(.ref th), (.ref op)]) (fun _ hr => XS.aloadN X362.here hx rfl (hb hby d28_4) rfl rfl hr) ?_
  obtain ⟨T363, h363, c363, X363, e363, E363, A363, Md363, st363⟩ := own_siteMakes X362 hx hZ (x := Y30) (pc := 5) (fi := 15) (σ := sgA) Bd.named (tw hw 48 rfl) (by decide) cpA (tw hw 51 rfl) e362 (g := (mkF m 5 #[rv th] [(.ref th), (.ref op)])) rfl rfl (by rw [hml]; rfl) (hb hby d28_5) (vals := [(.ref th)]) (rest := [(.ref op)]) rfl rfl own_fit1 (by show 2 * 0 + 2 + 3072 ≤ _; decide) (N := 1) rfl (by decide) (by decide)
  obtain ⟨b363, g363⟩ : ∃ z, z = h0.size := ⟨_, rfl⟩
  rw [← g363] at A363 st363
  have E_th_363 : Exa Z h363 th cPL := E_th.ext E363
  have F_th_offset_363 : Fld Z h363 th cPL "offset" "J" (.long q1) := F_th_offset.ext E363
  have F_th_end_363 : Fld Z h363 th cPL "end" "J" (.long q2) := F_th_end.ext E363
  have F_th_records_363 : Fld Z h363 th cPL "records" dOP (.ref op) := F_th_records.ext E363
  have E_op_363 : Exa Z h363 op cOP := E_op.ext E363
  have F_op_value_363 : Fld Z h363 op cOP "value" dOB (.ref rr) := F_op_value.ext E363
  have E_rr_363 : Exa Z h363 rr cRR := E_rr.ext E363
  have F_rr_onlyMarkersLeft_363 : Fld Z h363 rr cRR nOM "Z" (.int (0 : Int32)) := F_rr_onlyMarkersLeft.ext E363
  have F_rr_firstUnreadTimestamp_363 : Fld Z h363 rr cRR nLT dOL (.ref fu) := F_rr_firstUnreadTimestamp.ext E363
  have E_fu_363 : Exa Z h363 fu cOL := E_fu.ext E363
  have F_fu_isPresent_363 : Fld Z h363 fu cOL nIP "Z" (.int (1 : Int32)) := F_fu_isPresent.ext E363
  have F_fu_value_363 : Fld Z h363 fu cOL "value" "J" (.long q3) := F_fu_value.ext E363
  have E_nw_363 : Exa Z h363 nw cOL := E_nw.ext E363
  have F_nw_isPresent_363 : Fld Z h363 nw cOL nIP "Z" (.int (1 : Int32)) := F_nw_isPresent.ext E363
  have F_nw_value_363 : Fld Z h363 nw cOL "value" "J" (.long q4) := F_nw_value.ext E363
  have F_rr_newestTimestamp_363 : Fld Z h363 rr cRR nNT dOL (.ref nw) := F_rr_newestTimestamp.ext E363
  have K363 : Keep h0 h363 [] := K0.ext E363
  refine gs T363 (mkF m 10 #[rv th] [(.ref b363), (.ref op)]) st363 ?_
  have Zs364 : n0 ≤ h363.size := Nat.le_trans Z0 K363.1
  obtain ⟨cq365, kq365, q365a, q365b, q365c⟩ := isOf hZ e363 E_op_363
  obtain ⟨_, _, ⟨T365, L365, k365, n365⟩, -, X365, ⟨Lc365, hQ365, l365, y365, z365⟩, st365⟩ := X363.virtualBack hx (y := Y29) (z := Y29) hown (mvT hZ (tw hw 52 rfl)) (mvT hZ (tw hw 53 rfl)) (notFace_of_selects (args := #[]) (mvT hZ (tw hw 55 rfl))) (mvT hZ (tw hw 55 rfl)) (mvT hZ (tw hw 54 rfl)) (by decide) (backOf (W := 0) (rm_map_p1 l Z a0 hw [] th rr em q1 q2 op eo nw fu q3 q4 b363 c363 h363 n0 Zs364 (Old.keep O0 K363 hws) E_th_363 F_th_offset_363 F_th_end_363 F_th_records_363 E_op_363 F_op_value_363 E_rr_363 F_rr_onlyMarkersLeft_363 F_rr_firstUnreadTimestamp_363 E_fu_363 F_fu_isPresent_363 F_fu_value_363 E_nw_363 F_nw_isPresent_363 F_nw_value_363 F_rr_newestTimestamp_363 A363 S_OptionalLong_EMPTY_old E_em_old F_em_isPresent_old F_em_value_old S_Optional_EMPTY_old E_eo_old F_eo_value_old hle hpp hmx Md363) hZ (tw hw 56 rfl) (tw hw 8 rfl) (by decide) (by decide)) q365a q365c (g := (mkF m 10 #[rv th] [(.ref b363), (.ref op)])) rfl (by rw [hml]; rfl) (Steps.refl _) (argsL := [(.ref b363)]) (rest := []) (lenOf pd_16 rfl) rfl (wle rfl) (hb hby d28_10) (fun _ _ => ⟨rfl, e363, (by decide : 1 + 6 ≤ _), (by decide : 1 + 11 ≤ _)⟩)
  dsimp only [Pt.U, Pt.locs, Pt.cells, Pt.slots] at X365 l365 y365 z365 st365 hQ365
  subst l365 y365 z365
  obtain ⟨w365, wr365, rfl, N365q, Kc365, P365_0, P365_1, P365_2, P365_3, P365_4, P365_5, P365_6⟩ := hQ365
  have N365 := Fr.app N0 N365q
  have K365 : Keep h0 T365.heap [] := K363.trans Kc365 all0
  have E_w365_365c : Exa Z T365.heap w365 cOP := P365_1
  have F_w365_value_365c : Fld Z T365.heap w365 cOP "value" dOB (.ref wr365) := P365_2
  have sz_wr365 : h0.size ≤ wr365 := Nat.le_trans K363.1 P365_3
  have E_wr365_365c : Exa Z T365.heap wr365 cOL := P365_4
  have F_wr365_isPresent_365c : Fld Z T365.heap wr365 cOL nIP "Z" (.int (1 : Int32)) := P365_5
  have F_wr365_value_365c : Fld Z T365.heap wr365 cOL "value" "J" (.long (q4 - q3)) := P365_6
  refine gs T365 (mkF m 13 #[rv th] [(.ref w365)]) (fun _ hr => st365.trans hr) ?_
  have Zs366 : n0 ≤ T365.heap.size := Nat.le_trans Z0 K365.1
  obtain ⟨_, _, ⟨T367, L367, k367, n367⟩, -, X367, ⟨Lc367, hQ367, l367, y367, z367⟩, st367⟩ := LawKit.callS X365 hx (y := Y4) hown (mvT hZ (tw hw 68 rfl)) (mvT hZ (tw hw 2 rfl)) (mvT hZ (tw hw 3 rfl)) (mvT hZ (tw hw 4 rfl)) (by decide) (backOf (W := 1) (rm_olem l Z a0 hw [] em T365.heap n0 Zs366 (Old.keep O0 K365 hws) S_OptionalLong_EMPTY_old) hZ (tw hw 4 rfl) (tw hw 3 rfl) (by decide) (by decide)) (g := (mkF m 13 #[rv th] [(.ref w365)])) rfl (by rw [hml]; rfl) (argsL := []) (rest := [(.ref w365)]) (lenOf pd_6 rfl) rfl (wle rfl) (hb hby d28_13) (fun _ _ => ⟨rfl, rfl, (by decide : 7 + 0 ≤ _), (by decide : 12 + 0 ≤ _)⟩)
  dsimp only [Pt.U, Pt.locs, Pt.cells, Pt.slots] at X367 l367 y367 z367 st367 hQ367
  subst l367 y367 z367
  obtain ⟨rfl, N367q, e367⟩ := hQ367
  have N367 := Fr.app N365 N367q
  refine gs T367 (mkF m 16 #[rv th] [(.ref em), (.ref w365)]) st367 ?_
  have Zs368 : n0 ≤ T365.heap.size := Nat.le_trans Z0 K365.1
  obtain ⟨cq369, kq369, q369a, q369b, q369c⟩ := isOf hZ e367 E_w365_365c
  obtain ⟨_, _, ⟨T369, L369, k369, n369⟩, -, X369, ⟨Lc369, hQ369, l369, y369, z369⟩, st369⟩ := X367.virtualBack hx (y := Y20) (z := Y20) hown (mvT hZ (tw hw 69 rfl)) (mvT hZ (tw hw 70 rfl)) (notFace_of_selects (args := #[]) (mvT hZ (tw hw 72 rfl))) (mvT hZ (tw hw 72 rfl)) (mvT hZ (tw hw 71 rfl)) (by decide) (backOf (W := 0) (rm_oore1 l Z a0 hw [] w365 wr365 em T365.heap n0 Zs368 (Old.keep O0 K365 hws) F_w365_value_365c) hZ (tw hw 73 rfl) (tw hw 8 rfl) (by decide) (by decide)) q369a q369c (g := (mkF m 16 #[rv th] [(.ref em), (.ref w365)])) rfl (by rw [hml]; rfl) (Steps.refl _) (argsL := [(.ref em)]) (rest := []) (lenOf pd_3 rfl) rfl (wle rfl) (hb hby d28_16) (fun _ _ => ⟨rfl, e367, (by decide : 7 + 0 ≤ _), (by decide : 12 + 0 ≤ _)⟩)
  dsimp only [Pt.U, Pt.locs, Pt.cells, Pt.slots] at X369 l369 y369 z369 st369 hQ369
  subst l369 y369 z369
  obtain ⟨rfl, N369q, e369⟩ := hQ369
  have N369 := Fr.app N367 N369q
  refine gs T369 (mkF m 19 #[rv th] [(.ref wr365)]) (fun _ hr => st369.trans hr) ?_
  obtain ⟨T370, X370, e370, st370⟩ := castY X369 hx hZ hown (tw hw 74 rfl) e369 (Ins.self E_wr365_365c) (g := (mkF m 19 #[rv th] [(.ref wr365)])) rfl rfl (hb hby d28_19)
  refine gs T370 (mkF m 22 #[rv th] [(.ref wr365)]) st370 ?_
  exact Goes.ret (v := some (.ref wr365)) X370 (by decide) (by decide) (fun h => by rw [Bd.returns] at h; cases h) (by show Q_rm_age_p1 Z th rr em q1 q2 op eo nw fu q3 q4 h0 n0 _ T370.heap _; rw [e370]; exact ⟨wr365, rfl, N369, K365, sz_wr365, E_wr365_365c, F_wr365_isPresent_365c, F_wr365_value_365c⟩) (fun fs hr => retOut X370 hx Bd.returns rfl (Or.inr (Or.inr (Or.inr (Or.inr ⟨rfl, rfl, rfl⟩)))) (hb hby d28_22) hr)
def Q_rm_lam_p0 (Z : State) (th : Addr) (rr : Addr) (em : Addr) (q1 : Int64) (q2 : Int64) (op : Addr) (eo : Addr) (nw : Addr) (fu : Addr) (q3 : Int64) (q4 : Int64) (h0 : Heap) (n0 : Nat) (v : Option Value) (h : Heap) (L : List Loc) : Prop := ∃ w : Addr, v = some (.ref w) ∧ Fr n0 L ∧ Keep h0 h [] ∧ h0.size ≤ w ∧ Exa Z h w cOL ∧ Fld Z h w cOL nIP "Z" (.int (1 : Int32)) ∧ Fld Z h w cOL "value" "J" (.long (0 : Int64))
set_option maxRecDepth 65536 in
set_option maxHeartbeats 40000000 in
theorem rm_lam_p0 (l : Launch) (Z : State) (a0 : Array Value) (hw : ∀ d ∈ tables_1, d.before a0 Z = true) (ws : List Jvm.Cond) (th : Addr) (rr : Addr) (em : Addr) (q1 : Int64) (q2 : Int64) (op : Addr) (eo : Addr) (nw : Addr) (fu : Addr) (q3 : Int64) (q4 : Int64) (h0 : Heap) (n0 : Nat) (Z0 : n0 ≤ h0.size) (O0 : Old Z n0 h0) (E_th : Exa Z h0 th cPL) (F_th_offset : Fld Z h0 th cPL "offset" "J" (.long q1)) (F_th_end : Fld Z h0 th cPL "end" "J" (.long q2)) (F_th_records : Fld Z h0 th cPL "records" dOP (.ref op)) (E_op : Exa Z h0 op cOP) (F_op_value : Fld Z h0 op cOP "value" dOB (.ref rr)) (E_rr : Exa Z h0 rr cRR) (F_rr_onlyMarkersLeft : Fld Z h0 rr cRR nOM "Z" (.int (0 : Int32))) (F_rr_firstUnreadTimestamp : Fld Z h0 rr cRR nLT dOL (.ref fu)) (E_fu : Exa Z h0 fu cOL) (F_fu_isPresent : Fld Z h0 fu cOL nIP "Z" (.int (1 : Int32))) (F_fu_value : Fld Z h0 fu cOL "value" "J" (.long q3)) (E_nw : Exa Z h0 nw cOL) (F_nw_isPresent : Fld Z h0 nw cOL nIP "Z" (.int (1 : Int32))) (F_nw_value : Fld Z h0 nw cOL "value" "J" (.long q4)) (F_rr_newestTimestamp : Fld Z h0 rr cRR nNT dOL (.ref nw)) (S_OptionalLong_EMPTY_old : Sta Z Z.heap cOL "EMPTY" dOL (.ref em)) (E_em_old : Exa Z Z.heap em cOL) (F_em_isPresent_old : Fld Z Z.heap em cOL nIP "Z" (.int (0 : Int32))) (F_em_value_old : Fld Z Z.heap em cOL "value" "J" (.long (0 : Int64))) (S_Optional_EMPTY_old : Sta Z Z.heap cOP "EMPTY" dOP (.ref eo)) (E_eo_old : Exa Z Z.heap eo cOP) (F_eo_value_old : Fld Z Z.heap eo cOP "value" dOB .null) (hle : ¬ ((0 : Int32) < (XT.cmpL q1 q2))) (hpp : (0 : Int32) < (XT.cmpL (q2 - q1) (0 : Int64))) (hmn : ¬ ((XT.cmpL (0 : Int64) (q4 - q3)) < (0 : Int32))) :
    MetFree l Y0 (head1 (Cond.code Y0 prog_13_method_14_code 2 (some (.object cOL)) :: ws) r17) (fun a U => a = #[(.ref th), (.ref rr)] ∧ Z.Warmed39 U.vm ∧ U.heap = h0) (fun _ _ _ _ _ => True) (fun _ U o U' => ∃ v L, o = .returned v ∧ Q_rm_lam_p0 Z th rr em q1 q2 op eo nw fu q3 q4 h0 n0 v U'.heap L ∧ FrameEnd U o U' L r17.cells r17.slots) := by
  refine MetFree.of_bodySF (plainFor_of_name pn_com_example_log_lag_gauge_loglaggauge_model_PositionLag) hisR ?_
  intro p e s m args below meth c s₁ Bd hml0 hP hK
  obtain ⟨rfl, hZ, hh⟩ := hP
  have hx := Bd.exec
  have hby := Bd.bytes
  have hml : c.maxLocals = 2 := hml0
  have hown : s.vm.findClass cPL = some m.cls := findClass_of_methodNamed Bd.named
  have hnm := (name_of_methodNamed Bd.named Bd.method).1
  have X0 : Stand p l e r17 s m #[(.ref th), (.ref rr)] below meth c s₁ [] 0 0 := Stand.of_body Bd
  have e0 : s₁.heap = h0 := by rw [← hh, Bd.state]; rfl
  have N0 := Fr.nil n0
  refine Goes.out (l := l) (c := c) (R := r17) (Q := Q_rm_lam_p0 Z th rr em q1 q2 op eo nw fu q3 q4 h0 n0) Bd.notSynchronized ?_
  refine Goes.cast (g2 := mkF m 0 #[rv th, rv rr] []) (by first | (simp [entryFrame, mkF, argsToLocals, Value.category]; done) | rfl) ?_
  have K0 : Keep h0 h0 [] := Keep.refl h0 _
  have hws : ∀ x ∈ ([] : List Addr), n0 ≤ x := all0
  refine gs s₁ (mkF m 1 #[rv th, rv rr] [(.ref th)]) (fun _ hr => XS.aloadN X0.here hx rfl (hb hby d26_0) rfl rfl hr) ?_
  refine gs s₁ (mkF m 2 #[rv th, rv rr] [(.ref rr), (.ref th)]) (fun _ hr => XS.aloadN X0.here hx rfl (hb hby d26_1) rfl rfl hr) ?_
  refine gs s₁ (mkF m 3 #[rv th, rv rr] [(.ref rr), (.ref rr), (.ref th)]) (fun _ hr => XS.aloadN X0.here hx rfl (hb hby d26_2) rfl rfl hr) ?_
  have Zs371 : n0 ≤ h0.size := Nat.le_trans Z0 K0.1
  obtain ⟨cq372, kq372, q372a, q372b, q372c⟩ := isOf hZ e0 E_rr
  obtain ⟨_, _, ⟨T372, L372, k372, n372⟩, -, X372, ⟨Lc372, hQ372, l372, y372, z372⟩, st372⟩ := X0.virtualBack hx (y := Y12) (z := Y12) hown (mvT hZ (tw hw 129 rfl)) (mvT hZ (tw hw 130 rfl)) (notFace_of_selects (args := #[]) (mvT hZ (tw hw 132 rfl))) (mvT hZ (tw hw 132 rfl)) (mvT hZ (tw hw 131 rfl)) (by decide) (backOf (W := 2) (rm_newestTimestamp l Z a0 hw [] rr nw h0 n0 Zs371 (Old.keep O0 K0 hws) F_rr_newestTimestamp) hZ (tw hw 133 rfl) (tw hw 96 rfl) (by decide) (by decide)) q372a q372c (g := (mkF m 3 #[rv th, rv rr] [(.ref rr), (.ref rr), (.ref th)])) rfl (by rw [hml]; rfl) (Steps.refl _) (argsL := []) (rest := [(.ref rr), (.ref th)]) (lenOf pd_6 rfl) rfl (wle rfl) (hb hby d26_3) (fun _ _ => ⟨rfl, e0, (by decide : 0 + 0 ≤ _), (by decide : 0 + 0 ≤ _)⟩)
  dsimp only [Pt.U, Pt.locs, Pt.cells, Pt.slots] at X372 l372 y372 z372 st372 hQ372
  subst l372 y372 z372
  obtain ⟨rfl, N372q, e372⟩ := hQ372
  have N372 := Fr.app N0 N372q
  refine gs T372 (mkF m 6 #[rv th, rv rr] [(.ref nw), (.ref rr), (.ref th)]) (fun _ hr => st372.trans hr) ?_
  have Zs373 : n0 ≤ h0.size := Nat.le_trans Z0 K0.1
  obtain ⟨cl374, kl374, q374a, -, -, q374d, -⟩ := id E_th
  obtain ⟨_, _, ⟨T374, L374, k374, n374⟩, -, X374, ⟨Lc374, hQ374, l374, y374, z374⟩, st374⟩ := X372.privateBack hx (y := Y27) hown (mvT hZ (tw hw 134 rfl)) (mvT hZ (tw hw 135 rfl)) (own_selP (mvT hZ (tw hw 12 rfl)) (mvT hZ (tw hw 136 rfl)) (mvT hZ (tw hw 135 rfl)) (by decide)) (Cond.privateMethod_at (args := #[]) (mvT hZ (tw hw 136 rfl))) (mvT hZ (tw hw 137 rfl)) (by decide) (backOf (W := 0) (rm_beh_p0 l Z a0 hw [] th rr em q1 q2 op eo nw fu q3 q4 h0 n0 Zs373 (Old.keep O0 K0 hws) E_th F_th_offset F_th_end F_th_records E_op F_op_value E_rr F_rr_onlyMarkersLeft F_rr_firstUnreadTimestamp E_fu F_fu_isPresent F_fu_value E_nw F_nw_isPresent F_nw_value S_OptionalLong_EMPTY_old E_em_old F_em_isPresent_old F_em_value_old S_Optional_EMPTY_old E_eo_old F_eo_value_old hle hpp hmn) hZ (tw hw 137 rfl) (tw hw 13 rfl) (by decide) (by decide)) (g := (mkF m 6 #[rv th, rv rr] [(.ref nw), (.ref rr), (.ref th)])) rfl (by rw [hml]; rfl) (Steps.refl _) (own_at e372 q374a) (fun q z => by rw [z] at q374d; cases q374d) (argsL := [(.ref rr), (.ref nw)]) (rest := []) (lenOf pd_14 rfl) rfl (wle rfl) (hb hby d26_6) (fun _ _ => ⟨rfl, e372, (by decide : 0 + 5 ≤ _), (by decide : 0 + 10 ≤ _)⟩)
  dsimp only [Pt.U, Pt.locs, Pt.cells, Pt.slots] at X374 l374 y374 z374 st374 hQ374
  subst l374 y374 z374
  obtain ⟨w374, rfl, N374q, Kc374, P374_0, P374_1, P374_2, P374_3⟩ := hQ374
  have N374 := Fr.app N372 N374q
  have K374 : Keep h0 T374.heap [] := K0.trans Kc374 all0
  have sz_w374 : h0.size ≤ w374 := Nat.le_trans K0.1 P374_0
  have E_w374_374c : Exa Z T374.heap w374 cOL := P374_1
  have F_w374_isPresent_374c : Fld Z T374.heap w374 cOL nIP "Z" (.int (1 : Int32)) := P374_2
  have F_w374_value_374c : Fld Z T374.heap w374 cOL "value" "J" (.long (0 : Int64)) := P374_3
  refine gs T374 (mkF m 9 #[rv th, rv rr] [(.ref w374)]) (fun _ hr => st374.trans hr) ?_
  exact Goes.ret (v := some (.ref w374)) X374 (by decide) (by decide) (fun h => by rw [Bd.returns] at h; cases h) (by show Q_rm_lam_p0 Z th rr em q1 q2 op eo nw fu q3 q4 h0 n0 _ T374.heap _; exact ⟨w374, rfl, N374, K374, sz_w374, E_w374_374c, F_w374_isPresent_374c, F_w374_value_374c⟩) (fun fs hr => retOut X374 hx Bd.returns rfl (Or.inr (Or.inr (Or.inr (Or.inr ⟨rfl, rfl, rfl⟩)))) (hb hby d26_9) hr)
def Q_rm_map_p0 (Z : State) (th : Addr) (rr : Addr) (em : Addr) (q1 : Int64) (q2 : Int64) (op : Addr) (eo : Addr) (nw : Addr) (fu : Addr) (q3 : Int64) (q4 : Int64) (fa : Addr) (cK : ClassId) (h0 : Heap) (n0 : Nat) (v : Option Value) (h : Heap) (L : List Loc) : Prop := ∃ w : Addr, ∃ wr : Addr, v = some (.ref w) ∧ Fr n0 L ∧ Keep h0 h [] ∧ h0.size ≤ w ∧ Exa Z h w cOP ∧ Fld Z h w cOP "value" dOB (.ref wr) ∧ h0.size ≤ wr ∧ Exa Z h wr cOL ∧ Fld Z h wr cOL nIP "Z" (.int (1 : Int32)) ∧ Fld Z h wr cOL "value" "J" (.long (0 : Int64))
set_option maxRecDepth 65536 in
set_option maxHeartbeats 40000000 in
theorem rm_map_p0 (l : Launch) (Z : State) (a0 : Array Value) (hw : ∀ d ∈ tables_1, d.before a0 Z = true) (ws : List Jvm.Cond) (th : Addr) (rr : Addr) (em : Addr) (q1 : Int64) (q2 : Int64) (op : Addr) (eo : Addr) (nw : Addr) (fu : Addr) (q3 : Int64) (q4 : Int64) (fa : Addr) (cK : ClassId) (h0 : Heap) (n0 : Nat) (Z0 : n0 ≤ h0.size) (O0 : Old Z n0 h0) (E_th : Exa Z h0 th cPL) (F_th_offset : Fld Z h0 th cPL "offset" "J" (.long q1)) (F_th_end : Fld Z h0 th cPL "end" "J" (.long q2)) (F_th_records : Fld Z h0 th cPL "records" dOP (.ref op)) (E_op : Exa Z h0 op cOP) (F_op_value : Fld Z h0 op cOP "value" dOB (.ref rr)) (E_rr : Exa Z h0 rr cRR) (F_rr_onlyMarkersLeft : Fld Z h0 rr cRR nOM "Z" (.int (0 : Int32))) (F_rr_firstUnreadTimestamp : Fld Z h0 rr cRR nLT dOL (.ref fu)) (E_fu : Exa Z h0 fu cOL) (F_fu_isPresent : Fld Z h0 fu cOL nIP "Z" (.int (1 : Int32))) (F_fu_value : Fld Z h0 fu cOL "value" "J" (.long q3)) (E_nw : Exa Z h0 nw cOL) (F_nw_isPresent : Fld Z h0 nw cOL nIP "Z" (.int (1 : Int32))) (F_nw_value : Fld Z h0 nw cOL "value" "J" (.long q4)) (F_rr_newestTimestamp : Fld Z h0 rr cRR nNT dOL (.ref nw)) (G_fa : FnV h0 fa cK #[(.ref th)]) (S_OptionalLong_EMPTY_old : Sta Z Z.heap cOL "EMPTY" dOL (.ref em)) (E_em_old : Exa Z Z.heap em cOL) (F_em_isPresent_old : Fld Z Z.heap em cOL nIP "Z" (.int (0 : Int32))) (F_em_value_old : Fld Z Z.heap em cOL "value" "J" (.long (0 : Int64))) (S_Optional_EMPTY_old : Sta Z Z.heap cOP "EMPTY" dOP (.ref eo)) (E_eo_old : Exa Z Z.heap eo cOP) (F_eo_value_old : Fld Z Z.heap eo cOP "value" dOB .null) (hle : ¬ ((0 : Int32) < (XT.cmpL q1 q2))) (hpp : (0 : Int32) < (XT.cmpL (q2 - q1) (0 : Int64))) (hmn : ¬ ((XT.cmpL (0 : Int64) (q4 - q3)) < (0 : Int32))) (Md : Jvm.LamKit.Made Z cPL sgA cK) :
    MetFree l Y29 (head1 (Cond.code Y29 jdk_32_method_11_code 2 (some (.object cOP)) :: ws) r18) (fun a U => a = #[(.ref op), (.ref fa)] ∧ Z.Warmed39 U.vm ∧ U.heap = h0) (fun _ _ _ _ _ => True) (fun _ U o U' => ∃ v L, o = .returned v ∧ Q_rm_map_p0 Z th rr em q1 q2 op eo nw fu q3 q4 fa cK h0 n0 v U'.heap L ∧ FrameEnd U o U' L r18.cells r18.slots) := by
  refine MetFree.of_bodySF (plainFor_of_name pn_java_util_Optional) hisR ?_
  intro p e s m args below meth c s₁ Bd hml0 hP hK
  obtain ⟨rfl, hZ, hh⟩ := hP
  have hx := Bd.exec
  have hby := Bd.bytes
  have hml : c.maxLocals = 2 := hml0
  have hown : s.vm.findClass cOP = some m.cls := findClass_of_methodNamed Bd.named
  have hnm := (name_of_methodNamed Bd.named Bd.method).1
  have X0 : Stand p l e r18 s m #[(.ref op), (.ref fa)] below meth c s₁ [] 0 0 := Stand.of_body Bd
  have e0 : s₁.heap = h0 := by rw [← hh, Bd.state]; rfl
  have N0 := Fr.nil n0
  refine Goes.out (l := l) (c := c) (R := r18) (Q := Q_rm_map_p0 Z th rr em q1 q2 op eo nw fu q3 q4 fa cK h0 n0) Bd.notSynchronized ?_
  refine Goes.cast (g2 := mkF m 0 #[rv op, rv fa] []) (by first | (simp [entryFrame, mkF, argsToLocals, Value.category]; done) | rfl) ?_
  have K0 : Keep h0 h0 [] := Keep.refl h0 _
  have hws : ∀ x ∈ ([] : List Addr), n0 ≤ x := all0
  refine gs s₁ (mkF m 1 #[rv op, rv fa] [(.ref fa)]) (fun _ hr => XS.aloadN X0.here hx rfl (hb hby d27_0) rfl rfl hr) ?_
  have Zs375 : n0 ≤ h0.size := Nat.le_trans Z0 K0.1
  obtain ⟨_, _, ⟨T376, L376, k376, n376⟩, -, X376, ⟨Lc376, hQ376, l376, y376, z376⟩, st376⟩ := LawKit.callS X0 hx (y := Y13) hown (mvT hZ (tw hw 57 rfl)) (mvT hZ (tw hw 58 rfl)) (mvT hZ (tw hw 35 rfl)) (mvT hZ (tw hw 59 rfl)) (by decide) (backOf (W := 0) (rm_rnn1 l Z a0 hw [] fa h0 n0 Zs375 (Old.keep O0 K0 hws)) hZ (tw hw 59 rfl) (tw hw 35 rfl) (by decide) (by decide)) (g := (mkF m 1 #[rv op, rv fa] [(.ref fa)])) rfl (by rw [hml]; rfl) (argsL := [(.ref fa)]) (rest := []) (lenOf pd_3 rfl) rfl (wle rfl) (hb hby d27_1) (fun _ _ => ⟨rfl, e0, (by decide : 0 + 0 ≤ _), (by decide : 0 + 0 ≤ _)⟩)
  dsimp only [Pt.U, Pt.locs, Pt.cells, Pt.slots] at X376 l376 y376 z376 st376 hQ376
  subst l376 y376 z376
  obtain ⟨rfl, N376q, e376⟩ := hQ376
  have N376 := Fr.app N0 N376q
  refine gs T376 (mkF m 4 #[rv op, rv fa] [(.ref fa)]) st376 ?_
  refine gs T376 (mkF m 5 #[rv op, rv fa] []) (fun _ hr => XT.pop X376.here hx rfl (hb hby d27_4) rfl rfl hr) ?_
  refine gs T376 (mkF m 6 #[rv op, rv fa] [(.ref op)]) (fun _ hr => XS.aloadN X376.here hx rfl (hb hby d27_5) rfl rfl hr) ?_
  have Zs377 : n0 ≤ h0.size := Nat.le_trans Z0 K0.1
  obtain ⟨cq378, kq378, q378a, q378b, q378c⟩ := isOf hZ e376 E_op
  obtain ⟨_, _, ⟨T378, L378, k378, n378⟩, -, X378, ⟨Lc378, hQ378, l378, y378, z378⟩, st378⟩ := X376.virtualBack hx (y := Y18) (z := Y18) hown (mvT hZ (tw hw 60 rfl)) (mvT hZ (tw hw 61 rfl)) (notFace_of_selects (args := #[]) (mvT hZ (tw hw 63 rfl))) (mvT hZ (tw hw 63 rfl)) (mvT hZ (tw hw 62 rfl)) (by decide) (backOf (W := 0) (rm_oise1 l Z a0 hw [] op rr h0 n0 Zs377 (Old.keep O0 K0 hws) F_op_value) hZ (tw hw 64 rfl) (tw hw 8 rfl) (by decide) (by decide)) q378a q378c (g := (mkF m 6 #[rv op, rv fa] [(.ref op)])) rfl (by rw [hml]; rfl) (Steps.refl _) (argsL := []) (rest := []) (lenOf pd_1 rfl) rfl (wle rfl) (hb hby d27_6) (fun _ _ => ⟨rfl, e376, (by decide : 0 + 0 ≤ _), (by decide : 0 + 0 ≤ _)⟩)
  dsimp only [Pt.U, Pt.locs, Pt.cells, Pt.slots] at X378 l378 y378 z378 st378 hQ378
  subst l378 y378 z378
  obtain ⟨rfl, N378q, e378⟩ := hQ378
  have N378 := Fr.app N376 N378q
  refine gs T378 (mkF m 9 #[rv op, rv fa] [(.int (0 : Int32))]) (fun _ hr => st378.trans hr) ?_
  refine gs T378 (mkF m 16 #[rv op, rv fa] []) (fun _ hr => XS.ifYes X378.here hx rfl (pc0 := 9) (pc' := 16) rfl (hb hby d27_9) rfl ((if0 _ _).trans (teq (by decide : (0 : Int32) = (0 : Int32))).1) (by decide) (by decide) hr) ?_
  refine gs T378 (mkF m 17 #[rv op, rv fa] [(.ref fa)]) (fun _ hr => XS.aloadN X378.here hx rfl (hb hby d27_16) rfl rfl hr) ?_
  refine gs T378 (mkF m 18 #[rv op, rv fa] [(.ref op), (.ref fa)]) (fun _ hr => XS.aloadN X378.here hx rfl (hb hby d27_17) rfl rfl hr) ?_
  obtain ⟨T379, X379, e379, st379⟩ := getF X378 hx hZ hown (host := "") (Or.inl (tw hw 65 rfl)) Via.refl e378 F_op_value (g := (mkF m 18 #[rv op, rv fa] [(.ref op), (.ref fa)])) rfl rfl (hb hby d27_18)
  refine gs T379 (mkF m 21 #[rv op, rv fa] [(.ref rr), (.ref fa)]) st379 ?_
  have Zs380 : n0 ≤ h0.size := Nat.le_trans Z0 K0.1
  obtain ⟨_, T381, Lc381, X381, hQ381, st381⟩ := own_callFace X379 hx hZ (xi := Y28) hown (tw hw 122 rfl) (tw hw 123 rfl) (tw hw 124 rfl) ⟨rfl, rfl, by decide +kernel⟩ (by decide) Md e379 G_fa okA (g := (mkF m 21 #[rv op, rv fa] [(.ref rr), (.ref fa)])) rfl (by rw [hml]; rfl) (argsL := [(.ref rr)]) (rest := []) (lenOf pd_3 rfl) rfl (hb hby d27_21) (R' := r19) (Q := Q_rm_lam_p0 Z th rr em q1 q2 op eo nw fu q3 q4 h0 n0) (by decide) (by show 2 * 0 + 0 + 13 + 3116 ≤ _; decide) (by decide) (by decide) (fun s' U bl mk ck Y' hZ' eU zq1 zq2 zq3 => bodyA hx Y' hZ' hw Md zq1 zq2 zq3 eU G_fa E_rr E_th (rm_lam_p0 l Z a0 hw [] th rr em q1 q2 op eo nw fu q3 q4 h0 n0 Zs380 (Old.keep O0 K0 hws) E_th F_th_offset F_th_end F_th_records E_op F_op_value E_rr F_rr_onlyMarkersLeft F_rr_firstUnreadTimestamp E_fu F_fu_isPresent F_fu_value E_nw F_nw_isPresent F_nw_value F_rr_newestTimestamp S_OptionalLong_EMPTY_old E_em_old F_em_isPresent_old F_em_value_old S_Optional_EMPTY_old E_eo_old F_eo_value_old hle hpp hmn) (fun v h L q => by obtain ⟨_, rfl, -⟩ := q; exact ⟨_, rfl⟩) (by decide) (by decide) (by decide) (by decide))
  obtain ⟨w381, rfl, N381q, Kc381, P381_0, P381_1, P381_2, P381_3⟩ := hQ381
  have N381 := Fr.app N378 N381q
  have K381 : Keep h0 T381.heap [] := K0.trans Kc381 all0
  have sz_w381 : h0.size ≤ w381 := Nat.le_trans K0.1 P381_0
  have E_w381_381c : Exa Z T381.heap w381 cOL := P381_1
  have F_w381_isPresent_381c : Fld Z T381.heap w381 cOL nIP "Z" (.int (1 : Int32)) := P381_2
  have F_w381_value_381c : Fld Z T381.heap w381 cOL "value" "J" (.long (0 : Int64)) := P381_3
  refine gs T381 (mkF m 26 #[rv op, rv fa] [(.ref w381)]) st381 ?_
  have Zs382 : n0 ≤ T381.heap.size := Nat.le_trans Z0 K381.1
  obtain ⟨_, _, ⟨T383, L383, k383, n383⟩, -, X383, ⟨Lc383, hQ383, l383, y383, z383⟩, st383⟩ := LawKit.callS X381 hx (y := Y16) hown (mvT hZ (tw hw 161 rfl)) (mvT hZ (tw hw 162 rfl)) (mvT hZ (tw hw 8 rfl)) (mvT hZ (tw hw 163 rfl)) (by decide) (backOf (W := 0) (rm_oofn l Z a0 hw [] w381 T381.heap n0 Zs382 (Old.keep O0 K381 hws)) hZ (tw hw 163 rfl) (tw hw 8 rfl) (by decide) (by decide)) (g := (mkF m 26 #[rv op, rv fa] [(.ref w381)])) rfl (by rw [hml]; rfl) (argsL := [(.ref w381)]) (rest := []) (lenOf pd_15 rfl) rfl (wle rfl) (hb hby d27_26) (fun _ _ => ⟨rfl, rfl, (by decide : 5 + 1 ≤ _), (by decide : 10 + 1 ≤ _)⟩)
  dsimp only [Pt.U, Pt.locs, Pt.cells, Pt.slots] at X383 l383 y383 z383 st383 hQ383
  subst l383 y383 z383
  obtain ⟨w383, rfl, N383q, Kc383, P383_0, P383_1, P383_2⟩ := hQ383
  have N383 := Fr.app N381 N383q
  have E_w381_383 : Exa Z T383.heap w381 cOL := E_w381_381c.keep Kc383
  have F_w381_isPresent_383 : Fld Z T383.heap w381 cOL nIP "Z" (.int (1 : Int32)) := F_w381_isPresent_381c.keep Kc383 nin0
  have F_w381_value_383 : Fld Z T383.heap w381 cOL "value" "J" (.long (0 : Int64)) := F_w381_value_381c.keep Kc383 nin0
  have K383 : Keep h0 T383.heap [] := K381.trans Kc383 all0
  have sz_w383 : h0.size ≤ w383 := Nat.le_trans K381.1 P383_0
  have E_w383_383c : Exa Z T383.heap w383 cOP := P383_1
  have F_w383_value_383c : Fld Z T383.heap w383 cOP "value" dOB (.ref w381) := P383_2
  refine gs T383 (mkF m 29 #[rv op, rv fa] [(.ref w383)]) st383 ?_
  exact Goes.ret (v := some (.ref w383)) X383 (by decide) (by decide) (fun h => by rw [Bd.returns] at h; cases h) (by show Q_rm_map_p0 Z th rr em q1 q2 op eo nw fu q3 q4 fa cK h0 n0 _ T383.heap _; exact ⟨w383, w381, rfl, N383, K383, sz_w383, E_w383_383c, F_w383_value_383c, sz_w381, E_w381_383, F_w381_isPresent_383, F_w381_value_383⟩) (fun fs hr => retOut X383 hx Bd.returns rfl (Or.inr (Or.inr (Or.inr (Or.inr ⟨rfl, rfl, rfl⟩)))) (hb hby d27_29) hr)
def Q_rm_age_p0 (Z : State) (th : Addr) (rr : Addr) (em : Addr) (q1 : Int64) (q2 : Int64) (op : Addr) (eo : Addr) (nw : Addr) (fu : Addr) (q3 : Int64) (q4 : Int64) (h0 : Heap) (n0 : Nat) (v : Option Value) (h : Heap) (L : List Loc) : Prop := ∃ w : Addr, v = some (.ref w) ∧ Fr n0 L ∧ Keep h0 h [] ∧ h0.size ≤ w ∧ Exa Z h w cOL ∧ Fld Z h w cOL nIP "Z" (.int (1 : Int32)) ∧ Fld Z h w cOL "value" "J" (.long (0 : Int64))
set_option maxRecDepth 65536 in
set_option maxHeartbeats 40000000 in
theorem rm_age_p0 (l : Launch) (Z : State) (a0 : Array Value) (hw : ∀ d ∈ tables_1, d.before a0 Z = true) (ws : List Jvm.Cond) (th : Addr) (rr : Addr) (em : Addr) (q1 : Int64) (q2 : Int64) (op : Addr) (eo : Addr) (nw : Addr) (fu : Addr) (q3 : Int64) (q4 : Int64) (h0 : Heap) (n0 : Nat) (Z0 : n0 ≤ h0.size) (O0 : Old Z n0 h0) (E_th : Exa Z h0 th cPL) (F_th_offset : Fld Z h0 th cPL "offset" "J" (.long q1)) (F_th_end : Fld Z h0 th cPL "end" "J" (.long q2)) (F_th_records : Fld Z h0 th cPL "records" dOP (.ref op)) (E_op : Exa Z h0 op cOP) (F_op_value : Fld Z h0 op cOP "value" dOB (.ref rr)) (E_rr : Exa Z h0 rr cRR) (F_rr_onlyMarkersLeft : Fld Z h0 rr cRR nOM "Z" (.int (0 : Int32))) (F_rr_firstUnreadTimestamp : Fld Z h0 rr cRR nLT dOL (.ref fu)) (E_fu : Exa Z h0 fu cOL) (F_fu_isPresent : Fld Z h0 fu cOL nIP "Z" (.int (1 : Int32))) (F_fu_value : Fld Z h0 fu cOL "value" "J" (.long q3)) (E_nw : Exa Z h0 nw cOL) (F_nw_isPresent : Fld Z h0 nw cOL nIP "Z" (.int (1 : Int32))) (F_nw_value : Fld Z h0 nw cOL "value" "J" (.long q4)) (F_rr_newestTimestamp : Fld Z h0 rr cRR nNT dOL (.ref nw)) (S_OptionalLong_EMPTY_old : Sta Z Z.heap cOL "EMPTY" dOL (.ref em)) (E_em_old : Exa Z Z.heap em cOL) (F_em_isPresent_old : Fld Z Z.heap em cOL nIP "Z" (.int (0 : Int32))) (F_em_value_old : Fld Z Z.heap em cOL "value" "J" (.long (0 : Int64))) (S_Optional_EMPTY_old : Sta Z Z.heap cOP "EMPTY" dOP (.ref eo)) (E_eo_old : Exa Z Z.heap eo cOP) (F_eo_value_old : Fld Z Z.heap eo cOP "value" dOB .null) (hle : ¬ ((0 : Int32) < (XT.cmpL q1 q2))) (hpp : (0 : Int32) < (XT.cmpL (q2 - q1) (0 : Int64))) (hmn : ¬ ((XT.cmpL (0 : Int64) (q4 - q3)) < (0 : Int32))) :
    MetFree l Y30 (head1 (Cond.code Y30 prog_13_method_4_code 1 (some (.object cOL)) :: ws) r20) (fun a U => a = #[(.ref th)] ∧ Z.Warmed39 U.vm ∧ U.heap = h0) (fun _ _ _ _ _ => True) (fun _ U o U' => ∃ v L, o = .returned v ∧ Q_rm_age_p0 Z th rr em q1 q2 op eo nw fu q3 q4 h0 n0 v U'.heap L ∧ FrameEnd U o U' L r20.cells r20.slots) := by
  refine MetFree.of_bodySF (plainFor_of_name pn_com_example_log_lag_gauge_loglaggauge_model_PositionLag) hisR ?_
  intro p e s m args below meth c s₁ Bd hml0 hP hK
  obtain ⟨rfl, hZ, hh⟩ := hP
  have hx := Bd.exec
  have hby := Bd.bytes
  have hml : c.maxLocals = 1 := hml0
  have hown : s.vm.findClass cPL = some m.cls := findClass_of_methodNamed Bd.named
  have hnm := (name_of_methodNamed Bd.named Bd.method).1
  have X0 : Stand p l e r20 s m #[(.ref th)] below meth c s₁ [] 0 0 := Stand.of_body Bd
  have e0 : s₁.heap = h0 := by rw [← hh, Bd.state]; rfl
  have N0 := Fr.nil n0
  refine Goes.out (l := l) (c := c) (R := r20) (Q := Q_rm_age_p0 Z th rr em q1 q2 op eo nw fu q3 q4 h0 n0) Bd.notSynchronized ?_
  refine Goes.cast (g2 := mkF m 0 #[rv th] []) (by first | (simp [entryFrame, mkF, argsToLocals, Value.category]; done) | rfl) ?_
  have K0 : Keep h0 h0 [] := Keep.refl h0 _
  have hws : ∀ x ∈ ([] : List Addr), n0 ≤ x := all0
  refine gs s₁ (mkF m 1 #[rv th] [(.ref th)]) (fun _ hr => XS.aloadN X0.here hx rfl (hb hby d28_0) rfl rfl hr) ?_
  obtain ⟨T384, X384, e384, st384⟩ := getF X0 hx hZ hown (host := "") (Or.inl (tw hw 41 rfl)) Via.refl e0 F_th_records (g := (mkF m 1 #[rv th] [(.ref th)])) rfl rfl (hb hby d28_1)
  refine gs T384 (mkF m 4 #[rv th] [(.ref op)]) st384 ?_
  refine gs T384 (mkF m 5 #[rv th] [(.ref th), (.ref op)]) (fun _ hr => XS.aloadN X384.here hx rfl (hb hby d28_4) rfl rfl hr) ?_
  obtain ⟨T385, h385, c385, X385, e385, E385, A385, Md385, st385⟩ := own_siteMakes X384 hx hZ (x := Y30) (pc := 5) (fi := 15) (σ := sgA) Bd.named (tw hw 48 rfl) (by decide) cpA (tw hw 51 rfl) e384 (g := (mkF m 5 #[rv th] [(.ref th), (.ref op)])) rfl rfl (by rw [hml]; rfl) (hb hby d28_5) (vals := [(.ref th)]) (rest := [(.ref op)]) rfl rfl own_fit1 (by show 2 * 0 + 2 + 3072 ≤ _; decide) (N := 1) rfl (by decide) (by decide)
  obtain ⟨b385, g385⟩ : ∃ z, z = h0.size := ⟨_, rfl⟩
  rw [← g385] at A385 st385
  have E_th_385 : Exa Z h385 th cPL := E_th.ext E385
  have F_th_offset_385 : Fld Z h385 th cPL "offset" "J" (.long q1) := F_th_offset.ext E385
  have F_th_end_385 : Fld Z h385 th cPL "end" "J" (.long q2) := F_th_end.ext E385
  have F_th_records_385 : Fld Z h385 th cPL "records" dOP (.ref op) := F_th_records.ext E385
  have E_op_385 : Exa Z h385 op cOP := E_op.ext E385
  have F_op_value_385 : Fld Z h385 op cOP "value" dOB (.ref rr) := F_op_value.ext E385
  have E_rr_385 : Exa Z h385 rr cRR := E_rr.ext E385
  have F_rr_onlyMarkersLeft_385 : Fld Z h385 rr cRR nOM "Z" (.int (0 : Int32)) := F_rr_onlyMarkersLeft.ext E385
  have F_rr_firstUnreadTimestamp_385 : Fld Z h385 rr cRR nLT dOL (.ref fu) := F_rr_firstUnreadTimestamp.ext E385
  have E_fu_385 : Exa Z h385 fu cOL := E_fu.ext E385
  have F_fu_isPresent_385 : Fld Z h385 fu cOL nIP "Z" (.int (1 : Int32)) := F_fu_isPresent.ext E385
  have F_fu_value_385 : Fld Z h385 fu cOL "value" "J" (.long q3) := F_fu_value.ext E385
  have E_nw_385 : Exa Z h385 nw cOL := E_nw.ext E385
  have F_nw_isPresent_385 : Fld Z h385 nw cOL nIP "Z" (.int (1 : Int32)) := F_nw_isPresent.ext E385
  have F_nw_value_385 : Fld Z h385 nw cOL "value" "J" (.long q4) := F_nw_value.ext E385
  have F_rr_newestTimestamp_385 : Fld Z h385 rr cRR nNT dOL (.ref nw) := F_rr_newestTimestamp.ext E385
  have K385 : Keep h0 h385 [] := K0.ext E385
  refine gs T385 (mkF m 10 #[rv th] [(.ref b385), (.ref op)]) st385 ?_
  have Zs386 : n0 ≤ h385.size := Nat.le_trans Z0 K385.1
  obtain ⟨cq387, kq387, q387a, q387b, q387c⟩ := isOf hZ e385 E_op_385
  obtain ⟨_, _, ⟨T387, L387, k387, n387⟩, -, X387, ⟨Lc387, hQ387, l387, y387, z387⟩, st387⟩ := X385.virtualBack hx (y := Y29) (z := Y29) hown (mvT hZ (tw hw 52 rfl)) (mvT hZ (tw hw 53 rfl)) (notFace_of_selects (args := #[]) (mvT hZ (tw hw 55 rfl))) (mvT hZ (tw hw 55 rfl)) (mvT hZ (tw hw 54 rfl)) (by decide) (backOf (W := 0) (rm_map_p0 l Z a0 hw [] th rr em q1 q2 op eo nw fu q3 q4 b385 c385 h385 n0 Zs386 (Old.keep O0 K385 hws) E_th_385 F_th_offset_385 F_th_end_385 F_th_records_385 E_op_385 F_op_value_385 E_rr_385 F_rr_onlyMarkersLeft_385 F_rr_firstUnreadTimestamp_385 E_fu_385 F_fu_isPresent_385 F_fu_value_385 E_nw_385 F_nw_isPresent_385 F_nw_value_385 F_rr_newestTimestamp_385 A385 S_OptionalLong_EMPTY_old E_em_old F_em_isPresent_old F_em_value_old S_Optional_EMPTY_old E_eo_old F_eo_value_old hle hpp hmn Md385) hZ (tw hw 56 rfl) (tw hw 8 rfl) (by decide) (by decide)) q387a q387c (g := (mkF m 10 #[rv th] [(.ref b385), (.ref op)])) rfl (by rw [hml]; rfl) (Steps.refl _) (argsL := [(.ref b385)]) (rest := []) (lenOf pd_16 rfl) rfl (wle rfl) (hb hby d28_10) (fun _ _ => ⟨rfl, e385, (by decide : 1 + 6 ≤ _), (by decide : 1 + 11 ≤ _)⟩)
  dsimp only [Pt.U, Pt.locs, Pt.cells, Pt.slots] at X387 l387 y387 z387 st387 hQ387
  subst l387 y387 z387
  obtain ⟨w387, wr387, rfl, N387q, Kc387, P387_0, P387_1, P387_2, P387_3, P387_4, P387_5, P387_6⟩ := hQ387
  have N387 := Fr.app N0 N387q
  have K387 : Keep h0 T387.heap [] := K385.trans Kc387 all0
  have E_w387_387c : Exa Z T387.heap w387 cOP := P387_1
  have F_w387_value_387c : Fld Z T387.heap w387 cOP "value" dOB (.ref wr387) := P387_2
  have sz_wr387 : h0.size ≤ wr387 := Nat.le_trans K385.1 P387_3
  have E_wr387_387c : Exa Z T387.heap wr387 cOL := P387_4
  have F_wr387_isPresent_387c : Fld Z T387.heap wr387 cOL nIP "Z" (.int (1 : Int32)) := P387_5
  have F_wr387_value_387c : Fld Z T387.heap wr387 cOL "value" "J" (.long (0 : Int64)) := P387_6
  refine gs T387 (mkF m 13 #[rv th] [(.ref w387)]) (fun _ hr => st387.trans hr) ?_
  have Zs388 : n0 ≤ T387.heap.size := Nat.le_trans Z0 K387.1
  obtain ⟨_, _, ⟨T389, L389, k389, n389⟩, -, X389, ⟨Lc389, hQ389, l389, y389, z389⟩, st389⟩ := LawKit.callS X387 hx (y := Y4) hown (mvT hZ (tw hw 68 rfl)) (mvT hZ (tw hw 2 rfl)) (mvT hZ (tw hw 3 rfl)) (mvT hZ (tw hw 4 rfl)) (by decide) (backOf (W := 1) (rm_olem l Z a0 hw [] em T387.heap n0 Zs388 (Old.keep O0 K387 hws) S_OptionalLong_EMPTY_old) hZ (tw hw 4 rfl) (tw hw 3 rfl) (by decide) (by decide)) (g := (mkF m 13 #[rv th] [(.ref w387)])) rfl (by rw [hml]; rfl) (argsL := []) (rest := [(.ref w387)]) (lenOf pd_6 rfl) rfl (wle rfl) (hb hby d28_13) (fun _ _ => ⟨rfl, rfl, (by decide : 7 + 0 ≤ _), (by decide : 12 + 0 ≤ _)⟩)
  dsimp only [Pt.U, Pt.locs, Pt.cells, Pt.slots] at X389 l389 y389 z389 st389 hQ389
  subst l389 y389 z389
  obtain ⟨rfl, N389q, e389⟩ := hQ389
  have N389 := Fr.app N387 N389q
  refine gs T389 (mkF m 16 #[rv th] [(.ref em), (.ref w387)]) st389 ?_
  have Zs390 : n0 ≤ T387.heap.size := Nat.le_trans Z0 K387.1
  obtain ⟨cq391, kq391, q391a, q391b, q391c⟩ := isOf hZ e389 E_w387_387c
  obtain ⟨_, _, ⟨T391, L391, k391, n391⟩, -, X391, ⟨Lc391, hQ391, l391, y391, z391⟩, st391⟩ := X389.virtualBack hx (y := Y20) (z := Y20) hown (mvT hZ (tw hw 69 rfl)) (mvT hZ (tw hw 70 rfl)) (notFace_of_selects (args := #[]) (mvT hZ (tw hw 72 rfl))) (mvT hZ (tw hw 72 rfl)) (mvT hZ (tw hw 71 rfl)) (by decide) (backOf (W := 0) (rm_oore1 l Z a0 hw [] w387 wr387 em T387.heap n0 Zs390 (Old.keep O0 K387 hws) F_w387_value_387c) hZ (tw hw 73 rfl) (tw hw 8 rfl) (by decide) (by decide)) q391a q391c (g := (mkF m 16 #[rv th] [(.ref em), (.ref w387)])) rfl (by rw [hml]; rfl) (Steps.refl _) (argsL := [(.ref em)]) (rest := []) (lenOf pd_3 rfl) rfl (wle rfl) (hb hby d28_16) (fun _ _ => ⟨rfl, e389, (by decide : 7 + 0 ≤ _), (by decide : 12 + 0 ≤ _)⟩)
  dsimp only [Pt.U, Pt.locs, Pt.cells, Pt.slots] at X391 l391 y391 z391 st391 hQ391
  subst l391 y391 z391
  obtain ⟨rfl, N391q, e391⟩ := hQ391
  have N391 := Fr.app N389 N391q
  refine gs T391 (mkF m 19 #[rv th] [(.ref wr387)]) (fun _ hr => st391.trans hr) ?_
  obtain ⟨T392, X392, e392, st392⟩ := castY X391 hx hZ hown (tw hw 74 rfl) e391 (Ins.self E_wr387_387c) (g := (mkF m 19 #[rv th] [(.ref wr387)])) rfl rfl (hb hby d28_19)
  refine gs T392 (mkF m 22 #[rv th] [(.ref wr387)]) st392 ?_
  exact Goes.ret (v := some (.ref wr387)) X392 (by decide) (by decide) (fun h => by rw [Bd.returns] at h; cases h) (by show Q_rm_age_p0 Z th rr em q1 q2 op eo nw fu q3 q4 h0 n0 _ T392.heap _; rw [e392]; exact ⟨wr387, rfl, N391, K387, sz_wr387, E_wr387_387c, F_wr387_isPresent_387c, F_wr387_value_387c⟩) (fun fs hr => retOut X392 hx Bd.returns rfl (Or.inr (Or.inr (Or.inr (Or.inr ⟨rfl, rfl, rfl⟩)))) (hb hby d28_22) hr)
theorem d27_12 : decode jdk_32_method_11_code 12 = .ok (.invokestatic 53, 3) := by decide +kernel
theorem d27_15 : decode jdk_32_method_11_code 15 = .ok (.areturn, 1) := by decide +kernel
def Q_rm_map_none (Z : State) (op : Addr) (fa : Addr) (eo : Addr) (h0 : Heap) (n0 : Nat) (v : Option Value) (h : Heap) (L : List Loc) : Prop := v = some (.ref eo) ∧ Fr n0 L ∧ h = h0
set_option maxRecDepth 65536 in
set_option maxHeartbeats 40000000 in
theorem rm_map_none (l : Launch) (Z : State) (a0 : Array Value) (hw : ∀ d ∈ tables_1, d.before a0 Z = true) (ws : List Jvm.Cond) (op : Addr) (fa : Addr) (eo : Addr) (h0 : Heap) (n0 : Nat) (Z0 : n0 ≤ h0.size) (O0 : Old Z n0 h0) (E_op : Exa Z h0 op cOP) (F_op_value : Fld Z h0 op cOP "value" dOB .null) (S_Optional_EMPTY_old : Sta Z Z.heap cOP "EMPTY" dOP (.ref eo)) :
    MetFree l Y29 (head1 (Cond.code Y29 jdk_32_method_11_code 2 (some (.object cOP)) :: ws) r0) (fun a U => a = #[(.ref op), (.ref fa)] ∧ Z.Warmed39 U.vm ∧ U.heap = h0) (fun _ _ _ _ _ => True) (fun _ U o U' => ∃ v L, o = .returned v ∧ Q_rm_map_none Z op fa eo h0 n0 v U'.heap L ∧ FrameEnd U o U' L r0.cells r0.slots) := by
  refine MetFree.of_bodySF (plainFor_of_name pn_java_util_Optional) hisR ?_
  intro p e s m args below meth c s₁ Bd hml0 hP hK
  obtain ⟨rfl, hZ, hh⟩ := hP
  have hx := Bd.exec
  have hby := Bd.bytes
  have hml : c.maxLocals = 2 := hml0
  have hown : s.vm.findClass cOP = some m.cls := findClass_of_methodNamed Bd.named
  have hnm := (name_of_methodNamed Bd.named Bd.method).1
  have X0 : Stand p l e r0 s m #[(.ref op), (.ref fa)] below meth c s₁ [] 0 0 := Stand.of_body Bd
  have e0 : s₁.heap = h0 := by rw [← hh, Bd.state]; rfl
  have N0 := Fr.nil n0
  refine Goes.out (l := l) (c := c) (R := r0) (Q := Q_rm_map_none Z op fa eo h0 n0) Bd.notSynchronized ?_
  refine Goes.cast (g2 := mkF m 0 #[rv op, rv fa] []) (by first | (simp [entryFrame, mkF, argsToLocals, Value.category]; done) | rfl) ?_
  have K0 : Keep h0 h0 [] := Keep.refl h0 _
  have hws : ∀ x ∈ ([] : List Addr), n0 ≤ x := all0
  refine gs s₁ (mkF m 1 #[rv op, rv fa] [(.ref fa)]) (fun _ hr => XS.aloadN X0.here hx rfl (hb hby d27_0) rfl rfl hr) ?_
  have Zs393 : n0 ≤ h0.size := Nat.le_trans Z0 K0.1
  obtain ⟨_, _, ⟨T394, L394, k394, n394⟩, -, X394, ⟨Lc394, hQ394, l394, y394, z394⟩, st394⟩ := LawKit.callS X0 hx (y := Y13) hown (mvT hZ (tw hw 57 rfl)) (mvT hZ (tw hw 58 rfl)) (mvT hZ (tw hw 35 rfl)) (mvT hZ (tw hw 59 rfl)) (by decide) (backOf (W := 0) (rm_rnn1 l Z a0 hw [] fa h0 n0 Zs393 (Old.keep O0 K0 hws)) hZ (tw hw 59 rfl) (tw hw 35 rfl) (by decide) (by decide)) (g := (mkF m 1 #[rv op, rv fa] [(.ref fa)])) rfl (by rw [hml]; rfl) (argsL := [(.ref fa)]) (rest := []) (lenOf pd_3 rfl) rfl (wle rfl) (hb hby d27_1) (fun _ _ => ⟨rfl, e0, (by decide : 0 + 0 ≤ _), (by decide : 0 + 0 ≤ _)⟩)
  dsimp only [Pt.U, Pt.locs, Pt.cells, Pt.slots] at X394 l394 y394 z394 st394 hQ394
  subst l394 y394 z394
  obtain ⟨rfl, N394q, e394⟩ := hQ394
  have N394 := Fr.app N0 N394q
  refine gs T394 (mkF m 4 #[rv op, rv fa] [(.ref fa)]) st394 ?_
  refine gs T394 (mkF m 5 #[rv op, rv fa] []) (fun _ hr => XT.pop X394.here hx rfl (hb hby d27_4) rfl rfl hr) ?_
  refine gs T394 (mkF m 6 #[rv op, rv fa] [(.ref op)]) (fun _ hr => XS.aloadN X394.here hx rfl (hb hby d27_5) rfl rfl hr) ?_
  have Zs395 : n0 ≤ h0.size := Nat.le_trans Z0 K0.1
  obtain ⟨cq396, kq396, q396a, q396b, q396c⟩ := isOf hZ e394 E_op
  obtain ⟨_, _, ⟨T396, L396, k396, n396⟩, -, X396, ⟨Lc396, hQ396, l396, y396, z396⟩, st396⟩ := X394.virtualBack hx (y := Y18) (z := Y18) hown (mvT hZ (tw hw 60 rfl)) (mvT hZ (tw hw 61 rfl)) (notFace_of_selects (args := #[]) (mvT hZ (tw hw 63 rfl))) (mvT hZ (tw hw 63 rfl)) (mvT hZ (tw hw 62 rfl)) (by decide) (backOf (W := 0) (rm_oise0 l Z a0 hw [] op h0 n0 Zs395 (Old.keep O0 K0 hws) F_op_value) hZ (tw hw 64 rfl) (tw hw 8 rfl) (by decide) (by decide)) q396a q396c (g := (mkF m 6 #[rv op, rv fa] [(.ref op)])) rfl (by rw [hml]; rfl) (Steps.refl _) (argsL := []) (rest := []) (lenOf pd_1 rfl) rfl (wle rfl) (hb hby d27_6) (fun _ _ => ⟨rfl, e394, (by decide : 0 + 0 ≤ _), (by decide : 0 + 0 ≤ _)⟩)
  dsimp only [Pt.U, Pt.locs, Pt.cells, Pt.slots] at X396 l396 y396 z396 st396 hQ396
  subst l396 y396 z396
  obtain ⟨rfl, N396q, e396⟩ := hQ396
  have N396 := Fr.app N394 N396q
  refine gs T396 (mkF m 9 #[rv op, rv fa] [(.int (1 : Int32))]) (fun _ hr => st396.trans hr) ?_
  refine gs T396 (mkF m 12 #[rv op, rv fa] []) (fun _ hr => XS.ifNo X396.here hx rfl (hb hby d27_9) rfl ((if0 _ _).trans (feq (by decide : ¬ ((1 : Int32) = (0 : Int32)))).1) hr) ?_
  have Zs397 : n0 ≤ h0.size := Nat.le_trans Z0 K0.1
  obtain ⟨_, _, ⟨T398, L398, k398, n398⟩, -, X398, ⟨Lc398, hQ398, l398, y398, z398⟩, st398⟩ := LawKit.callS X396 hx (y := Y17) hown (mvT hZ (tw hw 67 rfl)) (mvT hZ (tw hw 7 rfl)) (mvT hZ (tw hw 8 rfl)) (mvT hZ (tw hw 9 rfl)) (by decide) (backOf (W := 0) (rm_oem l Z a0 hw [] eo h0 n0 Zs397 (Old.keep O0 K0 hws) S_Optional_EMPTY_old) hZ (tw hw 9 rfl) (tw hw 8 rfl) (by decide) (by decide)) (g := (mkF m 12 #[rv op, rv fa] [])) rfl (by rw [hml]; rfl) (argsL := []) (rest := []) (lenOf pd_10 rfl) rfl (wle rfl) (hb hby d27_12) (fun _ _ => ⟨rfl, e396, (by decide : 0 + 0 ≤ _), (by decide : 0 + 0 ≤ _)⟩)
  dsimp only [Pt.U, Pt.locs, Pt.cells, Pt.slots] at X398 l398 y398 z398 st398 hQ398
  subst l398 y398 z398
  obtain ⟨rfl, N398q, e398⟩ := hQ398
  have N398 := Fr.app N396 N398q
  refine gs T398 (mkF m 15 #[rv op, rv fa] [(.ref eo)]) st398 ?_
  exact Goes.ret (v := some (.ref eo)) X398 (by decide) (by decide) (fun h => by rw [Bd.returns] at h; cases h) ⟨rfl, N398, e398⟩ (fun fs hr => retOut X398 hx Bd.returns rfl (Or.inr (Or.inr (Or.inr (Or.inr ⟨rfl, rfl, rfl⟩)))) (hb hby d27_15) hr)
def Q_rm_age_none (Z : State) (th : Addr) (eo : Addr) (em : Addr) (h0 : Heap) (n0 : Nat) (v : Option Value) (h : Heap) (L : List Loc) : Prop := v = some (.ref em) ∧ Fr n0 L ∧ Keep h0 h []
set_option maxRecDepth 65536 in
set_option maxHeartbeats 40000000 in
theorem rm_age_none (l : Launch) (Z : State) (a0 : Array Value) (hw : ∀ d ∈ tables_1, d.before a0 Z = true) (ws : List Jvm.Cond) (th : Addr) (eo : Addr) (em : Addr) (h0 : Heap) (n0 : Nat) (Z0 : n0 ≤ h0.size) (O0 : Old Z n0 h0) (E_th : Exa Z h0 th cPL) (F_th_records : Fld Z h0 th cPL "records" dOP (.ref eo)) (S_OptionalLong_EMPTY_old : Sta Z Z.heap cOL "EMPTY" dOL (.ref em)) (E_em_old : Exa Z Z.heap em cOL) (F_em_isPresent_old : Fld Z Z.heap em cOL nIP "Z" (.int (0 : Int32))) (F_em_value_old : Fld Z Z.heap em cOL "value" "J" (.long (0 : Int64))) (S_Optional_EMPTY_old : Sta Z Z.heap cOP "EMPTY" dOP (.ref eo)) (E_eo_old : Exa Z Z.heap eo cOP) (F_eo_value_old : Fld Z Z.heap eo cOP "value" dOB .null) :
    MetFree l Y30 (head1 (Cond.code Y30 prog_13_method_4_code 1 (some (.object cOL)) :: ws) r25) (fun a U => a = #[(.ref th)] ∧ Z.Warmed39 U.vm ∧ U.heap = h0) (fun _ _ _ _ _ => True) (fun _ U o U' => ∃ v L, o = .returned v ∧ Q_rm_age_none Z th eo em h0 n0 v U'.heap L ∧ FrameEnd U o U' L r25.cells r25.slots) := by
  refine MetFree.of_bodySF (plainFor_of_name pn_com_example_log_lag_gauge_loglaggauge_model_PositionLag) hisR ?_
  intro p e s m args below meth c s₁ Bd hml0 hP hK
  obtain ⟨rfl, hZ, hh⟩ := hP
  have hx := Bd.exec
  have hby := Bd.bytes
  have hml : c.maxLocals = 1 := hml0
  have hown : s.vm.findClass cPL = some m.cls := findClass_of_methodNamed Bd.named
  have hnm := (name_of_methodNamed Bd.named Bd.method).1
  have X0 : Stand p l e r25 s m #[(.ref th)] below meth c s₁ [] 0 0 := Stand.of_body Bd
  have e0 : s₁.heap = h0 := by rw [← hh, Bd.state]; rfl
  have N0 := Fr.nil n0
  refine Goes.out (l := l) (c := c) (R := r25) (Q := Q_rm_age_none Z th eo em h0 n0) Bd.notSynchronized ?_
  refine Goes.cast (g2 := mkF m 0 #[rv th] []) (by first | (simp [entryFrame, mkF, argsToLocals, Value.category]; done) | rfl) ?_
  have K0 : Keep h0 h0 [] := Keep.refl h0 _
  have hws : ∀ x ∈ ([] : List Addr), n0 ≤ x := all0
  refine gs s₁ (mkF m 1 #[rv th] [(.ref th)]) (fun _ hr => XS.aloadN X0.here hx rfl (hb hby d28_0) rfl rfl hr) ?_
  obtain ⟨T399, X399, e399, st399⟩ := getF X0 hx hZ hown (host := "") (Or.inl (tw hw 41 rfl)) Via.refl e0 F_th_records (g := (mkF m 1 #[rv th] [(.ref th)])) rfl rfl (hb hby d28_1)
  refine gs T399 (mkF m 4 #[rv th] [(.ref eo)]) st399 ?_
  refine gs T399 (mkF m 5 #[rv th] [(.ref th), (.ref eo)]) (fun _ hr => XS.aloadN X399.here hx rfl (hb hby d28_4) rfl rfl hr) ?_
  obtain ⟨T400, h400, c400, X400, e400, E400, A400, Md400, st400⟩ := own_siteMakes X399 hx hZ (x := Y30) (pc := 5) (fi := 15) (σ := sgA) Bd.named (tw hw 48 rfl) (by decide) cpA (tw hw 51 rfl) e399 (g := (mkF m 5 #[rv th] [(.ref th), (.ref eo)])) rfl rfl (by rw [hml]; rfl) (hb hby d28_5) (vals := [(.ref th)]) (rest := [(.ref eo)]) rfl rfl own_fit1 (by show 2 * 0 + 2 + 3072 ≤ _; decide) (N := 1) rfl (by decide) (by decide)
  obtain ⟨b400, g400⟩ : ∃ z, z = h0.size := ⟨_, rfl⟩
  rw [← g400] at A400 st400
  have K400 : Keep h0 h400 [] := K0.ext E400
  refine gs T400 (mkF m 10 #[rv th] [(.ref b400), (.ref eo)]) st400 ?_
  have Zs401 : n0 ≤ h400.size := Nat.le_trans Z0 K400.1
  obtain ⟨cq402, kq402, q402a, q402b, q402c⟩ := isOf hZ e400 (E_eo_old.ext (Old.keep O0 K400 hws).2)
  obtain ⟨_, _, ⟨T402, L402, k402, n402⟩, -, X402, ⟨Lc402, hQ402, l402, y402, z402⟩, st402⟩ := X400.virtualBack hx (y := Y29) (z := Y29) hown (mvT hZ (tw hw 52 rfl)) (mvT hZ (tw hw 53 rfl)) (notFace_of_selects (args := #[]) (mvT hZ (tw hw 55 rfl))) (mvT hZ (tw hw 55 rfl)) (mvT hZ (tw hw 54 rfl)) (by decide) (backOf (W := 0) (rm_map_none l Z a0 hw [] eo b400 eo h400 n0 Zs401 (Old.keep O0 K400 hws) (E_eo_old.ext (Old.keep O0 K400 hws).2) (F_eo_value_old.ext (Old.keep O0 K400 hws).2) S_Optional_EMPTY_old) hZ (tw hw 56 rfl) (tw hw 8 rfl) (by decide) (by decide)) q402a q402c (g := (mkF m 10 #[rv th] [(.ref b400), (.ref eo)])) rfl (by rw [hml]; rfl) (Steps.refl _) (argsL := [(.ref b400)]) (rest := []) (lenOf pd_16 rfl) rfl (wle rfl) (hb hby d28_10) (fun _ _ => ⟨rfl, e400, (by decide : 1 + 0 ≤ _), (by decide : 1 + 0 ≤ _)⟩)
  dsimp only [Pt.U, Pt.locs, Pt.cells, Pt.slots] at X402 l402 y402 z402 st402 hQ402
  subst l402 y402 z402
  obtain ⟨rfl, N402q, e402⟩ := hQ402
  have N402 := Fr.app N0 N402q
  refine gs T402 (mkF m 13 #[rv th] [(.ref eo)]) (fun _ hr => st402.trans hr) ?_
  have Zs403 : n0 ≤ h400.size := Nat.le_trans Z0 K400.1
  obtain ⟨_, _, ⟨T404, L404, k404, n404⟩, -, X404, ⟨Lc404, hQ404, l404, y404, z404⟩, st404⟩ := LawKit.callS X402 hx (y := Y4) hown (mvT hZ (tw hw 68 rfl)) (mvT hZ (tw hw 2 rfl)) (mvT hZ (tw hw 3 rfl)) (mvT hZ (tw hw 4 rfl)) (by decide) (backOf (W := 1) (rm_olem l Z a0 hw [] em h400 n0 Zs403 (Old.keep O0 K400 hws) S_OptionalLong_EMPTY_old) hZ (tw hw 4 rfl) (tw hw 3 rfl) (by decide) (by decide)) (g := (mkF m 13 #[rv th] [(.ref eo)])) rfl (by rw [hml]; rfl) (argsL := []) (rest := [(.ref eo)]) (lenOf pd_6 rfl) rfl (wle rfl) (hb hby d28_13) (fun _ _ => ⟨rfl, e402, (by decide : 1 + 0 ≤ _), (by decide : 1 + 0 ≤ _)⟩)
  dsimp only [Pt.U, Pt.locs, Pt.cells, Pt.slots] at X404 l404 y404 z404 st404 hQ404
  subst l404 y404 z404
  obtain ⟨rfl, N404q, e404⟩ := hQ404
  have N404 := Fr.app N402 N404q
  refine gs T404 (mkF m 16 #[rv th] [(.ref em), (.ref eo)]) st404 ?_
  have Zs405 : n0 ≤ h400.size := Nat.le_trans Z0 K400.1
  obtain ⟨cq406, kq406, q406a, q406b, q406c⟩ := isOf hZ e404 (E_eo_old.ext (Old.keep O0 K400 hws).2)
  obtain ⟨_, _, ⟨T406, L406, k406, n406⟩, -, X406, ⟨Lc406, hQ406, l406, y406, z406⟩, st406⟩ := X404.virtualBack hx (y := Y20) (z := Y20) hown (mvT hZ (tw hw 69 rfl)) (mvT hZ (tw hw 70 rfl)) (notFace_of_selects (args := #[]) (mvT hZ (tw hw 72 rfl))) (mvT hZ (tw hw 72 rfl)) (mvT hZ (tw hw 71 rfl)) (by decide) (backOf (W := 0) (rm_oore0 l Z a0 hw [] eo em h400 n0 Zs405 (Old.keep O0 K400 hws) (F_eo_value_old.ext (Old.keep O0 K400 hws).2)) hZ (tw hw 73 rfl) (tw hw 8 rfl) (by decide) (by decide)) q406a q406c (g := (mkF m 16 #[rv th] [(.ref em), (.ref eo)])) rfl (by rw [hml]; rfl) (Steps.refl _) (argsL := [(.ref em)]) (rest := []) (lenOf pd_3 rfl) rfl (wle rfl) (hb hby d28_16) (fun _ _ => ⟨rfl, e404, (by decide : 1 + 0 ≤ _), (by decide : 1 + 0 ≤ _)⟩)
  dsimp only [Pt.U, Pt.locs, Pt.cells, Pt.slots] at X406 l406 y406 z406 st406 hQ406
  subst l406 y406 z406
  obtain ⟨rfl, N406q, e406⟩ := hQ406
  have N406 := Fr.app N404 N406q
  refine gs T406 (mkF m 19 #[rv th] [(.ref em)]) (fun _ hr => st406.trans hr) ?_
  obtain ⟨T407, X407, e407, st407⟩ := castY X406 hx hZ hown (tw hw 74 rfl) e406 (Ins.self (E_em_old.ext (Old.keep O0 K400 hws).2)) (g := (mkF m 19 #[rv th] [(.ref em)])) rfl rfl (hb hby d28_19)
  refine gs T407 (mkF m 22 #[rv th] [(.ref em)]) st407 ?_
  exact Goes.ret (v := some (.ref em)) X407 (by decide) (by decide) (fun h => by rw [Bd.returns] at h; cases h) (by show Q_rm_age_none Z th eo em h0 n0 _ T407.heap _; rw [e407]; exact ⟨rfl, N406, K400⟩) (fun fs hr => retOut X407 hx Bd.returns rfl (Or.inr (Or.inr (Or.inr (Or.inr ⟨rfl, rfl, rfl⟩)))) (hb hby d28_22) hr)
theorem d29_0 : decode prog_13_method_1_code 0 = .ok (.aload_n 0, 1) := by decide +kernel
theorem d29_1 : decode prog_13_method_1_code 1 = .ok (.invokespecial 1, 3) := by decide +kernel
theorem d29_4 : decode prog_13_method_1_code 4 = .ok (.aload 5, 2) := by decide +kernel
theorem d29_6 : decode prog_13_method_1_code 6 = .ok (.ldc 7, 2) := by decide +kernel
theorem d29_8 : decode prog_13_method_1_code 8 = .ok (.invokestatic 9, 3) := by decide +kernel
theorem d29_11 : decode prog_13_method_1_code 11 = .ok (.pop, 1) := by decide +kernel
theorem d29_12 : decode prog_13_method_1_code 12 = .ok (.aload_n 0, 1) := by decide +kernel
theorem d29_13 : decode prog_13_method_1_code 13 = .ok (.lload_n 1, 1) := by decide +kernel
theorem d29_14 : decode prog_13_method_1_code 14 = .ok (.putfield 15, 3) := by decide +kernel
theorem d29_17 : decode prog_13_method_1_code 17 = .ok (.aload_n 0, 1) := by decide +kernel
theorem d29_18 : decode prog_13_method_1_code 18 = .ok (.lload_n 3, 1) := by decide +kernel
theorem d29_19 : decode prog_13_method_1_code 19 = .ok (.putfield 21, 3) := by decide +kernel
theorem d29_22 : decode prog_13_method_1_code 22 = .ok (.aload_n 0, 1) := by decide +kernel
theorem d29_23 : decode prog_13_method_1_code 23 = .ok (.aload 5, 2) := by decide +kernel
theorem d29_25 : decode prog_13_method_1_code 25 = .ok (.putfield 24, 3) := by decide +kernel
theorem d29_28 : decode prog_13_method_1_code 28 = .ok (.return_, 1) := by decide +kernel
def Q_rm_pinit (Z : State) (a1 : Addr) (q1 : Int64) (q2 : Int64) (op : Addr) (h0 : Heap) (n0 : Nat) (v : Option Value) (h : Heap) (L : List Loc) : Prop := v = none ∧ Fr n0 L ∧ Keep h0 h [a1] ∧ Fld Z h a1 cPL "offset" "J" (.long q1) ∧ Fld Z h a1 cPL "end" "J" (.long q2) ∧ Fld Z h a1 cPL "records" dOP (.ref op)
set_option maxRecDepth 65536 in
set_option maxHeartbeats 40000000 in
theorem rm_pinit (l : Launch) (Z : State) (a0 : Array Value) (hw : ∀ d ∈ tables_1, d.before a0 Z = true) (ws : List Jvm.Cond) (a1 : Addr) (q1 : Int64) (q2 : Int64) (op : Addr) (h0 : Heap) (n0 : Nat) (Z0 : n0 ≤ h0.size) (O0 : Old Z n0 h0) (E_a1 : Exa Z h0 a1 cPL) (F_a1_offset : Fld Z h0 a1 cPL "offset" "J" (.long (0 : Int64))) (F_a1_end : Fld Z h0 a1 cPL "end" "J" (.long (0 : Int64))) (F_a1_records : Fld Z h0 a1 cPL "records" dOP .null) (ge_a1 : n0 ≤ a1) :
    MetFree l Y31 (head1 (Cond.code Y31 prog_13_method_1_code 6 none :: ws) r26) (fun a U => a = #[(.ref a1), (.long q1), (.long q2), (.ref op)] ∧ Z.Warmed39 U.vm ∧ U.heap = h0) (fun _ _ _ _ _ => True) (fun _ U o U' => ∃ v L, o = .returned v ∧ Q_rm_pinit Z a1 q1 q2 op h0 n0 v U'.heap L ∧ ReturnedEndW U o U' L r26.cells r26.slots) := by
  refine MetFree.of_bodySF (plainFor_of_name pn_com_example_log_lag_gauge_loglaggauge_model_PositionLag) hisR ?_
  intro p e s m args below meth c s₁ Bd hml0 hP hK
  obtain ⟨rfl, hZ, hh⟩ := hP
  have hx := Bd.exec
  have hby := Bd.bytes
  have hml : c.maxLocals = 6 := hml0
  have hown : s.vm.findClass cPL = some m.cls := findClass_of_methodNamed Bd.named
  have hnm := (name_of_methodNamed Bd.named Bd.method).1
  have X0 : Stand p l e r26 (s.setVm s.vm) m #[(.ref a1), (.long q1), (.long q2), (.ref op)] below meth c s₁ [] 0 0 := Stand.of_body Bd
  have e0 : s₁.heap = h0 := by rw [← hh, Bd.state]; rfl
  have N0 := Fr.nil n0
  refine GoesW.out (l := l) (c := c) (R := r26) (Q := Q_rm_pinit Z a1 q1 q2 op h0 n0) Bd.notSynchronized ?_
  refine GoesW.cast (g2 := mkF m 0 #[rv a1, .val (.long q1), .second, .val (.long q2), .second, rv op] []) (by first | (simp [entryFrame, mkF, argsToLocals, Value.category]; done) | rfl) ?_
  have K0 : Keep h0 h0 [a1] := Keep.refl h0 _
  have hws : ∀ x ∈ [a1], n0 ≤ x := (allS ge_a1 all0)
  have Sn0 : s.Since s.vm 0 := (State.WarmedH.refl s).since 0
  have kle0 : 0 ≤ h0.size := Nat.zero_le _
  have wSA := own_wsa hw
  refine gsW s₁ (mkF m 1 #[rv a1, .val (.long q1), .second, .val (.long q2), .second, rv op] [(.ref a1)]) (fun _ hr => XS.aloadN X0.here hx rfl (hb hby d29_0) rfl rfl hr) ?_
  have Zs408 : n0 ≤ h0.size := Nat.le_trans Z0 K0.1
  obtain ⟨_, _, ⟨T409, L409, k409, n409⟩, -, X409, ⟨Lc409, hQ409, l409, y409, z409⟩, st409⟩ := X0.specialBack hx (y := Y10) rfl hown (mvT hZ (tw hw 17 rfl)) (mvT hZ (tw hw 18 rfl)) (mvT hZ (tw hw 21 rfl)) (by decide) (backOf (W := 0) (rm_rec l Z a0 hw [] a1 h0 n0 Zs408 (Old.keep O0 K0 hws)) hZ (tw hw 21 rfl) (tw hw 20 rfl) (by decide) (by decide)) (g := (mkF m 1 #[rv a1, .val (.long q1), .second, .val (.long q2), .second, rv op] [(.ref a1)])) rfl (by rw [hml]; rfl) (Steps.refl _) (a := a1) (argsL := []) (rest := []) (lenOf pd_17 rfl) rfl (wle rfl) (hb hby d29_1) (fun _ _ => ⟨rfl, e0, (by decide : 0 + 0 ≤ _), (by decide : 0 + 0 ≤ _)⟩)
  dsimp only [Pt.U, Pt.locs, Pt.cells, Pt.slots] at X409 l409 y409 z409 st409 hQ409
  subst l409 y409 z409
  obtain ⟨rfl, N409q, e409⟩ := hQ409
  have N409 := Fr.app N0 N409q
  refine gsW T409 (mkF m 4 #[rv a1, .val (.long q1), .second, .val (.long q2), .second, rv op] []) (fun _ hr => st409.trans hr) ?_
  refine gsW T409 (mkF m 6 #[rv a1, .val (.long q1), .second, .val (.long q2), .second, rv op] [(.ref op)]) (fun _ hr => XS.aload X409.here hx rfl (hb hby d29_4) rfl rfl hr) ?_
  obtain ⟨a410, T410, h410, j410, X410, e410, E410, Sn410, kle410q, hZ410, hown410, st410⟩ := ldcS X409 hx hZ hown (tw hw 25 rfl) wSA e409 Sn0 kle0 (g := (mkF m 6 #[rv a1, .val (.long q1), .second, .val (.long q2), .second, rv op] [(.ref op)])) rfl (hb hby d29_6) (n := 28) (by decide) (by decide) (by decide) (by decide)
  have E_a1_410 : Exa Z h410 a1 cPL := E_a1.ext E410
  have F_a1_offset_410 : Fld Z h410 a1 cPL "offset" "J" (.long (0 : Int64)) := F_a1_offset.ext E410
  have F_a1_end_410 : Fld Z h410 a1 cPL "end" "J" (.long (0 : Int64)) := F_a1_end.ext E410
  have F_a1_records_410 : Fld Z h410 a1 cPL "records" dOP .null := F_a1_records.ext E410
  have K410 : Keep h0 h410 [a1] := K0.ext E410
  refine gsW T410 (mkF m 8 #[rv a1, .val (.long q1), .second, .val (.long q2), .second, rv op] [(.ref a410), (.ref op)]) st410 ?_
  have Zs411 : n0 ≤ h410.size := Nat.le_trans Z0 K410.1
  obtain ⟨_, _, ⟨T412, L412, k412, n412⟩, -, X412, ⟨Lc412, hQ412, l412, y412, z412⟩, st412⟩ := LawKit.callS X410 hx (y := Y9) hown410 (mvT hZ410 (tw hw 33 rfl)) (mvT hZ410 (tw hw 34 rfl)) (mvT hZ410 (tw hw 35 rfl)) (mvT hZ410 (tw hw 36 rfl)) (by decide) (backOf (W := 0) (rm_rnn2 l Z a0 hw [] op a410 h410 n0 Zs411 (Old.keep O0 K410 hws)) hZ410 (tw hw 36 rfl) (tw hw 35 rfl) (by decide) (by decide)) (g := (mkF m 8 #[rv a1, .val (.long q1), .second, .val (.long q2), .second, rv op] [(.ref a410), (.ref op)])) rfl (by rw [hml]; rfl) (argsL := [(.ref op), (.ref a410)]) (rest := []) (lenOf pd_18 rfl) rfl (wle rfl) (hb hby d29_8) (fun _ _ => ⟨rfl, e410, (by decide : 2 + 0 ≤ _), (by decide : 32 + 0 ≤ _)⟩)
  dsimp only [Pt.U, Pt.locs, Pt.cells, Pt.slots] at X412 l412 y412 z412 st412 hQ412
  subst l412 y412 z412
  obtain ⟨rfl, N412q, e412⟩ := hQ412
  have N412 := Fr.app N409 N412q
  refine gsW T412 (mkF m 11 #[rv a1, .val (.long q1), .second, .val (.long q2), .second, rv op] [(.ref op)]) st412 ?_
  refine gsW T412 (mkF m 12 #[rv a1, .val (.long q1), .second, .val (.long q2), .second, rv op] []) (fun _ hr => XT.pop X412.here hx rfl (hb hby d29_11) rfl rfl hr) ?_
  refine gsW T412 (mkF m 13 #[rv a1, .val (.long q1), .second, .val (.long q2), .second, rv op] [(.ref a1)]) (fun _ hr => XS.aloadN X412.here hx rfl (hb hby d29_12) rfl rfl hr) ?_
  refine gsW T412 (mkF m 14 #[rv a1, .val (.long q1), .second, .val (.long q2), .second, rv op] [(.long q1), (.ref a1)]) (fun _ hr => XT.lloadN X412.here hx rfl (hb hby d29_13) rfl hr) ?_
  obtain ⟨T413, h413, X413, e413, W413, st413⟩ := putF X412 hx hZ410 hown410 (host := "") (Or.inl (tw hw 37 rfl)) Via.refl e412 F_a1_offset_410 E_a1_410 (Or.inr ⟨(tw hw 38 rfl), rfl, hnm⟩) (tw hw 12 rfl) (ty := .long) (by decide) rfl rfl (g := (mkF m 14 #[rv a1, .val (.long q1), .second, .val (.long q2), .second, rv op] [(.long q1), (.ref a1)])) rfl rfl (hb hby d29_14)
  have E_a1_413 : Exa Z h413 a1 cPL := E_a1_410.wr W413
  have F_a1_end_413 : Fld Z h413 a1 cPL "end" "J" (.long (0 : Int64)) := F_a1_end_410.other W413 (Or.inr (slot_ne (Or.inr (tw hw 40 rfl)) (Or.inr (tw hw 38 rfl)) (by decide) (t := .long) (t' := .long) (by decide) (by decide)))
  have F_a1_records_413 : Fld Z h413 a1 cPL "records" dOP .null := F_a1_records_410.other W413 (Or.inr (slot_ne (Or.inr (tw hw 42 rfl)) (Or.inr (tw hw 38 rfl)) (by decide) (t := (.object cOP)) (t' := .long) (by decide) (by decide)))
  have K413 : Keep h0 h413 [a1] := K410.wr W413 (Or.inl (List.mem_of_getElem? (i := 0) rfl))
  have kle413 : j410 ≤ h413.size := Nat.le_trans kle410q (Nat.le_of_eq W413.size.symm)
  have N413 := Fr.snoc X413 N412 ge_a1
  have F_a1_offset_413 : Fld Z h413 a1 cPL "offset" "J" (.long q1) := F_a1_offset_410.same W413
  refine gsW T413 (mkF m 17 #[rv a1, .val (.long q1), .second, .val (.long q2), .second, rv op] []) st413 ?_
  refine gsW T413 (mkF m 18 #[rv a1, .val (.long q1), .second, .val (.long q2), .second, rv op] [(.ref a1)]) (fun _ hr => XS.aloadN X413.here hx rfl (hb hby d29_17) rfl rfl hr) ?_
  refine gsW T413 (mkF m 19 #[rv a1, .val (.long q1), .second, .val (.long q2), .second, rv op] [(.long q2), (.ref a1)]) (fun _ hr => XT.lloadN X413.here hx rfl (hb hby d29_18) rfl hr) ?_
  obtain ⟨T414, h414, X414, e414, W414, st414⟩ := putF X413 hx hZ410 hown410 (host := "") (Or.inl (tw hw 39 rfl)) Via.refl e413 F_a1_end_413 E_a1_413 (Or.inr ⟨(tw hw 40 rfl), rfl, hnm⟩) (tw hw 12 rfl) (ty := .long) (by decide) rfl rfl (g := (mkF m 19 #[rv a1, .val (.long q1), .second, .val (.long q2), .second, rv op] [(.long q2), (.ref a1)])) rfl rfl (hb hby d29_19)
  have E_a1_414 : Exa Z h414 a1 cPL := E_a1_413.wr W414
  have F_a1_records_414 : Fld Z h414 a1 cPL "records" dOP .null := F_a1_records_413.other W414 (Or.inr (slot_ne (Or.inr (tw hw 42 rfl)) (Or.inr (tw hw 40 rfl)) (by decide) (t := (.object cOP)) (t' := .long) (by decide) (by decide)))
  have F_a1_offset_414 : Fld Z h414 a1 cPL "offset" "J" (.long q1) := F_a1_offset_413.other W414 (Or.inr (slot_ne (Or.inr (tw hw 38 rfl)) (Or.inr (tw hw 40 rfl)) (by decide) (t := .long) (t' := .long) (by decide) (by decide)))
  have K414 : Keep h0 h414 [a1] := K413.wr W414 (Or.inl (List.mem_of_getElem? (i := 0) rfl))
  have kle414 : j410 ≤ h414.size := Nat.le_trans kle413 (Nat.le_of_eq W414.size.symm)
  have N414 := Fr.snoc X414 N413 ge_a1
  have F_a1_end_414 : Fld Z h414 a1 cPL "end" "J" (.long q2) := F_a1_end_413.same W414
  refine gsW T414 (mkF m 22 #[rv a1, .val (.long q1), .second, .val (.long q2), .second, rv op] []) st414 ?_
  refine gsW T414 (mkF m 23 #[rv a1, .val (.long q1), .second, .val (.long q2), .second, rv op] [(.ref a1)]) (fun _ hr => XS.aloadN X414.here hx rfl (hb hby d29_22) rfl rfl hr) ?_
  refine gsW T414 (mkF m 25 #[rv a1, .val (.long q1), .second, .val (.long q2), .second, rv op] [(.ref op), (.ref a1)]) (fun _ hr => XS.aload X414.here hx rfl (hb hby d29_23) rfl rfl hr) ?_
  obtain ⟨T415, h415, X415, e415, W415, st415⟩ := putF X414 hx hZ410 hown410 (host := "") (Or.inl (tw hw 41 rfl)) Via.refl e414 F_a1_records_414 E_a1_414 (Or.inr ⟨(tw hw 42 rfl), rfl, hnm⟩) (tw hw 12 rfl) (ty := (.object cOP)) (by decide) rfl rfl (g := (mkF m 25 #[rv a1, .val (.long q1), .second, .val (.long q2), .second, rv op] [(.ref op), (.ref a1)])) rfl rfl (hb hby d29_25)
  have F_a1_offset_415 : Fld Z h415 a1 cPL "offset" "J" (.long q1) := F_a1_offset_414.other W415 (Or.inr (slot_ne (Or.inr (tw hw 38 rfl)) (Or.inr (tw hw 42 rfl)) (by decide) (t := .long) (t' := (.object cOP)) (by decide) (by decide)))
  have F_a1_end_415 : Fld Z h415 a1 cPL "end" "J" (.long q2) := F_a1_end_414.other W415 (Or.inr (slot_ne (Or.inr (tw hw 40 rfl)) (Or.inr (tw hw 42 rfl)) (by decide) (t := .long) (t' := (.object cOP)) (by decide) (by decide)))
  have K415 : Keep h0 h415 [a1] := K414.wr W415 (Or.inl (List.mem_of_getElem? (i := 0) rfl))
  have kle415 : j410 ≤ h415.size := Nat.le_trans kle414 (Nat.le_of_eq W415.size.symm)
  have N415 := Fr.snoc X415 N414 ge_a1
  have F_a1_records_415 : Fld Z h415 a1 cPL "records" dOP (.ref op) := F_a1_records_414.same W415
  refine gsW T415 (mkF m 28 #[rv a1, .val (.long q1), .second, .val (.long q2), .second, rv op] []) st415 ?_
  exact GoesW.ret (v := none) X415 Sn410 (by rw [e415]; exact kle415) (by decide) (by decide) (fun _ => rfl) (by show Q_rm_pinit Z a1 q1 q2 op h0 n0 _ T415.heap _; rw [e415]; exact ⟨rfl, N415, K415, F_a1_offset_415, F_a1_end_415, F_a1_records_415⟩) (fun fs hr => X415.returnOut hx Bd.returns (hb hby d29_28) hr)
theorem d30_0 : decode prog_14_method_1_code 0 = .ok (.aload_n 0, 1) := by decide +kernel
theorem d30_1 : decode prog_14_method_1_code 1 = .ok (.invokespecial 1, 3) := by decide +kernel
theorem d30_4 : decode prog_14_method_1_code 4 = .ok (.aload_n 2, 1) := by decide +kernel
theorem d30_5 : decode prog_14_method_1_code 5 = .ok (.ldc 7, 2) := by decide +kernel
theorem d30_7 : decode prog_14_method_1_code 7 = .ok (.invokestatic 9, 3) := by decide +kernel
theorem d30_10 : decode prog_14_method_1_code 10 = .ok (.pop, 1) := by decide +kernel
theorem d30_11 : decode prog_14_method_1_code 11 = .ok (.aload_n 3, 1) := by decide +kernel
theorem d30_12 : decode prog_14_method_1_code 12 = .ok (.ldc 15, 2) := by decide +kernel
theorem d30_14 : decode prog_14_method_1_code 14 = .ok (.invokestatic 9, 3) := by decide +kernel
theorem d30_17 : decode prog_14_method_1_code 17 = .ok (.pop, 1) := by decide +kernel
theorem d30_18 : decode prog_14_method_1_code 18 = .ok (.aload_n 0, 1) := by decide +kernel
theorem d30_19 : decode prog_14_method_1_code 19 = .ok (.iload_n 1, 1) := by decide +kernel
theorem d30_20 : decode prog_14_method_1_code 20 = .ok (.putfield 17, 3) := by decide +kernel
theorem d30_23 : decode prog_14_method_1_code 23 = .ok (.aload_n 0, 1) := by decide +kernel
theorem d30_24 : decode prog_14_method_1_code 24 = .ok (.aload_n 2, 1) := by decide +kernel
theorem d30_25 : decode prog_14_method_1_code 25 = .ok (.putfield 23, 3) := by decide +kernel
theorem d30_28 : decode prog_14_method_1_code 28 = .ok (.aload_n 0, 1) := by decide +kernel
theorem d30_29 : decode prog_14_method_1_code 29 = .ok (.aload_n 3, 1) := by decide +kernel
theorem d30_30 : decode prog_14_method_1_code 30 = .ok (.putfield 26, 3) := by decide +kernel
theorem d30_33 : decode prog_14_method_1_code 33 = .ok (.aload_n 0, 1) := by decide +kernel
theorem d30_34 : decode prog_14_method_1_code 34 = .ok (.lload 4, 2) := by decide +kernel
theorem d30_36 : decode prog_14_method_1_code 36 = .ok (.putfield 28, 3) := by decide +kernel
theorem d30_39 : decode prog_14_method_1_code 39 = .ok (.return_, 1) := by decide +kernel
def Q_rm_rinit0 (Z : State) (a1 : Addr) (fu : Addr) (nw : Addr) (q4 : Int64) (h0 : Heap) (n0 : Nat) (v : Option Value) (h : Heap) (L : List Loc) : Prop := v = none ∧ Fr n0 L ∧ Keep h0 h [a1] ∧ Fld Z h a1 cRR nOM "Z" (.int (0 : Int32)) ∧ Fld Z h a1 cRR nLT dOL (.ref fu) ∧ Fld Z h a1 cRR nNT dOL (.ref nw) ∧ Fld Z h a1 cRR "lookedAt" "J" (.long q4)
set_option maxRecDepth 65536 in
set_option maxHeartbeats 40000000 in
theorem rm_rinit0 (l : Launch) (Z : State) (a0 : Array Value) (hw : ∀ d ∈ tables_1, d.before a0 Z = true) (ws : List Jvm.Cond) (a1 : Addr) (fu : Addr) (nw : Addr) (q4 : Int64) (h0 : Heap) (n0 : Nat) (Z0 : n0 ≤ h0.size) (O0 : Old Z n0 h0) (E_a1 : Exa Z h0 a1 cRR) (F_a1_onlyMarkersLeft : Fld Z h0 a1 cRR nOM "Z" (.int (0 : Int32))) (F_a1_firstUnreadTimestamp : Fld Z h0 a1 cRR nLT dOL .null) (F_a1_newestTimestamp : Fld Z h0 a1 cRR nNT dOL .null) (F_a1_lookedAt : Fld Z h0 a1 cRR "lookedAt" "J" (.long (0 : Int64))) (ge_a1 : n0 ≤ a1) :
    MetFree l Y32 (head1 (Cond.code Y32 prog_14_method_1_code 6 none :: ws) r27) (fun a U => a = #[(.ref a1), (.int (0 : Int32)), (.ref fu), (.ref nw), (.long q4)] ∧ Z.Warmed39 U.vm ∧ U.heap = h0) (fun _ _ _ _ _ => True) (fun _ U o U' => ∃ v L, o = .returned v ∧ Q_rm_rinit0 Z a1 fu nw q4 h0 n0 v U'.heap L ∧ ReturnedEndW U o U' L r27.cells r27.slots) := by
  refine MetFree.of_bodySF (plainFor_of_name pn_com_example_log_lag_gauge_loglaggauge_model_PositionLag_RecordsRead) hisR ?_
  intro p e s m args below meth c s₁ Bd hml0 hP hK
  obtain ⟨rfl, hZ, hh⟩ := hP
  have hx := Bd.exec
  have hby := Bd.bytes
  have hml : c.maxLocals = 6 := hml0
  have hown : s.vm.findClass cRR = some m.cls := findClass_of_methodNamed Bd.named
  have hnm := (name_of_methodNamed Bd.named Bd.method).1
  have X0 : Stand p l e r27 (s.setVm s.vm) m #[(.ref a1), (.int (0 : Int32)), (.ref fu), (.ref nw), (.long q4)] below meth c s₁ [] 0 0 := Stand.of_body Bd
  have e0 : s₁.heap = h0 := by rw [← hh, Bd.state]; rfl
  have N0 := Fr.nil n0
  refine GoesW.out (l := l) (c := c) (R := r27) (Q := Q_rm_rinit0 Z a1 fu nw q4 h0 n0) Bd.notSynchronized ?_
  refine GoesW.cast (g2 := mkF m 0 #[rv a1, iv 0, rv fu, rv nw, .val (.long q4), .second] []) (by first | (simp [entryFrame, mkF, argsToLocals, Value.category]; done) | rfl) ?_
  have K0 : Keep h0 h0 [a1] := Keep.refl h0 _
  have hws : ∀ x ∈ [a1], n0 ≤ x := (allS ge_a1 all0)
  have Sn0 : s.Since s.vm 0 := (State.WarmedH.refl s).since 0
  have kle0 : 0 ≤ h0.size := Nat.zero_le _
  have wSA := own_wsa hw
  refine gsW s₁ (mkF m 1 #[rv a1, iv 0, rv fu, rv nw, .val (.long q4), .second] [(.ref a1)]) (fun _ hr => XS.aloadN X0.here hx rfl (hb hby d30_0) rfl rfl hr) ?_
  have Zs416 : n0 ≤ h0.size := Nat.le_trans Z0 K0.1
  obtain ⟨_, _, ⟨T417, L417, k417, n417⟩, -, X417, ⟨Lc417, hQ417, l417, y417, z417⟩, st417⟩ := X0.specialBack hx (y := Y10) rfl hown (mvT hZ (tw hw 100 rfl)) (mvT hZ (tw hw 18 rfl)) (mvT hZ (tw hw 21 rfl)) (by decide) (backOf (W := 0) (rm_rec l Z a0 hw [] a1 h0 n0 Zs416 (Old.keep O0 K0 hws)) hZ (tw hw 21 rfl) (tw hw 20 rfl) (by decide) (by decide)) (g := (mkF m 1 #[rv a1, iv 0, rv fu, rv nw, .val (.long q4), .second] [(.ref a1)])) rfl (by rw [hml]; rfl) (Steps.refl _) (a := a1) (argsL := []) (rest := []) (lenOf pd_17 rfl) rfl (wle rfl) (hb hby d30_1) (fun _ _ => ⟨rfl, e0, (by decide : 0 + 0 ≤ _), (by decide : 0 + 0 ≤ _)⟩)
  dsimp only [Pt.U, Pt.locs, Pt.cells, Pt.slots] at X417 l417 y417 z417 st417 hQ417
  subst l417 y417 z417
  obtain ⟨rfl, N417q, e417⟩ := hQ417
  have N417 := Fr.app N0 N417q
  refine gsW T417 (mkF m 4 #[rv a1, iv 0, rv fu, rv nw, .val (.long q4), .second] []) (fun _ hr => st417.trans hr) ?_
  refine gsW T417 (mkF m 5 #[rv a1, iv 0, rv fu, rv nw, .val (.long q4), .second] [(.ref fu)]) (fun _ hr => XS.aloadN X417.here hx rfl (hb hby d30_4) rfl rfl hr) ?_
  obtain ⟨a418, T418, h418, j418, X418, e418, E418, Sn418, kle418q, hZ418, hown418, st418⟩ := ldcS X417 hx hZ hown (tw hw 101 rfl) wSA e417 Sn0 kle0 (g := (mkF m 5 #[rv a1, iv 0, rv fu, rv nw, .val (.long q4), .second] [(.ref fu)])) rfl (hb hby d30_5) (n := 80) (by decide) (by decide) (by decide) (by decide)
  have E_a1_418 : Exa Z h418 a1 cRR := E_a1.ext E418
  have F_a1_onlyMarkersLeft_418 : Fld Z h418 a1 cRR nOM "Z" (.int (0 : Int32)) := F_a1_onlyMarkersLeft.ext E418
  have F_a1_firstUnreadTimestamp_418 : Fld Z h418 a1 cRR nLT dOL .null := F_a1_firstUnreadTimestamp.ext E418
  have F_a1_newestTimestamp_418 : Fld Z h418 a1 cRR nNT dOL .null := F_a1_newestTimestamp.ext E418
  have F_a1_lookedAt_418 : Fld Z h418 a1 cRR "lookedAt" "J" (.long (0 : Int64)) := F_a1_lookedAt.ext E418
  have K418 : Keep h0 h418 [a1] := K0.ext E418
  refine gsW T418 (mkF m 7 #[rv a1, iv 0, rv fu, rv nw, .val (.long q4), .second] [(.ref a418), (.ref fu)]) st418 ?_
  have Zs419 : n0 ≤ h418.size := Nat.le_trans Z0 K418.1
  obtain ⟨_, _, ⟨T420, L420, k420, n420⟩, -, X420, ⟨Lc420, hQ420, l420, y420, z420⟩, st420⟩ := LawKit.callS X418 hx (y := Y9) hown418 (mvT hZ418 (tw hw 102 rfl)) (mvT hZ418 (tw hw 34 rfl)) (mvT hZ418 (tw hw 35 rfl)) (mvT hZ418 (tw hw 36 rfl)) (by decide) (backOf (W := 0) (rm_rnn2 l Z a0 hw [] fu a418 h418 n0 Zs419 (Old.keep O0 K418 hws)) hZ418 (tw hw 36 rfl) (tw hw 35 rfl) (by decide) (by decide)) (g := (mkF m 7 #[rv a1, iv 0, rv fu, rv nw, .val (.long q4), .second] [(.ref a418), (.ref fu)])) rfl (by rw [hml]; rfl) (argsL := [(.ref fu), (.ref a418)]) (rest := []) (lenOf pd_18 rfl) rfl (wle rfl) (hb hby d30_7) (fun _ _ => ⟨rfl, e418, (by decide : 2 + 0 ≤ _), (by decide : 84 + 0 ≤ _)⟩)
  dsimp only [Pt.U, Pt.locs, Pt.cells, Pt.slots] at X420 l420 y420 z420 st420 hQ420
  subst l420 y420 z420
  obtain ⟨rfl, N420q, e420⟩ := hQ420
  have N420 := Fr.app N417 N420q
  refine gsW T420 (mkF m 10 #[rv a1, iv 0, rv fu, rv nw, .val (.long q4), .second] [(.ref fu)]) st420 ?_
  refine gsW T420 (mkF m 11 #[rv a1, iv 0, rv fu, rv nw, .val (.long q4), .second] []) (fun _ hr => XT.pop X420.here hx rfl (hb hby d30_10) rfl rfl hr) ?_
  refine gsW T420 (mkF m 12 #[rv a1, iv 0, rv fu, rv nw, .val (.long q4), .second] [(.ref nw)]) (fun _ hr => XS.aloadN X420.here hx rfl (hb hby d30_11) rfl rfl hr) ?_
  obtain ⟨a421, T421, h421, j421, X421, e421, E421, Sn421, kle421q, hZ421, hown421, st421⟩ := ldcS X420 hx hZ418 hown418 (tw hw 103 rfl) wSA e420 Sn418 kle418q (g := (mkF m 12 #[rv a1, iv 0, rv fu, rv nw, .val (.long q4), .second] [(.ref nw)])) rfl (hb hby d30_12) (n := 60) (by decide) (by decide) (by decide) (by decide)
  have E_a1_421 : Exa Z h421 a1 cRR := E_a1_418.ext E421
  have F_a1_onlyMarkersLeft_421 : Fld Z h421 a1 cRR nOM "Z" (.int (0 : Int32)) := F_a1_onlyMarkersLeft_418.ext E421
  have F_a1_firstUnreadTimestamp_421 : Fld Z h421 a1 cRR nLT dOL .null := F_a1_firstUnreadTimestamp_418.ext E421
  have F_a1_newestTimestamp_421 : Fld Z h421 a1 cRR nNT dOL .null := F_a1_newestTimestamp_418.ext E421
  have F_a1_lookedAt_421 : Fld Z h421 a1 cRR "lookedAt" "J" (.long (0 : Int64)) := F_a1_lookedAt_418.ext E421
  have K421 : Keep h0 h421 [a1] := K418.ext E421
  refine gsW T421 (mkF m 14 #[rv a1, iv 0, rv fu, rv nw, .val (.long q4), .second] [(.ref a421), (.ref nw)]) st421 ?_
  have Zs422 : n0 ≤ h421.size := Nat.le_trans Z0 K421.1
  obtain ⟨_, _, ⟨T423, L423, k423, n423⟩, -, X423, ⟨Lc423, hQ423, l423, y423, z423⟩, st423⟩ := LawKit.callS X421 hx (y := Y9) hown421 (mvT hZ421 (tw hw 102 rfl)) (mvT hZ421 (tw hw 34 rfl)) (mvT hZ421 (tw hw 35 rfl)) (mvT hZ421 (tw hw 36 rfl)) (by decide) (backOf (W := 0) (rm_rnn2 l Z a0 hw [] nw a421 h421 n0 Zs422 (Old.keep O0 K421 hws)) hZ421 (tw hw 36 rfl) (tw hw 35 rfl) (by decide) (by decide)) (g := (mkF m 14 #[rv a1, iv 0, rv fu, rv nw, .val (.long q4), .second] [(.ref a421), (.ref nw)])) rfl (by rw [hml]; rfl) (argsL := [(.ref nw), (.ref a421)]) (rest := []) (lenOf pd_18 rfl) rfl (wle rfl) (hb hby d30_14) (fun _ _ => ⟨rfl, e421, (by decide : 4 + 0 ≤ _), (by decide : 148 + 0 ≤ _)⟩)
  dsimp only [Pt.U, Pt.locs, Pt.cells, Pt.slots] at X423 l423 y423 z423 st423 hQ423
  subst l423 y423 z423
  obtain ⟨rfl, N423q, e423⟩ := hQ423
  have N423 := Fr.app N420 N423q
  refine gsW T423 (mkF m 17 #[rv a1, iv 0, rv fu, rv nw, .val (.long q4), .second] [(.ref nw)]) st423 ?_
  refine gsW T423 (mkF m 18 #[rv a1, iv 0, rv fu, rv nw, .val (.long q4), .second] []) (fun _ hr => XT.pop X423.here hx rfl (hb hby d30_17) rfl rfl hr) ?_
  refine gsW T423 (mkF m 19 #[rv a1, iv 0, rv fu, rv nw, .val (.long q4), .second] [(.ref a1)]) (fun _ hr => XS.aloadN X423.here hx rfl (hb hby d30_18) rfl rfl hr) ?_
  refine gsW T423 (mkF m 20 #[rv a1, iv 0, rv fu, rv nw, .val (.long q4), .second] [(.int (0 : Int32)), (.ref a1)]) (fun _ hr => XS.iloadN X423.here hx rfl (hb hby d30_19) rfl  hr) ?_
  obtain ⟨T424, h424, X424, e424, W424, st424⟩ := putFN X423 hx hZ421 hown421 (tw hw 104 rfl) Via.refl e423 F_a1_onlyMarkersLeft_421 E_a1_421 (Or.inr ⟨(tw hw 105 rfl), rfl, hnm⟩) (tw hw 95 rfl) (ty := .boolean) (v' := (.int (0 : Int32))) (by decide) rfl rfl (g := (mkF m 20 #[rv a1, iv 0, rv fu, rv nw, .val (.long q4), .second] [(.int (0 : Int32)), (.ref a1)])) rfl rfl (hb hby d30_20)
  have E_a1_424 : Exa Z h424 a1 cRR := E_a1_421.wr W424
  have F_a1_firstUnreadTimestamp_424 : Fld Z h424 a1 cRR nLT dOL .null := F_a1_firstUnreadTimestamp_421.other W424 (Or.inr (slot_ne (Or.inr (tw hw 107 rfl)) (Or.inr (tw hw 105 rfl)) (by decide) (t := (.object cOL)) (t' := .boolean) (by decide) (by decide)))
  have F_a1_newestTimestamp_424 : Fld Z h424 a1 cRR nNT dOL .null := F_a1_newestTimestamp_421.other W424 (Or.inr (slot_ne (Or.inr (tw hw 109 rfl)) (Or.inr (tw hw 105 rfl)) (by decide) (t := (.object cOL)) (t' := .boolean) (by decide) (by decide)))
  have F_a1_lookedAt_424 : Fld Z h424 a1 cRR "lookedAt" "J" (.long (0 : Int64)) := F_a1_lookedAt_421.other W424 (Or.inr (slot_ne (Or.inr (tw hw 111 rfl)) (Or.inr (tw hw 105 rfl)) (by decide) (t := .long) (t' := .boolean) (by decide) (by decide)))
  have K424 : Keep h0 h424 [a1] := K421.wr W424 (Or.inl (List.mem_of_getElem? (i := 0) rfl))
  have kle424 : j421 ≤ h424.size := Nat.le_trans kle421q (Nat.le_of_eq W424.size.symm)
  have N424 := Fr.snoc X424 N423 ge_a1
  have F_a1_onlyMarkersLeft_424 : Fld Z h424 a1 cRR nOM "Z" (.int (0 : Int32)) := F_a1_onlyMarkersLeft_421.same W424
  refine gsW T424 (mkF m 23 #[rv a1, iv 0, rv fu, rv nw, .val (.long q4), .second] []) st424 ?_
  refine gsW T424 (mkF m 24 #[rv a1, iv 0, rv fu, rv nw, .val (.long q4), .second] [(.ref a1)]) (fun _ hr => XS.aloadN X424.here hx rfl (hb hby d30_23) rfl rfl hr) ?_
  refine gsW T424 (mkF m 25 #[rv a1, iv 0, rv fu, rv nw, .val (.long q4), .second] [(.ref fu), (.ref a1)]) (fun _ hr => XS.aloadN X424.here hx rfl (hb hby d30_24) rfl rfl hr) ?_
  obtain ⟨T425, h425, X425, e425, W425, st425⟩ := putF X424 hx hZ421 hown421 (host := "") (Or.inl (tw hw 106 rfl)) Via.refl e424 F_a1_firstUnreadTimestamp_424 E_a1_424 (Or.inr ⟨(tw hw 107 rfl), rfl, hnm⟩) (tw hw 95 rfl) (ty := (.object cOL)) (by decide) rfl rfl (g := (mkF m 25 #[rv a1, iv 0, rv fu, rv nw, .val (.long q4), .second] [(.ref fu), (.ref a1)])) rfl rfl (hb hby d30_25)
  have E_a1_425 : Exa Z h425 a1 cRR := E_a1_424.wr W425
  have F_a1_newestTimestamp_425 : Fld Z h425 a1 cRR nNT dOL .null := F_a1_newestTimestamp_424.other W425 (Or.inr (slot_ne (Or.inr (tw hw 109 rfl)) (Or.inr (tw hw 107 rfl)) (by decide) (t := (.object cOL)) (t' := (.object cOL)) (by decide) (by decide)))
  have F_a1_lookedAt_425 : Fld Z h425 a1 cRR "lookedAt" "J" (.long (0 : Int64)) := F_a1_lookedAt_424.other W425 (Or.inr (slot_ne (Or.inr (tw hw 111 rfl)) (Or.inr (tw hw 107 rfl)) (by decide) (t := .long) (t' := (.object cOL)) (by decide) (by decide)))
  have F_a1_onlyMarkersLeft_425 : Fld Z h425 a1 cRR nOM "Z" (.int (0 : Int32)) := F_a1_onlyMarkersLeft_424.other W425 (Or.inr (slot_ne (Or.inr (tw hw 105 rfl)) (Or.inr (tw hw 107 rfl)) (by decide) (t := .boolean) (t' := (.object cOL)) (by decide) (by decide)))
  have K425 : Keep h0 h425 [a1] := K424.wr W425 (Or.inl (List.mem_of_getElem? (i := 0) rfl))
  have kle425 : j421 ≤ h425.size := Nat.le_trans kle424 (Nat.le_of_eq W425.size.symm)
  have N425 := Fr.snoc X425 N424 ge_a1
  have F_a1_firstUnreadTimestamp_425 : Fld Z h425 a1 cRR nLT dOL (.ref fu) := F_a1_firstUnreadTimestamp_424.same W425
  refine gsW T425 (mkF m 28 #[rv a1, iv 0, rv fu, rv nw, .val (.long q4), .second] []) st425 ?_
  refine gsW T425 (mkF m 29 #[rv a1, iv 0, rv fu, rv nw, .val (.long q4), .second] [(.ref a1)]) (fun _ hr => XS.aloadN X425.here hx rfl (hb hby d30_28) rfl rfl hr) ?_
  refine gsW T425 (mkF m 30 #[rv a1, iv 0, rv fu, rv nw, .val (.long q4), .second] [(.ref nw), (.ref a1)]) (fun _ hr => XS.aloadN X425.here hx rfl (hb hby d30_29) rfl rfl hr) ?_
  obtain ⟨T426, h426, X426, e426, W426, st426⟩ := putF X425 hx hZ421 hown421 (host := "") (Or.inl (tw hw 108 rfl)) Via.refl e425 F_a1_newestTimestamp_425 E_a1_425 (Or.inr ⟨(tw hw 109 rfl), rfl, hnm⟩) (tw hw 95 rfl) (ty := (.object cOL)) (by decide) rfl rfl (g := (mkF m 30 #[rv a1, iv 0, rv fu, rv nw, .val (.long q4), .second] [(.ref nw), (.ref a1)])) rfl rfl (hb hby d30_30)
  have E_a1_426 : Exa Z h426 a1 cRR := E_a1_425.wr W426
  have F_a1_lookedAt_426 : Fld Z h426 a1 cRR "lookedAt" "J" (.long (0 : Int64)) := F_a1_lookedAt_425.other W426 (Or.inr (slot_ne (Or.inr (tw hw 111 rfl)) (Or.inr (tw hw 109 rfl)) (by decide) (t := .long) (t' := (.object cOL)) (by decide) (by decide)))
  have F_a1_onlyMarkersLeft_426 : Fld Z h426 a1 cRR nOM "Z" (.int (0 : Int32)) := F_a1_onlyMarkersLeft_425.other W426 (Or.inr (slot_ne (Or.inr (tw hw 105 rfl)) (Or.inr (tw hw 109 rfl)) (by decide) (t := .boolean) (t' := (.object cOL)) (by decide) (by decide)))
  have F_a1_firstUnreadTimestamp_426 : Fld Z h426 a1 cRR nLT dOL (.ref fu) := F_a1_firstUnreadTimestamp_425.other W426 (Or.inr (slot_ne (Or.inr (tw hw 107 rfl)) (Or.inr (tw hw 109 rfl)) (by decide) (t := (.object cOL)) (t' := (.object cOL)) (by decide) (by decide)))
  have K426 : Keep h0 h426 [a1] := K425.wr W426 (Or.inl (List.mem_of_getElem? (i := 0) rfl))
  have kle426 : j421 ≤ h426.size := Nat.le_trans kle425 (Nat.le_of_eq W426.size.symm)
  have N426 := Fr.snoc X426 N425 ge_a1
  have F_a1_newestTimestamp_426 : Fld Z h426 a1 cRR nNT dOL (.ref nw) := F_a1_newestTimestamp_425.same W426
  refine gsW T426 (mkF m 33 #[rv a1, iv 0, rv fu, rv nw, .val (.long q4), .second] []) st426 ?_
  refine gsW T426 (mkF m 34 #[rv a1, iv 0, rv fu, rv nw, .val (.long q4), .second] [(.ref a1)]) (fun _ hr => XS.aloadN X426.here hx rfl (hb hby d30_33) rfl rfl hr) ?_
  refine gsW T426 (mkF m 36 #[rv a1, iv 0, rv fu, rv nw, .val (.long q4), .second] [(.long q4), (.ref a1)]) (fun _ hr => XT.lload X426.here hx rfl (hb hby d30_34) rfl hr) ?_
  obtain ⟨T427, h427, X427, e427, W427, st427⟩ := putF X426 hx hZ421 hown421 (host := "") (Or.inl (tw hw 110 rfl)) Via.refl e426 F_a1_lookedAt_426 E_a1_426 (Or.inr ⟨(tw hw 111 rfl), rfl, hnm⟩) (tw hw 95 rfl) (ty := .long) (by decide) rfl rfl (g := (mkF m 36 #[rv a1, iv 0, rv fu, rv nw, .val (.long q4), .second] [(.long q4), (.ref a1)])) rfl rfl (hb hby d30_36)
  have F_a1_onlyMarkersLeft_427 : Fld Z h427 a1 cRR nOM "Z" (.int (0 : Int32)) := F_a1_onlyMarkersLeft_426.other W427 (Or.inr (slot_ne (Or.inr (tw hw 105 rfl)) (Or.inr (tw hw 111 rfl)) (by decide) (t := .boolean) (t' := .long) (by decide) (by decide)))
  have F_a1_firstUnreadTimestamp_427 : Fld Z h427 a1 cRR nLT dOL (.ref fu) := F_a1_firstUnreadTimestamp_426.other W427 (Or.inr (slot_ne (Or.inr (tw hw 107 rfl)) (Or.inr (tw hw 111 rfl)) (by decide) (t := (.object cOL)) (t' := .long) (by decide) (by decide)))
  have F_a1_newestTimestamp_427 : Fld Z h427 a1 cRR nNT dOL (.ref nw) := F_a1_newestTimestamp_426.other W427 (Or.inr (slot_ne (Or.inr (tw hw 109 rfl)) (Or.inr (tw hw 111 rfl)) (by decide) (t := (.object cOL)) (t' := .long) (by decide) (by decide)))
  have K427 : Keep h0 h427 [a1] := K426.wr W427 (Or.inl (List.mem_of_getElem? (i := 0) rfl))
  have kle427 : j421 ≤ h427.size := Nat.le_trans kle426 (Nat.le_of_eq W427.size.symm)
  have N427 := Fr.snoc X427 N426 ge_a1
  have F_a1_lookedAt_427 : Fld Z h427 a1 cRR "lookedAt" "J" (.long q4) := F_a1_lookedAt_426.same W427
  refine gsW T427 (mkF m 39 #[rv a1, iv 0, rv fu, rv nw, .val (.long q4), .second] []) st427 ?_
  exact GoesW.ret (v := none) X427 Sn421 (by rw [e427]; exact kle427) (by decide) (by decide) (fun _ => rfl) (by show Q_rm_rinit0 Z a1 fu nw q4 h0 n0 _ T427.heap _; rw [e427]; exact ⟨rfl, N427, K427, F_a1_onlyMarkersLeft_427, F_a1_firstUnreadTimestamp_427, F_a1_newestTimestamp_427, F_a1_lookedAt_427⟩) (fun fs hr => X427.returnOut hx Bd.returns (hb hby d30_39) hr)
def Q_rm_rinit1 (Z : State) (a1 : Addr) (fu : Addr) (nw : Addr) (q4 : Int64) (h0 : Heap) (n0 : Nat) (v : Option Value) (h : Heap) (L : List Loc) : Prop := v = none ∧ Fr n0 L ∧ Keep h0 h [a1] ∧ Fld Z h a1 cRR nOM "Z" (.int (1 : Int32)) ∧ Fld Z h a1 cRR nLT dOL (.ref fu) ∧ Fld Z h a1 cRR nNT dOL (.ref nw) ∧ Fld Z h a1 cRR "lookedAt" "J" (.long q4)
set_option maxRecDepth 65536 in
set_option maxHeartbeats 40000000 in
theorem rm_rinit1 (l : Launch) (Z : State) (a0 : Array Value) (hw : ∀ d ∈ tables_1, d.before a0 Z = true) (ws : List Jvm.Cond) (a1 : Addr) (fu : Addr) (nw : Addr) (q4 : Int64) (h0 : Heap) (n0 : Nat) (Z0 : n0 ≤ h0.size) (O0 : Old Z n0 h0) (E_a1 : Exa Z h0 a1 cRR) (F_a1_onlyMarkersLeft : Fld Z h0 a1 cRR nOM "Z" (.int (0 : Int32))) (F_a1_firstUnreadTimestamp : Fld Z h0 a1 cRR nLT dOL .null) (F_a1_newestTimestamp : Fld Z h0 a1 cRR nNT dOL .null) (F_a1_lookedAt : Fld Z h0 a1 cRR "lookedAt" "J" (.long (0 : Int64))) (ge_a1 : n0 ≤ a1) :
    MetFree l Y32 (head1 (Cond.code Y32 prog_14_method_1_code 6 none :: ws) r27) (fun a U => a = #[(.ref a1), (.int (1 : Int32)), (.ref fu), (.ref nw), (.long q4)] ∧ Z.Warmed39 U.vm ∧ U.heap = h0) (fun _ _ _ _ _ => True) (fun _ U o U' => ∃ v L, o = .returned v ∧ Q_rm_rinit1 Z a1 fu nw q4 h0 n0 v U'.heap L ∧ ReturnedEndW U o U' L r27.cells r27.slots) := by
  refine MetFree.of_bodySF (plainFor_of_name pn_com_example_log_lag_gauge_loglaggauge_model_PositionLag_RecordsRead) hisR ?_
  intro p e s m args below meth c s₁ Bd hml0 hP hK
  obtain ⟨rfl, hZ, hh⟩ := hP
  have hx := Bd.exec
  have hby := Bd.bytes
  have hml : c.maxLocals = 6 := hml0
  have hown : s.vm.findClass cRR = some m.cls := findClass_of_methodNamed Bd.named
  have hnm := (name_of_methodNamed Bd.named Bd.method).1
  have X0 : Stand p l e r27 (s.setVm s.vm) m #[(.ref a1), (.int (1 : Int32)), (.ref fu), (.ref nw), (.long q4)] below meth c s₁ [] 0 0 := Stand.of_body Bd
  have e0 : s₁.heap = h0 := by rw [← hh, Bd.state]; rfl
  have N0 := Fr.nil n0
  refine GoesW.out (l := l) (c := c) (R := r27) (Q := Q_rm_rinit1 Z a1 fu nw q4 h0 n0) Bd.notSynchronized ?_
  refine GoesW.cast (g2 := mkF m 0 #[rv a1, iv 1, rv fu, rv nw, .val (.long q4), .second] []) (by first | (simp [entryFrame, mkF, argsToLocals, Value.category]; done) | rfl) ?_
  have K0 : Keep h0 h0 [a1] := Keep.refl h0 _
  have hws : ∀ x ∈ [a1], n0 ≤ x := (allS ge_a1 all0)
  have Sn0 : s.Since s.vm 0 := (State.WarmedH.refl s).since 0
  have kle0 : 0 ≤ h0.size := Nat.zero_le _
  have wSA := own_wsa hw
  refine gsW s₁ (mkF m 1 #[rv a1, iv 1, rv fu, rv nw, .val (.long q4), .second] [(.ref a1)]) (fun _ hr => XS.aloadN X0.here hx rfl (hb hby d30_0) rfl rfl hr) ?_
  have Zs428 : n0 ≤ h0.size := Nat.le_trans Z0 K0.1
  obtain ⟨_, _, ⟨T429, L429, k429, n429⟩, -, X429, ⟨Lc429, hQ429, l429, y429, z429⟩, st429⟩ := X0.specialBack hx (y := Y10) rfl hown (mvT hZ (tw hw 100 rfl)) (mvT hZ (tw hw 18 rfl)) (mvT hZ (tw hw 21 rfl)) (by decide) (backOf (W := 0) (rm_rec l Z a0 hw [] a1 h0 n0 Zs428 (Old.keep O0 K0 hws)) hZ (tw hw 21 rfl) (tw hw 20 rfl) (by decide) (by decide)) (g := (mkF m 1 #[rv a1, iv 1, rv fu, rv nw, .val (.long q4), .second] [(.ref a1)])) rfl (by rw [hml]; rfl) (Steps.refl _) (a := a1) (argsL := []) (rest := []) (lenOf pd_17 rfl) rfl (wle rfl) (hb hby d30_1) (fun _ _ => ⟨rfl, e0, (by decide : 0 + 0 ≤ _), (by decide : 0 + 0 ≤ _)⟩)
  dsimp only [Pt.U, Pt.locs, Pt.cells, Pt.slots] at X429 l429 y429 z429 st429 hQ429
  subst l429 y429 z429
  obtain ⟨rfl, N429q, e429⟩ := hQ429
  have N429 := Fr.app N0 N429q
  refine gsW T429 (mkF m 4 #[rv a1, iv 1, rv fu, rv nw, .val (.long q4), .second] []) (fun _ hr => st429.trans hr) ?_
  refine gsW T429 (mkF m 5 #[rv a1, iv 1, rv fu, rv nw, .val (.long q4), .second] [(.ref fu)]) (fun _ hr => XS.aloadN X429.here hx rfl (hb hby d30_4) rfl rfl hr) ?_
  obtain ⟨a430, T430, h430, j430, X430, e430, E430, Sn430, kle430q, hZ430, hown430, st430⟩ := ldcS X429 hx hZ hown (tw hw 101 rfl) wSA e429 Sn0 kle0 (g := (mkF m 5 #[rv a1, iv 1, rv fu, rv nw, .val (.long q4), .second] [(.ref fu)])) rfl (hb hby d30_5) (n := 80) (by decide) (by decide) (by decide) (by decide)
  have E_a1_430 : Exa Z h430 a1 cRR := E_a1.ext E430
  have F_a1_onlyMarkersLeft_430 : Fld Z h430 a1 cRR nOM "Z" (.int (0 : Int32)) := F_a1_onlyMarkersLeft.ext E430
  have F_a1_firstUnreadTimestamp_430 : Fld Z h430 a1 cRR nLT dOL .null := F_a1_firstUnreadTimestamp.ext E430
  have F_a1_newestTimestamp_430 : Fld Z h430 a1 cRR nNT dOL .null := F_a1_newestTimestamp.ext E430
  have F_a1_lookedAt_430 : Fld Z h430 a1 cRR "lookedAt" "J" (.long (0 : Int64)) := F_a1_lookedAt.ext E430
  have K430 : Keep h0 h430 [a1] := K0.ext E430
  refine gsW T430 (mkF m 7 #[rv a1, iv 1, rv fu, rv nw, .val (.long q4), .second] [(.ref a430), (.ref fu)]) st430 ?_
  have Zs431 : n0 ≤ h430.size := Nat.le_trans Z0 K430.1
  obtain ⟨_, _, ⟨T432, L432, k432, n432⟩, -, X432, ⟨Lc432, hQ432, l432, y432, z432⟩, st432⟩ := LawKit.callS X430 hx (y := Y9) hown430 (mvT hZ430 (tw hw 102 rfl)) (mvT hZ430 (tw hw 34 rfl)) (mvT hZ430 (tw hw 35 rfl)) (mvT hZ430 (tw hw 36 rfl)) (by decide) (backOf (W := 0) (rm_rnn2 l Z a0 hw [] fu a430 h430 n0 Zs431 (Old.keep O0 K430 hws)) hZ430 (tw hw 36 rfl) (tw hw 35 rfl) (by decide) (by decide)) (g := (mkF m 7 #[rv a1, iv 1, rv fu, rv nw, .val (.long q4), .second] [(.ref a430), (.ref fu)])) rfl (by rw [hml]; rfl) (argsL := [(.ref fu), (.ref a430)]) (rest := []) (lenOf pd_18 rfl) rfl (wle rfl) (hb hby d30_7) (fun _ _ => ⟨rfl, e430, (by decide : 2 + 0 ≤ _), (by decide : 84 + 0 ≤ _)⟩)
  dsimp only [Pt.U, Pt.locs, Pt.cells, Pt.slots] at X432 l432 y432 z432 st432 hQ432
  subst l432 y432 z432
  obtain ⟨rfl, N432q, e432⟩ := hQ432
  have N432 := Fr.app N429 N432q
  refine gsW T432 (mkF m 10 #[rv a1, iv 1, rv fu, rv nw, .val (.long q4), .second] [(.ref fu)]) st432 ?_
  refine gsW T432 (mkF m 11 #[rv a1, iv 1, rv fu, rv nw, .val (.long q4), .second] []) (fun _ hr => XT.pop X432.here hx rfl (hb hby d30_10) rfl rfl hr) ?_
  refine gsW T432 (mkF m 12 #[rv a1, iv 1, rv fu, rv nw, .val (.long q4), .second] [(.ref nw)]) (fun _ hr => XS.aloadN X432.here hx rfl (hb hby d30_11) rfl rfl hr) ?_
  obtain ⟨a433, T433, h433, j433, X433, e433, E433, Sn433, kle433q, hZ433, hown433, st433⟩ := ldcS X432 hx hZ430 hown430 (tw hw 103 rfl) wSA e432 Sn430 kle430q (g := (mkF m 12 #[rv a1, iv 1, rv fu, rv nw, .val (.long q4), .second] [(.ref nw)])) rfl (hb hby d30_12) (n := 60) (by decide) (by decide) (by decide) (by decide)
  have E_a1_433 : Exa Z h433 a1 cRR := E_a1_430.ext E433
  have F_a1_onlyMarkersLeft_433 : Fld Z h433 a1 cRR nOM "Z" (.int (0 : Int32)) := F_a1_onlyMarkersLeft_430.ext E433
  have F_a1_firstUnreadTimestamp_433 : Fld Z h433 a1 cRR nLT dOL .null := F_a1_firstUnreadTimestamp_430.ext E433
  have F_a1_newestTimestamp_433 : Fld Z h433 a1 cRR nNT dOL .null := F_a1_newestTimestamp_430.ext E433
  have F_a1_lookedAt_433 : Fld Z h433 a1 cRR "lookedAt" "J" (.long (0 : Int64)) := F_a1_lookedAt_430.ext E433
  have K433 : Keep h0 h433 [a1] := K430.ext E433
  refine gsW T433 (mkF m 14 #[rv a1, iv 1, rv fu, rv nw, .val (.long q4), .second] [(.ref a433), (.ref nw)]) st433 ?_
  have Zs434 : n0 ≤ h433.size := Nat.le_trans Z0 K433.1
  obtain ⟨_, _, ⟨T435, L435, k435, n435⟩, -, X435, ⟨Lc435, hQ435, l435, y435, z435⟩, st435⟩ := LawKit.callS X433 hx (y := Y9) hown433 (mvT hZ433 (tw hw 102 rfl)) (mvT hZ433 (tw hw 34 rfl)) (mvT hZ433 (tw hw 35 rfl)) (mvT hZ433 (tw hw 36 rfl)) (by decide) (backOf (W := 0) (rm_rnn2 l Z a0 hw [] nw a433 h433 n0 Zs434 (Old.keep O0 K433 hws)) hZ433 (tw hw 36 rfl) (tw hw 35 rfl) (by decide) (by decide)) (g := (mkF m 14 #[rv a1, iv 1, rv fu, rv nw, .val (.long q4), .second] [(.ref a433), (.ref nw)])) rfl (by rw [hml]; rfl) (argsL := [(.ref nw), (.ref a433)]) (rest := []) (lenOf pd_18 rfl) rfl (wle rfl) (hb hby d30_14) (fun _ _ => ⟨rfl, e433, (by decide : 4 + 0 ≤ _), (by decide : 148 + 0 ≤ _)⟩)
  dsimp only [Pt.U, Pt.locs, Pt.cells, Pt.slots] at X435 l435 y435 z435 st435 hQ435
  subst l435 y435 z435
  obtain ⟨rfl, N435q, e435⟩ := hQ435
  have N435 := Fr.app N432 N435q
  refine gsW T435 (mkF m 17 #[rv a1, iv 1, rv fu, rv nw, .val (.long q4), .second] [(.ref nw)]) st435 ?_
  refine gsW T435 (mkF m 18 #[rv a1, iv 1, rv fu, rv nw, .val (.long q4), .second] []) (fun _ hr => XT.pop X435.here hx rfl (hb hby d30_17) rfl rfl hr) ?_
  refine gsW T435 (mkF m 19 #[rv a1, iv 1, rv fu, rv nw, .val (.long q4), .second] [(.ref a1)]) (fun _ hr => XS.aloadN X435.here hx rfl (hb hby d30_18) rfl rfl hr) ?_
  refine gsW T435 (mkF m 20 #[rv a1, iv 1, rv fu, rv nw, .val (.long q4), .second] [(.int (1 : Int32)), (.ref a1)]) (fun _ hr => XS.iloadN X435.here hx rfl (hb hby d30_19) rfl  hr) ?_
  obtain ⟨T436, h436, X436, e436, W436, st436⟩ := putFN X435 hx hZ433 hown433 (tw hw 104 rfl) Via.refl e435 F_a1_onlyMarkersLeft_433 E_a1_433 (Or.inr ⟨(tw hw 105 rfl), rfl, hnm⟩) (tw hw 95 rfl) (ty := .boolean) (v' := (.int (1 : Int32))) (by decide) rfl rfl (g := (mkF m 20 #[rv a1, iv 1, rv fu, rv nw, .val (.long q4), .second] [(.int (1 : Int32)), (.ref a1)])) rfl rfl (hb hby d30_20)
  have E_a1_436 : Exa Z h436 a1 cRR := E_a1_433.wr W436
  have F_a1_firstUnreadTimestamp_436 : Fld Z h436 a1 cRR nLT dOL .null := F_a1_firstUnreadTimestamp_433.other W436 (Or.inr (slot_ne (Or.inr (tw hw 107 rfl)) (Or.inr (tw hw 105 rfl)) (by decide) (t := (.object cOL)) (t' := .boolean) (by decide) (by decide)))
  have F_a1_newestTimestamp_436 : Fld Z h436 a1 cRR nNT dOL .null := F_a1_newestTimestamp_433.other W436 (Or.inr (slot_ne (Or.inr (tw hw 109 rfl)) (Or.inr (tw hw 105 rfl)) (by decide) (t := (.object cOL)) (t' := .boolean) (by decide) (by decide)))
  have F_a1_lookedAt_436 : Fld Z h436 a1 cRR "lookedAt" "J" (.long (0 : Int64)) := F_a1_lookedAt_433.other W436 (Or.inr (slot_ne (Or.inr (tw hw 111 rfl)) (Or.inr (tw hw 105 rfl)) (by decide) (t := .long) (t' := .boolean) (by decide) (by decide)))
  have K436 : Keep h0 h436 [a1] := K433.wr W436 (Or.inl (List.mem_of_getElem? (i := 0) rfl))
  have kle436 : j433 ≤ h436.size := Nat.le_trans kle433q (Nat.le_of_eq W436.size.symm)
  have N436 := Fr.snoc X436 N435 ge_a1
  have F_a1_onlyMarkersLeft_436 : Fld Z h436 a1 cRR nOM "Z" (.int (1 : Int32)) := F_a1_onlyMarkersLeft_433.same W436
  refine gsW T436 (mkF m 23 #[rv a1, iv 1, rv fu, rv nw, .val (.long q4), .second] []) st436 ?_
  refine gsW T436 (mkF m 24 #[rv a1, iv 1, rv fu, rv nw, .val (.long q4), .second] [(.ref a1)]) (fun _ hr => XS.aloadN X436.here hx rfl (hb hby d30_23) rfl rfl hr) ?_
  refine gsW T436 (mkF m 25 #[rv a1, iv 1, rv fu, rv nw, .val (.long q4), .second] [(.ref fu), (.ref a1)]) (fun _ hr => XS.aloadN X436.here hx rfl (hb hby d30_24) rfl rfl hr) ?_
  obtain ⟨T437, h437, X437, e437, W437, st437⟩ := putF X436 hx hZ433 hown433 (host := "") (Or.inl (tw hw 106 rfl)) Via.refl e436 F_a1_firstUnreadTimestamp_436 E_a1_436 (Or.inr ⟨(tw hw 107 rfl), rfl, hnm⟩) (tw hw 95 rfl) (ty := (.object cOL)) (by decide) rfl rfl (g := (mkF m 25 #[rv a1, iv 1, rv fu, rv nw, .val (.long q4), .second] [(.ref fu), (.ref a1)])) rfl rfl (hb hby d30_25)
  have E_a1_437 : Exa Z h437 a1 cRR := E_a1_436.wr W437
  have F_a1_newestTimestamp_437 : Fld Z h437 a1 cRR nNT dOL .null := F_a1_newestTimestamp_436.other W437 (Or.inr (slot_ne (Or.inr (tw hw 109 rfl)) (Or.inr (tw hw 107 rfl)) (by decide) (t := (.object cOL)) (t' := (.object cOL)) (by decide) (by decide)))
  have F_a1_lookedAt_437 : Fld Z h437 a1 cRR "lookedAt" "J" (.long (0 : Int64)) := F_a1_lookedAt_436.other W437 (Or.inr (slot_ne (Or.inr (tw hw 111 rfl)) (Or.inr (tw hw 107 rfl)) (by decide) (t := .long) (t' := (.object cOL)) (by decide) (by decide)))
  have F_a1_onlyMarkersLeft_437 : Fld Z h437 a1 cRR nOM "Z" (.int (1 : Int32)) := F_a1_onlyMarkersLeft_436.other W437 (Or.inr (slot_ne (Or.inr (tw hw 105 rfl)) (Or.inr (tw hw 107 rfl)) (by decide) (t := .boolean) (t' := (.object cOL)) (by decide) (by decide)))
  have K437 : Keep h0 h437 [a1] := K436.wr W437 (Or.inl (List.mem_of_getElem? (i := 0) rfl))
  have kle437 : j433 ≤ h437.size := Nat.le_trans kle436 (Nat.le_of_eq W437.size.symm)
  have N437 := Fr.snoc X437 N436 ge_a1
  have F_a1_firstUnreadTimestamp_437 : Fld Z h437 a1 cRR nLT dOL (.ref fu) := F_a1_firstUnreadTimestamp_436.same W437
  refine gsW T437 (mkF m 28 #[rv a1, iv 1, rv fu, rv nw, .val (.long q4), .second] []) st437 ?_
  refine gsW T437 (mkF m 29 #[rv a1, iv 1, rv fu, rv nw, .val (.long q4), .second] [(.ref a1)]) (fun _ hr => XS.aloadN X437.here hx rfl (hb hby d30_28) rfl rfl hr) ?_
  refine gsW T437 (mkF m 30 #[rv a1, iv 1, rv fu, rv nw, .val (.long q4), .second] [(.ref nw), (.ref a1)]) (fun _ hr => XS.aloadN X437.here hx rfl (hb hby d30_29) rfl rfl hr) ?_
  obtain ⟨T438, h438, X438, e438, W438, st438⟩ := putF X437 hx hZ433 hown433 (host := "") (Or.inl (tw hw 108 rfl)) Via.refl e437 F_a1_newestTimestamp_437 E_a1_437 (Or.inr ⟨(tw hw 109 rfl), rfl, hnm⟩) (tw hw 95 rfl) (ty := (.object cOL)) (by decide) rfl rfl (g := (mkF m 30 #[rv a1, iv 1, rv fu, rv nw, .val (.long q4), .second] [(.ref nw), (.ref a1)])) rfl rfl (hb hby d30_30)
  have E_a1_438 : Exa Z h438 a1 cRR := E_a1_437.wr W438
  have F_a1_lookedAt_438 : Fld Z h438 a1 cRR "lookedAt" "J" (.long (0 : Int64)) := F_a1_lookedAt_437.other W438 (Or.inr (slot_ne (Or.inr (tw hw 111 rfl)) (Or.inr (tw hw 109 rfl)) (by decide) (t := .long) (t' := (.object cOL)) (by decide) (by decide)))
  have F_a1_onlyMarkersLeft_438 : Fld Z h438 a1 cRR nOM "Z" (.int (1 : Int32)) := F_a1_onlyMarkersLeft_437.other W438 (Or.inr (slot_ne (Or.inr (tw hw 105 rfl)) (Or.inr (tw hw 109 rfl)) (by decide) (t := .boolean) (t' := (.object cOL)) (by decide) (by decide)))
  have F_a1_firstUnreadTimestamp_438 : Fld Z h438 a1 cRR nLT dOL (.ref fu) := F_a1_firstUnreadTimestamp_437.other W438 (Or.inr (slot_ne (Or.inr (tw hw 107 rfl)) (Or.inr (tw hw 109 rfl)) (by decide) (t := (.object cOL)) (t' := (.object cOL)) (by decide) (by decide)))
  have K438 : Keep h0 h438 [a1] := K437.wr W438 (Or.inl (List.mem_of_getElem? (i := 0) rfl))
  have kle438 : j433 ≤ h438.size := Nat.le_trans kle437 (Nat.le_of_eq W438.size.symm)
  have N438 := Fr.snoc X438 N437 ge_a1
  have F_a1_newestTimestamp_438 : Fld Z h438 a1 cRR nNT dOL (.ref nw) := F_a1_newestTimestamp_437.same W438
  refine gsW T438 (mkF m 33 #[rv a1, iv 1, rv fu, rv nw, .val (.long q4), .second] []) st438 ?_
  refine gsW T438 (mkF m 34 #[rv a1, iv 1, rv fu, rv nw, .val (.long q4), .second] [(.ref a1)]) (fun _ hr => XS.aloadN X438.here hx rfl (hb hby d30_33) rfl rfl hr) ?_
  refine gsW T438 (mkF m 36 #[rv a1, iv 1, rv fu, rv nw, .val (.long q4), .second] [(.long q4), (.ref a1)]) (fun _ hr => XT.lload X438.here hx rfl (hb hby d30_34) rfl hr) ?_
  obtain ⟨T439, h439, X439, e439, W439, st439⟩ := putF X438 hx hZ433 hown433 (host := "") (Or.inl (tw hw 110 rfl)) Via.refl e438 F_a1_lookedAt_438 E_a1_438 (Or.inr ⟨(tw hw 111 rfl), rfl, hnm⟩) (tw hw 95 rfl) (ty := .long) (by decide) rfl rfl (g := (mkF m 36 #[rv a1, iv 1, rv fu, rv nw, .val (.long q4), .second] [(.long q4), (.ref a1)])) rfl rfl (hb hby d30_36)
  have F_a1_onlyMarkersLeft_439 : Fld Z h439 a1 cRR nOM "Z" (.int (1 : Int32)) := F_a1_onlyMarkersLeft_438.other W439 (Or.inr (slot_ne (Or.inr (tw hw 105 rfl)) (Or.inr (tw hw 111 rfl)) (by decide) (t := .boolean) (t' := .long) (by decide) (by decide)))
  have F_a1_firstUnreadTimestamp_439 : Fld Z h439 a1 cRR nLT dOL (.ref fu) := F_a1_firstUnreadTimestamp_438.other W439 (Or.inr (slot_ne (Or.inr (tw hw 107 rfl)) (Or.inr (tw hw 111 rfl)) (by decide) (t := (.object cOL)) (t' := .long) (by decide) (by decide)))
  have F_a1_newestTimestamp_439 : Fld Z h439 a1 cRR nNT dOL (.ref nw) := F_a1_newestTimestamp_438.other W439 (Or.inr (slot_ne (Or.inr (tw hw 109 rfl)) (Or.inr (tw hw 111 rfl)) (by decide) (t := (.object cOL)) (t' := .long) (by decide) (by decide)))
  have K439 : Keep h0 h439 [a1] := K438.wr W439 (Or.inl (List.mem_of_getElem? (i := 0) rfl))
  have kle439 : j433 ≤ h439.size := Nat.le_trans kle438 (Nat.le_of_eq W439.size.symm)
  have N439 := Fr.snoc X439 N438 ge_a1
  have F_a1_lookedAt_439 : Fld Z h439 a1 cRR "lookedAt" "J" (.long q4) := F_a1_lookedAt_438.same W439
  refine gsW T439 (mkF m 39 #[rv a1, iv 1, rv fu, rv nw, .val (.long q4), .second] []) st439 ?_
  exact GoesW.ret (v := none) X439 Sn433 (by rw [e439]; exact kle439) (by decide) (by decide) (fun _ => rfl) (by show Q_rm_rinit1 Z a1 fu nw q4 h0 n0 _ T439.heap _; rw [e439]; exact ⟨rfl, N439, K439, F_a1_onlyMarkersLeft_439, F_a1_firstUnreadTimestamp_439, F_a1_newestTimestamp_439, F_a1_lookedAt_439⟩) (fun fs hr => X439.returnOut hx Bd.returns (hb hby d30_39) hr)
theorem own_half (x : Int64) : - 2 ^ 62 ≤ (x >>> ((1 : Int32).toInt64 &&& 63)).toInt ∧ (x >>> ((1 : Int32).toInt64 &&& 63)).toInt < 2 ^ 62 := by
  have e : ((1 : Int32).toInt64 &&& 63) = 1 := by decide
  have h1 := Int64.toInt_lt x
  have h2 := Int64.le_toInt x
  have q : (x >>> (1 : Int64)).toInt = x.toInt / 2 := by
    show (x >>> (1 : Int64)).toBitVec.toInt = x.toBitVec.toInt / 2
    rw [Int64.toBitVec_shiftRight, show ((1 : Int64).toBitVec.smod 64) = 1#64 by decide, BitVec.sshiftRight_eq', BitVec.toInt_sshiftRight, show (1#64).toNat = 1 from rfl, Int.shiftRight_eq_div_pow]
    rfl
  rw [e, q]
  omega
abbrev lw0 (x0 : Int64) (x1 : Int64) (x2 : Int32) (x3 : Int64) (x4 : Int64) (x5 : Int64) (x6 : Int32) (x7 : Int32) (x8 : Int32) (x9 : Int32) (x10 : Int32) (x11 : Int64) (x12 : Int64) (x13 : Int64) (x14 : Int64) (x15 : Addr) (x16 : Addr) : Array Slot := #[.val (.long x0), .second, .val (.long x1), .second, iv x2, .val (.long x3), .second, .val (.long x4), .second, .val (.long x5), .second, iv x6, iv x7, iv x8, iv x9, iv x10, .val (.long x11), .second, .val (.long x12), .second, .val (.long x13), .second, .val (.long x14), .second, rv x15, rv x16, .unset, .unset, .unset, .unset, .unset, .unset]
abbrev lw1 (x0 : Int64) (x1 : Int64) (x2 : Int32) (x3 : Int64) (x4 : Int64) (x5 : Int64) (x6 : Int32) (x7 : Int32) (x8 : Int32) (x9 : Int32) (x10 : Int32) (x11 : Int64) (x12 : Int64) (x13 : Int64) (x14 : Int64) (x15 : Addr) (x16 : Addr) (x17 : Addr) : Array Slot := #[.val (.long x0), .second, .val (.long x1), .second, iv x2, .val (.long x3), .second, .val (.long x4), .second, .val (.long x5), .second, iv x6, iv x7, iv x8, iv x9, iv x10, .val (.long x11), .second, .val (.long x12), .second, .val (.long x13), .second, .val (.long x14), .second, rv x15, rv x16, rv x17, .unset, .unset, .unset, .unset, .unset]
abbrev lw2 (x0 : Int64) (x1 : Int64) (x2 : Int32) (x3 : Int64) (x4 : Int64) (x5 : Int64) (x6 : Int32) (x7 : Int32) (x8 : Int32) (x9 : Int32) (x10 : Int32) (x11 : Int64) (x12 : Int64) (x13 : Int64) (x14 : Int64) (x15 : Addr) (x16 : Addr) (x17 : Addr) (x18 : Addr) : Array Slot := #[.val (.long x0), .second, .val (.long x1), .second, iv x2, .val (.long x3), .second, .val (.long x4), .second, .val (.long x5), .second, iv x6, iv x7, iv x8, iv x9, iv x10, .val (.long x11), .second, .val (.long x12), .second, .val (.long x13), .second, .val (.long x14), .second, rv x15, rv x16, rv x17, rv x18, .unset, .unset, .unset, .unset]
abbrev lw3 (x0 : Int64) (x1 : Int64) (x2 : Int32) (x3 : Int64) (x4 : Int64) (x5 : Int64) (x6 : Int32) (x7 : Int32) (x8 : Int32) (x9 : Int32) (x10 : Int32) (x11 : Int64) (x12 : Int64) (x13 : Int64) (x14 : Int64) (x15 : Addr) (x16 : Addr) (x17 : Addr) (x18 : Addr) (x19 : Addr) : Array Slot := #[.val (.long x0), .second, .val (.long x1), .second, iv x2, .val (.long x3), .second, .val (.long x4), .second, .val (.long x5), .second, iv x6, iv x7, iv x8, iv x9, iv x10, .val (.long x11), .second, .val (.long x12), .second, .val (.long x13), .second, .val (.long x14), .second, rv x15, rv x16, rv x17, rv x18, rv x19, .unset, .unset, .unset]
abbrev lw4 (x0 : Int64) (x1 : Int64) (x2 : Int32) (x3 : Int64) (x4 : Int64) (x5 : Int64) (x6 : Int32) (x7 : Int32) (x8 : Int32) (x9 : Int32) (x10 : Int32) (x11 : Int64) (x12 : Int64) (x13 : Int64) (x14 : Int64) (x15 : Addr) (x16 : Addr) (x17 : Addr) (x18 : Addr) (x19 : Addr) (x20 : Int64) : Array Slot := #[.val (.long x0), .second, .val (.long x1), .second, iv x2, .val (.long x3), .second, .val (.long x4), .second, .val (.long x5), .second, iv x6, iv x7, iv x8, iv x9, iv x10, .val (.long x11), .second, .val (.long x12), .second, .val (.long x13), .second, .val (.long x14), .second, rv x15, rv x16, rv x17, rv x18, rv x19, .unset, .val (.long x20), .second]
abbrev lw5 (x0 : Int64) (x1 : Int64) (x2 : Int32) (x3 : Int64) (x4 : Int64) (x5 : Int64) (x6 : Int32) (x7 : Int32) (x8 : Int32) (x9 : Int32) (x10 : Int32) (x11 : Int64) (x12 : Int64) (x13 : Int64) (x14 : Int64) (x15 : Addr) (x16 : Addr) (x17 : Addr) (x18 : Addr) (x19 : Addr) (x20 : Int32) (x21 : Int64) : Array Slot := #[.val (.long x0), .second, .val (.long x1), .second, iv x2, .val (.long x3), .second, .val (.long x4), .second, .val (.long x5), .second, iv x6, iv x7, iv x8, iv x9, iv x10, .val (.long x11), .second, .val (.long x12), .second, .val (.long x13), .second, .val (.long x14), .second, rv x15, rv x16, rv x17, rv x18, rv x19, iv x20, .val (.long x21), .second]
abbrev lw6 (x0 : Int64) (x1 : Int64) (x2 : Int32) (x3 : Int64) (x4 : Int64) (x5 : Int64) (x6 : Int32) (x7 : Int32) (x8 : Int32) (x9 : Int32) (x10 : Int32) (x11 : Int64) (x12 : Int64) (x13 : Int64) (x14 : Int64) : Array Slot := #[.val (.long x0), .second, .val (.long x1), .second, iv x2, .val (.long x3), .second, .val (.long x4), .second, .val (.long x5), .second, iv x6, iv x7, iv x8, iv x9, iv x10, .val (.long x11), .second, .val (.long x12), .second, .val (.long x13), .second, .val (.long x14), .second, .unset, .unset, .unset, .unset, .unset, .unset, .unset, .unset]
abbrev lw7 (x0 : Int64) (x1 : Int64) (x2 : Int32) (x3 : Int64) (x4 : Int64) (x5 : Int64) (x6 : Int32) (x7 : Int32) (x8 : Int32) (x9 : Int32) (x10 : Int32) (x11 : Int64) (x12 : Int64) (x13 : Int64) (x14 : Int64) (x15 : Addr) : Array Slot := #[.val (.long x0), .second, .val (.long x1), .second, iv x2, .val (.long x3), .second, .val (.long x4), .second, .val (.long x5), .second, iv x6, iv x7, iv x8, iv x9, iv x10, .val (.long x11), .second, .val (.long x12), .second, .val (.long x13), .second, .val (.long x14), .second, rv x15, .unset, .unset, .unset, .unset, .unset, .unset, .unset]
abbrev lw8 (x0 : Int64) (x1 : Int64) (x2 : Int32) (x3 : Int64) (x4 : Int64) (x5 : Int64) (x6 : Int32) (x7 : Int32) (x8 : Int32) (x9 : Int32) (x10 : Int32) (x11 : Int64) (x12 : Int64) : Array Slot := #[.val (.long x0), .second, .val (.long x1), .second, iv x2, .val (.long x3), .second, .val (.long x4), .second, .val (.long x5), .second, iv x6, iv x7, iv x8, iv x9, iv x10, .val (.long x11), .second, .val (.long x12), .second, .unset, .unset, .unset, .unset, .unset, .unset, .unset, .unset, .unset, .unset, .unset, .unset]
abbrev lw9 (x0 : Int64) (x1 : Int64) (x2 : Int32) (x3 : Int64) (x4 : Int64) (x5 : Int64) (x6 : Int32) (x7 : Int32) (x8 : Int32) (x9 : Int32) (x10 : Int32) (x11 : Int64) (x12 : Int64) (x13 : Int64) : Array Slot := #[.val (.long x0), .second, .val (.long x1), .second, iv x2, .val (.long x3), .second, .val (.long x4), .second, .val (.long x5), .second, iv x6, iv x7, iv x8, iv x9, iv x10, .val (.long x11), .second, .val (.long x12), .second, .val (.long x13), .second, .unset, .unset, .unset, .unset, .unset, .unset, .unset, .unset, .unset, .unset]
abbrev lw10 (x0 : Int64) (x1 : Int64) (x2 : Int32) (x3 : Int64) (x4 : Int64) (x5 : Int64) (x6 : Int32) (x7 : Int32) (x8 : Int32) (x9 : Int32) (x10 : Int32) : Array Slot := #[.val (.long x0), .second, .val (.long x1), .second, iv x2, .val (.long x3), .second, .val (.long x4), .second, .val (.long x5), .second, iv x6, iv x7, iv x8, iv x9, iv x10, .unset, .unset, .unset, .unset, .unset, .unset, .unset, .unset, .unset, .unset, .unset, .unset, .unset, .unset, .unset, .unset]
abbrev lw11 (x0 : Int64) (x1 : Int64) (x2 : Int32) (x3 : Int64) (x4 : Int64) (x5 : Int64) (x6 : Int32) (x7 : Int32) (x8 : Int32) (x9 : Int32) (x10 : Int32) (x11 : Int64) : Array Slot := #[.val (.long x0), .second, .val (.long x1), .second, iv x2, .val (.long x3), .second, .val (.long x4), .second, .val (.long x5), .second, iv x6, iv x7, iv x8, iv x9, iv x10, .val (.long x11), .second, .unset, .unset, .unset, .unset, .unset, .unset, .unset, .unset, .unset, .unset, .unset, .unset, .unset, .unset]
abbrev lw12 (x0 : Int64) (x1 : Int64) (x2 : Int32) (x3 : Int64) (x4 : Int64) (x5 : Int64) (x6 : Int32) (x7 : Int32) (x8 : Int32) (x9 : Int32) : Array Slot := #[.val (.long x0), .second, .val (.long x1), .second, iv x2, .val (.long x3), .second, .val (.long x4), .second, .val (.long x5), .second, iv x6, iv x7, iv x8, iv x9, .unset, .unset, .unset, .unset, .unset, .unset, .unset, .unset, .unset, .unset, .unset, .unset, .unset, .unset, .unset, .unset, .unset]
abbrev lw13 (x0 : Int64) (x1 : Int64) (x2 : Int32) (x3 : Int64) (x4 : Int64) (x5 : Int64) (x6 : Int32) (x7 : Int32) (x8 : Int32) : Array Slot := #[.val (.long x0), .second, .val (.long x1), .second, iv x2, .val (.long x3), .second, .val (.long x4), .second, .val (.long x5), .second, iv x6, iv x7, iv x8, .unset, .unset, .unset, .unset, .unset, .unset, .unset, .unset, .unset, .unset, .unset, .unset, .unset, .unset, .unset, .unset, .unset, .unset]
abbrev lw14 (x0 : Int64) (x1 : Int64) (x2 : Int32) (x3 : Int64) (x4 : Int64) (x5 : Int64) (x6 : Int32) (x7 : Int32) : Array Slot := #[.val (.long x0), .second, .val (.long x1), .second, iv x2, .val (.long x3), .second, .val (.long x4), .second, .val (.long x5), .second, iv x6, iv x7, .unset, .unset, .unset, .unset, .unset, .unset, .unset, .unset, .unset, .unset, .unset, .unset, .unset, .unset, .unset, .unset, .unset, .unset, .unset]
abbrev lw15 (x0 : Int64) (x1 : Int64) (x2 : Int32) (x3 : Int64) (x4 : Int64) (x5 : Int64) (x6 : Int32) : Array Slot := #[.val (.long x0), .second, .val (.long x1), .second, iv x2, .val (.long x3), .second, .val (.long x4), .second, .val (.long x5), .second, iv x6, .unset, .unset, .unset, .unset, .unset, .unset, .unset, .unset, .unset, .unset, .unset, .unset, .unset, .unset, .unset, .unset, .unset, .unset, .unset, .unset]
abbrev lw16 (x0 : Int64) (x1 : Int64) (x2 : Int32) (x3 : Int64) (x4 : Int64) (x5 : Int64) : Array Slot := #[.val (.long x0), .second, .val (.long x1), .second, iv x2, .val (.long x3), .second, .val (.long x4), .second, .val (.long x5), .second, .unset, .unset, .unset, .unset, .unset, .unset, .unset, .unset, .unset, .unset, .unset, .unset, .unset, .unset, .unset, .unset, .unset, .unset, .unset, .unset, .unset]
theorem pn_com_example_log_lag_gauge_loglaggauge_model_PositionLagTimeLagMsPinLaw : plainName "com/example/log_lag_gauge/loglaggauge/model/PositionLagTimeLagMsPinLaw" = true := by first | (simp [plainName, overriddenIn]; done) | decide +kernel
def Q_rm_law (Z : State) (q1 : Int64) (q2 : Int64) (p1 : Int32) (q3 : Int64) (q4 : Int64) (q5 : Int64) (em : Addr) (eo : Addr) (h0 : Heap) (n0 : Nat) (v : Option Value) (h : Heap) (L : List Loc) : Prop := v = some (.int (1 : Int32)) ∧ Fr n0 L
set_option maxRecDepth 65536 in
set_option maxHeartbeats 40000000 in
theorem rm_law (l : Launch) (Z : State) (a0 : Array Value) (hw : ∀ d ∈ tables_1, d.before a0 Z = true) (ws : List Jvm.Cond) (q1 : Int64) (q2 : Int64) (p1 : Int32) (q3 : Int64) (q4 : Int64) (q5 : Int64) (em : Addr) (eo : Addr) (h0 : Heap) (n0 : Nat) (Z0 : n0 ≤ h0.size) (O0 : Old Z n0 h0) (S_OptionalLong_EMPTY_old : Sta Z Z.heap cOL "EMPTY" dOL (.ref em)) (E_em_old : Exa Z Z.heap em cOL) (F_em_isPresent_old : Fld Z Z.heap em cOL nIP "Z" (.int (0 : Int32))) (F_em_value_old : Fld Z Z.heap em cOL "value" "J" (.long (0 : Int64))) (S_Optional_EMPTY_old : Sta Z Z.heap cOP "EMPTY" dOP (.ref eo)) (E_eo_old : Exa Z Z.heap eo cOP) (F_eo_value_old : Fld Z Z.heap eo cOP "value" dOB .null) :
    MetFree l x (head1 (Cond.code x code maxLocals ret :: ws) room_1) (fun a U => a = #[(.long q1), (.long q2), (.int p1), (.long q3), (.long q4), (.long q5)] ∧ Z.Warmed39 U.vm ∧ U.heap = h0) (fun _ _ _ _ _ => True) (fun _ U o U' => ∃ v L, o = .returned v ∧ Q_rm_law Z q1 q2 p1 q3 q4 q5 em eo h0 n0 v U'.heap L ∧ ReturnedEndW U o U' L room_1.cells room_1.slots) := by
  refine MetFree.of_bodySF (plainFor_of_name pn_com_example_log_lag_gauge_loglaggauge_model_PositionLagTimeLagMsPinLaw) hisR ?_
  intro p e s m args below meth c s₁ Bd hml0 hP hK
  obtain ⟨rfl, hZ, hh⟩ := hP
  have hx := Bd.exec
  have hby := Bd.bytes
  have hml : c.maxLocals = 32 := hml0
  have hown : s.vm.findClass "com/example/log_lag_gauge/loglaggauge/model/PositionLagTimeLagMsPinLaw" = some m.cls := findClass_of_methodNamed Bd.named
  have hnm := (name_of_methodNamed Bd.named Bd.method).1
  have X0 : Stand p l e room_1 (s.setVm s.vm) m #[(.long q1), (.long q2), (.int p1), (.long q3), (.long q4), (.long q5)] below meth c s₁ [] 0 0 := Stand.of_body Bd
  have e0 : s₁.heap = h0 := by rw [← hh, Bd.state]; rfl
  have N0 := Fr.nil n0
  refine GoesW.out (l := l) (c := c) (R := room_1) (Q := Q_rm_law Z q1 q2 p1 q3 q4 q5 em eo h0 n0) Bd.notSynchronized ?_
  refine GoesW.cast (g2 := mkF m 0 #[.val (.long q1), .second, .val (.long q2), .second, iv p1, .val (.long q3), .second, .val (.long q4), .second, .val (.long q5), .second, .unset, .unset, .unset, .unset, .unset, .unset, .unset, .unset, .unset, .unset, .unset, .unset, .unset, .unset, .unset, .unset, .unset, .unset, .unset, .unset, .unset] []) (by first | (simp [entryFrame, mkF, argsToLocals, Value.category, maxLocals]; done) | rfl) ?_
  have K0 : Keep h0 h0 [] := Keep.refl h0 _
  have hws : ∀ x ∈ ([] : List Addr), n0 ≤ x := all0
  have Sn0 : s.Since s.vm 0 := (State.WarmedH.refl s).since 0
  have SEGb : ∀ (Tg : State) (hg : Heap) (Lg : List Loc) (uo : Int64) (ue : Int64) (uf : Int64) (un : Int64) (u11 : Int32) (u12 : Int32) (u13 : Int32) (u14 : Int32) (u15 : Int32) (fu : Addr) (nw : Addr), Stand p l e room_1 s m #[(.long q1), (.long q2), (.int p1), (.long q3), (.long q4), (.long q5)] below meth c Tg Lg 2 4 → Tg.heap = hg → Fr n0 Lg → Keep h0 hg [] → u11 = (0 : Int32) ∨ u11 = (1 : Int32) → u12 = (0 : Int32) ∨ u12 = (1 : Int32) → 0 ≤ uo.toInt → 0 ≤ ue.toInt → - 2 ^ 62 ≤ uf.toInt ∧ uf.toInt < 2 ^ 62 → - 2 ^ 62 ≤ un.toInt ∧ un.toInt < 2 ^ 62 → (u13 = (0 : Int32) ∧ em = fu ∧ u14 = (0 : Int32) ∧ em = nw) ∨ (u13 = (0 : Int32) ∧ em = fu ∧ u14 = (1 : Int32) ∧ Exa Z hg nw cOL ∧ Fld Z hg nw cOL nIP "Z" (.int (1 : Int32)) ∧ Fld Z hg nw cOL "value" "J" (.long un)) ∨ (u13 = (1 : Int32) ∧ u14 = (0 : Int32) ∧ em = nw) ∨ (u13 = (1 : Int32) ∧ u14 = (1 : Int32) ∧ Exa Z hg fu cOL ∧ Fld Z hg fu cOL nIP "Z" (.int (1 : Int32)) ∧ Fld Z hg fu cOL "value" "J" (.long uf) ∧ Exa Z hg nw cOL ∧ Fld Z hg nw cOL nIP "Z" (.int (1 : Int32)) ∧ Fld Z hg nw cOL "value" "J" (.long un)) → GoesW p l e room_1 s m #[(.long q1), (.long q2), (.int p1), (.long q3), (.long q4), (.long q5)] below meth c (Q_rm_law Z q1 q2 p1 q3 q4 q5 em eo h0 n0) Tg (mkF m 150 (lw0 q1 q2 p1 q3 q4 q5 u11 u12 u13 u14 u15 uo ue uf un fu nw) []) := by
    intro Tg hg Lg uo ue uf un u11 u12 u13 u14 u15 fu nw Xg eg Ng Kg h11 h12 ho he hf hn hfn
    have kleg : 0 ≤ hg.size := Nat.zero_le _
    rcases h11 with rfl | rfl
    · refine gsW Tg (mkF m 152 (lw0 q1 q2 p1 q3 q4 q5 0 u12 u13 u14 u15 uo ue uf un fu nw) [(.int (0 : Int32))]) (fun _ hr => XS.iload Xg.here hx rfl (hb hby at_150) rfl  hr) ?_
      refine gsW Tg (mkF m 178 (lw0 q1 q2 p1 q3 q4 q5 0 u12 u13 u14 u15 uo ue uf un fu nw) []) (fun _ hr => XS.ifYes Xg.here hx rfl (pc0 := 152) (pc' := 178) rfl (hb hby at_152) rfl ((if0 _ _).trans (teq (by decide : (0 : Int32) = (0 : Int32))).1) (by decide) (by decide) hr) ?_
      have Zs440 : n0 ≤ hg.size := Nat.le_trans Z0 Kg.1
      obtain ⟨_, _, ⟨T441, L441, k441, n441⟩, -, X441, ⟨Lc441, hQ441, l441, y441, z441⟩, st441⟩ := LawKit.callS Xg hx (y := Y17) hown (mvT hZ (tw hw 6 rfl)) (mvT hZ (tw hw 7 rfl)) (mvT hZ (tw hw 8 rfl)) (mvT hZ (tw hw 9 rfl)) (by decide) (backOf (W := 0) (rm_oem l Z a0 hw [] eo hg n0 Zs440 (Old.keep O0 Kg hws) S_Optional_EMPTY_old) hZ (tw hw 9 rfl) (tw hw 8 rfl) (by decide) (by decide)) (g := (mkF m 178 (lw0 q1 q2 p1 q3 q4 q5 0 u12 u13 u14 u15 uo ue uf un fu nw) [])) rfl (by rw [hml]; rfl) (argsL := []) (rest := []) (lenOf pd_10 rfl) rfl (wle rfl) (hb hby at_178) (fun _ _ => ⟨rfl, eg, (by decide : 2 + 0 ≤ _), (by decide : 4 + 0 ≤ _)⟩)
      dsimp only [Pt.U, Pt.locs, Pt.cells, Pt.slots] at X441 l441 y441 z441 st441 hQ441
      subst l441 y441 z441
      obtain ⟨rfl, N441q, e441⟩ := hQ441
      have N441 := Fr.app Ng N441q
      refine gsW T441 (mkF m 181 (lw0 q1 q2 p1 q3 q4 q5 0 u12 u13 u14 u15 uo ue uf un fu nw) [(.ref eo)]) st441 ?_
      refine gsW T441 (mkF m 183 (lw1 q1 q2 p1 q3 q4 q5 0 u12 u13 u14 u15 uo ue uf un fu nw eo) []) (fun _ hr => XS.astore X441.here hx rfl (hb hby at_181) rfl rfl (l' := (lw1 q1 q2 p1 q3 q4 q5 0 u12 u13 u14 u15 uo ue uf un fu nw eo)) rfl hr) ?_
      obtain ⟨T442, h442, X442, e442, E442, A442, D442, -, st442⟩ := newO X441 hx hZ hown (tw hw 11 rfl) (tw hw 12 rfl) (tw hw 13 rfl) e441 (g := (mkF m 183 (lw1 q1 q2 p1 q3 q4 q5 0 u12 u13 u14 u15 uo ue uf un fu nw eo) [])) rfl (hb hby at_183) (by decide) (by decide)
      obtain ⟨b442, g442⟩ : ∃ z, z = hg.size := ⟨_, rfl⟩
      rw [← g442] at A442 D442 st442
      have sz_b442 : h0.size ≤ b442 := Nat.le_trans Kg.1 (Nat.le_of_eq g442.symm)
      have ge_b442 : n0 ≤ b442 := Nat.le_trans Z0 sz_b442
      have K442 : Keep h0 h442 [] := Kg.ext E442
      have kle442 : 0 ≤ h442.size := Nat.le_trans kleg E442.1
      have F_b442_offset_442 : Fld Z h442 b442 cPL "offset" "J" (.long (0 : Int64)) := D442 (Or.inr (tw hw 38 rfl)) (ty := .long) (by decide)
      have F_b442_end_442 : Fld Z h442 b442 cPL "end" "J" (.long (0 : Int64)) := D442 (Or.inr (tw hw 40 rfl)) (ty := .long) (by decide)
      have F_b442_records_442 : Fld Z h442 b442 cPL "records" dOP .null := D442 (Or.inr (tw hw 42 rfl)) (ty := (.object cOP)) (by decide)
      refine gsW T442 (mkF m 186 (lw1 q1 q2 p1 q3 q4 q5 0 u12 u13 u14 u15 uo ue uf un fu nw eo) [(.ref b442)]) st442 ?_
      refine gsW T442 (mkF m 187 (lw1 q1 q2 p1 q3 q4 q5 0 u12 u13 u14 u15 uo ue uf un fu nw eo) [(.ref b442), (.ref b442)]) (fun _ hr => XS.dup X442.here hx rfl (hb hby at_186) rfl rfl hr) ?_
      refine gsW T442 (mkF m 189 (lw1 q1 q2 p1 q3 q4 q5 0 u12 u13 u14 u15 uo ue uf un fu nw eo) [(.long uo), (.ref b442), (.ref b442)]) (fun _ hr => XT.lload X442.here hx rfl (hb hby at_187) rfl hr) ?_
      refine gsW T442 (mkF m 191 (lw1 q1 q2 p1 q3 q4 q5 0 u12 u13 u14 u15 uo ue uf un fu nw eo) [(.long ue), (.long uo), (.ref b442), (.ref b442)]) (fun _ hr => XT.lload X442.here hx rfl (hb hby at_189) rfl hr) ?_
      refine gsW T442 (mkF m 193 (lw1 q1 q2 p1 q3 q4 q5 0 u12 u13 u14 u15 uo ue uf un fu nw eo) [(.ref eo), (.long ue), (.long uo), (.ref b442), (.ref b442)]) (fun _ hr => XS.aload X442.here hx rfl (hb hby at_191) rfl rfl hr) ?_
      have Zs443 : n0 ≤ h442.size := Nat.le_trans Z0 K442.1
      obtain ⟨_, _, ⟨T444, L444, k444, n444⟩, -, X444, Sc444, gr444, ⟨Lc444, hQ444, l444, y444, z444⟩, st444⟩ := X442.specialBackS hx (y := Y31) rfl hown (mvT hZ (tw hw 14 rfl)) (mvT hZ (tw hw 15 rfl)) (mvT hZ (tw hw 16 rfl)) (by decide) (backOfS (W := 1) (rm_pinit l Z a0 hw [] b442 uo ue eo h442 n0 Zs443 (Old.keep O0 K442 hws) A442 F_b442_offset_442 F_b442_end_442 F_b442_records_442 ge_b442) hZ (tw hw 16 rfl) (tw hw 13 rfl) (by decide) (by decide)) (g := (mkF m 193 (lw1 q1 q2 p1 q3 q4 q5 0 u12 u13 u14 u15 uo ue uf un fu nw eo) [(.ref eo), (.long ue), (.long uo), (.ref b442), (.ref b442)])) rfl (by rw [hml]; rfl) (Steps.refl _) (a := b442) (argsL := [(.long uo), (.long ue), (.ref eo)]) (rest := [(.ref b442)]) (lenOf pd_19 rfl) rfl (wle rfl) (hb hby at_193) (fun _ _ => ⟨rfl, e442, (by decide : 3 + 2 ≤ _), (by decide : 7 + 32 ≤ _)⟩)
      dsimp only [Pt.U, Pt.locs, Pt.cells, Pt.slots] at X444 l444 y444 z444 st444 hQ444 Sc444 gr444
      subst l444 y444 z444
      have Sn444 := Sn0.trans Sc444 (Nat.le_trans (show 0 ≤ T442.heap.size by rw [(e442 : T442.heap = h442)]; exact kle442) gr444)
      have hZ444 : Z.Warmed39 (s.setVm T444.vm).vm := State.Warmed39.trans (t := s.setVm s.vm) hZ Sc444.1
      have hown444 : (s.setVm T444.vm).vm.findClass "com/example/log_lag_gauge/loglaggauge/model/PositionLagTimeLagMsPinLaw" = some m.cls := by rw [show (s.setVm T444.vm).vm = T444.vm from rfl, Sc444.1.alike.findClass]; exact hown
      have kle444 : T444.heap.size ≤ T444.heap.size := Nat.le_refl _
      obtain ⟨rfl, N444q, Kc444, P444_0, P444_1, P444_2⟩ := hQ444
      have N444 := Fr.app N441 N444q
      have E_b442_444 : Exa Z T444.heap b442 cPL := A442.keep Kc444
      have K444 : Keep h0 T444.heap [] := K442.trans Kc444 (allS (Or.inr sz_b442) all0)
      have F_b442_records_444c : Fld Z T444.heap b442 cPL "records" dOP (.ref eo) := P444_2
      refine gsW T444 (mkF m 196 (lw1 q1 q2 p1 q3 q4 q5 0 u12 u13 u14 u15 uo ue uf un fu nw eo) [(.ref b442)]) (fun _ hr => st444.trans hr) ?_
      refine gsW T444 (mkF m 198 (lw2 q1 q2 p1 q3 q4 q5 0 u12 u13 u14 u15 uo ue uf un fu nw eo b442) []) (fun _ hr => XS.astore X444.here hx rfl (hb hby at_196) rfl rfl (l' := (lw2 q1 q2 p1 q3 q4 q5 0 u12 u13 u14 u15 uo ue uf un fu nw eo b442)) rfl hr) ?_
      refine gsW T444 (mkF m 200 (lw2 q1 q2 p1 q3 q4 q5 0 u12 u13 u14 u15 uo ue uf un fu nw eo b442) [(.ref b442)]) (fun _ hr => XS.aload X444.here hx rfl (hb hby at_198) rfl rfl hr) ?_
      have Zs445 : n0 ≤ T444.heap.size := Nat.le_trans Z0 K444.1
      obtain ⟨cq446, kq446, q446a, q446b, q446c⟩ := isOf hZ444 rfl E_b442_444
      obtain ⟨_, _, ⟨T446, L446, k446, n446⟩, -, X446, ⟨Lc446, hQ446, l446, y446, z446⟩, st446⟩ := X444.virtualBack hx (y := Y30) (z := Y30) hown444 (mvT hZ444 (tw hw 43 rfl)) (mvT hZ444 (tw hw 44 rfl)) (notFace_of_selects (args := #[]) (mvT hZ444 (tw hw 46 rfl))) (mvT hZ444 (tw hw 46 rfl)) (mvT hZ444 (tw hw 45 rfl)) (by decide) (backOf (W := 0) (rm_age_none l Z a0 hw [] b442 eo em T444.heap n0 Zs445 (Old.keep O0 K444 hws) E_b442_444 F_b442_records_444c S_OptionalLong_EMPTY_old E_em_old F_em_isPresent_old F_em_value_old S_Optional_EMPTY_old E_eo_old F_eo_value_old) hZ444 (tw hw 47 rfl) (tw hw 13 rfl) (by decide) (by decide)) q446a q446c (g := (mkF m 200 (lw2 q1 q2 p1 q3 q4 q5 0 u12 u13 u14 u15 uo ue uf un fu nw eo b442) [(.ref b442)])) rfl (by rw [hml]; rfl) (Steps.refl _) (argsL := []) (rest := []) (lenOf pd_6 rfl) rfl (wle rfl) (hb hby at_200) (fun _ _ => ⟨rfl, rfl, (by decide : 5 + 1 ≤ _), (by decide : 39 + 1 ≤ _)⟩)
      dsimp only [Pt.U, Pt.locs, Pt.cells, Pt.slots] at X446 l446 y446 z446 st446 hQ446
      subst l446 y446 z446
      obtain ⟨rfl, N446q, Kc446⟩ := hQ446
      have N446 := Fr.app N444 N446q
      have K446 : Keep h0 T446.heap [] := K444.trans Kc446 all0
      have kle446 : T444.heap.size ≤ T446.heap.size := Nat.le_trans kle444 Kc446.1
      refine gsW T446 (mkF m 203 (lw2 q1 q2 p1 q3 q4 q5 0 u12 u13 u14 u15 uo ue uf un fu nw eo b442) [(.ref em)]) (fun _ hr => st446.trans hr) ?_
      refine gsW T446 (mkF m 205 (lw3 q1 q2 p1 q3 q4 q5 0 u12 u13 u14 u15 uo ue uf un fu nw eo b442 em) []) (fun _ hr => XS.astore X446.here hx rfl (hb hby at_203) rfl rfl (l' := (lw3 q1 q2 p1 q3 q4 q5 0 u12 u13 u14 u15 uo ue uf un fu nw eo b442 em)) rfl hr) ?_
      refine gsW T446 (mkF m 206 (lw3 q1 q2 p1 q3 q4 q5 0 u12 u13 u14 u15 uo ue uf un fu nw eo b442 em) [(.long (0 : Int64))]) (fun _ hr => XT.lconst X446.here hx rfl (hb hby at_205) hr) ?_
      refine gsW T446 (mkF m 208 (lw4 q1 q2 p1 q3 q4 q5 0 u12 u13 u14 u15 uo ue uf un fu nw eo b442 em (0 : Int64)) []) (fun _ hr => XT.lstore X446.here hx rfl (hb hby at_206) rfl (l' := (lw4 q1 q2 p1 q3 q4 q5 0 u12 u13 u14 u15 uo ue uf un fu nw eo b442 em (0 : Int64))) rfl hr) ?_
      refine gsW T446 (mkF m 210 (lw4 q1 q2 p1 q3 q4 q5 0 u12 u13 u14 u15 uo ue uf un fu nw eo b442 em (0 : Int64)) [(.int (0 : Int32))]) (fun _ hr => XS.iload X446.here hx rfl (hb hby at_208) rfl  hr) ?_
      refine gsW T446 (mkF m 221 (lw4 q1 q2 p1 q3 q4 q5 0 u12 u13 u14 u15 uo ue uf un fu nw eo b442 em (0 : Int64)) []) (fun _ hr => XS.ifYes X446.here hx rfl (pc0 := 210) (pc' := 221) rfl (hb hby at_210) rfl ((if0 _ _).trans (teq (by decide : (0 : Int32) = (0 : Int32))).1) (by decide) (by decide) hr) ?_
      refine gsW T446 (mkF m 222 (lw4 q1 q2 p1 q3 q4 q5 0 u12 u13 u14 u15 uo ue uf un fu nw eo b442 em (0 : Int64)) [(.int (1 : Int32))]) (fun _ hr => XS.iconst X446.here hx rfl (hb hby at_221) hr) ?_
      refine gsW T446 (mkF m 224 (lw5 q1 q2 p1 q3 q4 q5 0 u12 u13 u14 u15 uo ue uf un fu nw eo b442 em 1 (0 : Int64)) []) (fun _ hr => XS.istore X446.here hx rfl (hb hby at_222) rfl (l' := (lw5 q1 q2 p1 q3 q4 q5 0 u12 u13 u14 u15 uo ue uf un fu nw eo b442 em 1 (0 : Int64))) rfl hr) ?_
      refine gsW T446 (mkF m 268 (lw5 q1 q2 p1 q3 q4 q5 0 u12 u13 u14 u15 uo ue uf un fu nw eo b442 em 1 (0 : Int64)) []) (fun _ hr => XS.goto X446.here hx rfl (pc0 := 224) (pc' := 268) rfl (hb hby at_224) (by decide) (by decide) hr) ?_
      refine gsW T446 (mkF m 270 (lw5 q1 q2 p1 q3 q4 q5 0 u12 u13 u14 u15 uo ue uf un fu nw eo b442 em 1 (0 : Int64)) [(.int (1 : Int32))]) (fun _ hr => XS.iload X446.here hx rfl (hb hby at_268) rfl  hr) ?_
      refine gsW T446 (mkF m 273 (lw5 q1 q2 p1 q3 q4 q5 0 u12 u13 u14 u15 uo ue uf un fu nw eo b442 em 1 (0 : Int64)) []) (fun _ hr => XS.ifNo X446.here hx rfl (hb hby at_270) rfl ((if0 _ _).trans (feq (by decide : ¬ ((1 : Int32) = (0 : Int32)))).1) hr) ?_
      refine gsW T446 (mkF m 275 (lw5 q1 q2 p1 q3 q4 q5 0 u12 u13 u14 u15 uo ue uf un fu nw eo b442 em 1 (0 : Int64)) [(.ref em)]) (fun _ hr => XS.aload X446.here hx rfl (hb hby at_273) rfl rfl hr) ?_
      have Zs447 : n0 ≤ T446.heap.size := Nat.le_trans Z0 K446.1
      obtain ⟨cq448, kq448, q448a, q448b, q448c⟩ := isOf hZ444 rfl (E_em_old.ext (Old.keep O0 K446 hws).2)
      obtain ⟨_, _, ⟨T448, L448, k448, n448⟩, -, X448, ⟨Lc448, hQ448, l448, y448, z448⟩, st448⟩ := X446.virtualBack hx (y := Y6) (z := Y6) hown444 (mvT hZ444 (tw hw 76 rfl)) (mvT hZ444 (tw hw 77 rfl)) (notFace_of_selects (args := #[]) (mvT hZ444 (tw hw 79 rfl))) (mvT hZ444 (tw hw 79 rfl)) (mvT hZ444 (tw hw 78 rfl)) (by decide) (backOf (W := 0) (rm_ole0 l Z a0 hw [] em T446.heap n0 Zs447 (Old.keep O0 K446 hws) (F_em_isPresent_old.ext (Old.keep O0 K446 hws).2)) hZ444 (tw hw 80 rfl) (tw hw 3 rfl) (by decide) (by decide)) q448a q448c (g := (mkF m 275 (lw5 q1 q2 p1 q3 q4 q5 0 u12 u13 u14 u15 uo ue uf un fu nw eo b442 em 1 (0 : Int64)) [(.ref em)])) rfl (by rw [hml]; rfl) (Steps.refl _) (argsL := []) (rest := []) (lenOf pd_1 rfl) rfl (wle rfl) (hb hby at_275) (fun _ _ => ⟨rfl, rfl, (by decide : 6 + 0 ≤ _), (by decide : 40 + 0 ≤ _)⟩)
      dsimp only [Pt.U, Pt.locs, Pt.cells, Pt.slots] at X448 l448 y448 z448 st448 hQ448
      subst l448 y448 z448
      obtain ⟨rfl, N448q, e448⟩ := hQ448
      have N448 := Fr.app N446 N448q
      refine gsW T448 (mkF m 278 (lw5 q1 q2 p1 q3 q4 q5 0 u12 u13 u14 u15 uo ue uf un fu nw eo b442 em 1 (0 : Int64)) [(.int (1 : Int32))]) (fun _ hr => st448.trans hr) ?_
      exact GoesW.ret (v := some (.int (1 : Int32))) X448 Sn444 (by rw [e448]; exact kle446) (by decide) (by decide) (fun h => by rw [Bd.returns] at h; cases h) ⟨rfl, N448⟩ (fun fs hr => retN X448 hx (t := .boolean) Bd.returns (by simp) (hb hby at_278) hr)
    · refine gsW Tg (mkF m 152 (lw0 q1 q2 p1 q3 q4 q5 1 u12 u13 u14 u15 uo ue uf un fu nw) [(.int (1 : Int32))]) (fun _ hr => XS.iload Xg.here hx rfl (hb hby at_150) rfl  hr) ?_
      rcases own_c5 h12 uo ue with ⟨rfl, hgt⟩ | ⟨rfl, hgt⟩ | ⟨rfl, hle⟩ | ⟨rfl, hle, heq⟩ | ⟨rfl, hle, hne⟩
      · refine gsW Tg (mkF m 155 (lw0 q1 q2 p1 q3 q4 q5 1 0 u13 u14 u15 uo ue uf un fu nw) []) (fun _ hr => XS.ifNo Xg.here hx rfl (hb hby at_152) rfl ((if0 _ _).trans (feq (by decide : ¬ ((1 : Int32) = (0 : Int32)))).1) hr) ?_
        obtain ⟨T449, h449, X449, e449, E449, A449, D449, -, st449⟩ := newO Xg hx hZ hown (tw hw 94 rfl) (tw hw 95 rfl) (tw hw 96 rfl) eg (g := (mkF m 155 (lw0 q1 q2 p1 q3 q4 q5 1 0 u13 u14 u15 uo ue uf un fu nw) [])) rfl (hb hby at_155) (by decide) (by decide)
        obtain ⟨b449, g449⟩ : ∃ z, z = hg.size := ⟨_, rfl⟩
        rw [← g449] at A449 D449 st449
        have sz_b449 : h0.size ≤ b449 := Nat.le_trans Kg.1 (Nat.le_of_eq g449.symm)
        have ge_b449 : n0 ≤ b449 := Nat.le_trans Z0 sz_b449
        have K449 : Keep h0 h449 [] := Kg.ext E449
        have kle449 : 0 ≤ h449.size := Nat.le_trans kleg E449.1
        have F_b449_onlyMarkersLeft_449 : Fld Z h449 b449 cRR nOM "Z" (.int (0 : Int32)) := D449 (Or.inr (tw hw 105 rfl)) (ty := .boolean) (by decide)
        have F_b449_firstUnreadTimestamp_449 : Fld Z h449 b449 cRR nLT dOL .null := D449 (Or.inr (tw hw 107 rfl)) (ty := (.object cOL)) (by decide)
        have F_b449_newestTimestamp_449 : Fld Z h449 b449 cRR nNT dOL .null := D449 (Or.inr (tw hw 109 rfl)) (ty := (.object cOL)) (by decide)
        have F_b449_lookedAt_449 : Fld Z h449 b449 cRR "lookedAt" "J" (.long (0 : Int64)) := D449 (Or.inr (tw hw 111 rfl)) (ty := .long) (by decide)
        refine gsW T449 (mkF m 158 (lw0 q1 q2 p1 q3 q4 q5 1 0 u13 u14 u15 uo ue uf un fu nw) [(.ref b449)]) st449 ?_
        refine gsW T449 (mkF m 159 (lw0 q1 q2 p1 q3 q4 q5 1 0 u13 u14 u15 uo ue uf un fu nw) [(.ref b449), (.ref b449)]) (fun _ hr => XS.dup X449.here hx rfl (hb hby at_158) rfl rfl hr) ?_
        refine gsW T449 (mkF m 161 (lw0 q1 q2 p1 q3 q4 q5 1 0 u13 u14 u15 uo ue uf un fu nw) [(.int (0 : Int32)), (.ref b449), (.ref b449)]) (fun _ hr => XS.iload X449.here hx rfl (hb hby at_159) rfl  hr) ?_
        refine gsW T449 (mkF m 163 (lw0 q1 q2 p1 q3 q4 q5 1 0 u13 u14 u15 uo ue uf un fu nw) [(.ref fu), (.int (0 : Int32)), (.ref b449), (.ref b449)]) (fun _ hr => XS.aload X449.here hx rfl (hb hby at_161) rfl rfl hr) ?_
        refine gsW T449 (mkF m 165 (lw0 q1 q2 p1 q3 q4 q5 1 0 u13 u14 u15 uo ue uf un fu nw) [(.ref nw), (.ref fu), (.int (0 : Int32)), (.ref b449), (.ref b449)]) (fun _ hr => XS.aload X449.here hx rfl (hb hby at_163) rfl rfl hr) ?_
        refine gsW T449 (mkF m 167 (lw0 q1 q2 p1 q3 q4 q5 1 0 u13 u14 u15 uo ue uf un fu nw) [(.long q5), (.ref nw), (.ref fu), (.int (0 : Int32)), (.ref b449), (.ref b449)]) (fun _ hr => XT.lload X449.here hx rfl (hb hby at_165) rfl hr) ?_
        have Zs450 : n0 ≤ h449.size := Nat.le_trans Z0 K449.1
        obtain ⟨_, _, ⟨T451, L451, k451, n451⟩, -, X451, Sc451, gr451, ⟨Lc451, hQ451, l451, y451, z451⟩, st451⟩ := X449.specialBackS hx (y := Y32) rfl hown (mvT hZ (tw hw 97 rfl)) (mvT hZ (tw hw 98 rfl)) (mvT hZ (tw hw 99 rfl)) (by decide) (backOfS (W := 1) (rm_rinit0 l Z a0 hw [] b449 fu nw q5 h449 n0 Zs450 (Old.keep O0 K449 hws) A449 F_b449_onlyMarkersLeft_449 F_b449_firstUnreadTimestamp_449 F_b449_newestTimestamp_449 F_b449_lookedAt_449 ge_b449) hZ (tw hw 99 rfl) (tw hw 96 rfl) (by decide) (by decide)) (g := (mkF m 167 (lw0 q1 q2 p1 q3 q4 q5 1 0 u13 u14 u15 uo ue uf un fu nw) [(.long q5), (.ref nw), (.ref fu), (.int (0 : Int32)), (.ref b449), (.ref b449)])) rfl (by rw [hml]; rfl) (Steps.refl _) (a := b449) (argsL := [(.int (0 : Int32)), (.ref fu), (.ref nw), (.long q5)]) (rest := [(.ref b449)]) (lenOf pd_20 rfl) rfl (wle rfl) (hb hby at_167) (fun _ _ => ⟨rfl, e449, (by decide : 3 + 4 ≤ _), (by decide : 8 + 148 ≤ _)⟩)
        dsimp only [Pt.U, Pt.locs, Pt.cells, Pt.slots] at X451 l451 y451 z451 st451 hQ451 Sc451 gr451
        subst l451 y451 z451
        have Sn451 := Sn0.trans Sc451 (Nat.le_trans (show 0 ≤ T449.heap.size by rw [(e449 : T449.heap = h449)]; exact kle449) gr451)
        have hZ451 : Z.Warmed39 (s.setVm T451.vm).vm := State.Warmed39.trans (t := s.setVm s.vm) hZ Sc451.1
        have hown451 : (s.setVm T451.vm).vm.findClass "com/example/log_lag_gauge/loglaggauge/model/PositionLagTimeLagMsPinLaw" = some m.cls := by rw [show (s.setVm T451.vm).vm = T451.vm from rfl, Sc451.1.alike.findClass]; exact hown
        have kle451 : T451.heap.size ≤ T451.heap.size := Nat.le_refl _
        obtain ⟨rfl, N451q, Kc451, P451_0, P451_1, P451_2, P451_3⟩ := hQ451
        have N451 := Fr.app Ng N451q
        have E_b449_451 : Exa Z T451.heap b449 cRR := A449.keep Kc451
        have K451 : Keep h0 T451.heap [] := K449.trans Kc451 (allS (Or.inr sz_b449) all0)
        have F_b449_newestTimestamp_451c : Fld Z T451.heap b449 cRR nNT dOL (.ref nw) := P451_2
        refine gsW T451 (mkF m 170 (lw0 q1 q2 p1 q3 q4 q5 1 0 u13 u14 u15 uo ue uf un fu nw) [(.ref b449)]) (fun _ hr => st451.trans hr) ?_
        have Zs452 : n0 ≤ T451.heap.size := Nat.le_trans Z0 K451.1
        obtain ⟨_, _, ⟨T453, L453, k453, n453⟩, -, X453, ⟨Lc453, hQ453, l453, y453, z453⟩, st453⟩ := LawKit.callS X451 hx (y := Y15) hown451 (mvT hZ451 (tw hw 112 rfl)) (mvT hZ451 (tw hw 113 rfl)) (mvT hZ451 (tw hw 8 rfl)) (mvT hZ451 (tw hw 114 rfl)) (by decide) (backOf (W := 0) (rm_oof l Z a0 hw [] b449 T451.heap n0 Zs452 (Old.keep O0 K451 hws)) hZ451 (tw hw 114 rfl) (tw hw 8 rfl) (by decide) (by decide)) (g := (mkF m 170 (lw0 q1 q2 p1 q3 q4 q5 1 0 u13 u14 u15 uo ue uf un fu nw) [(.ref b449)])) rfl (by rw [hml]; rfl) (argsL := [(.ref b449)]) (rest := []) (lenOf pd_15 rfl) rfl (wle rfl) (hb hby at_170) (fun _ _ => ⟨rfl, rfl, (by decide : 7 + 1 ≤ _), (by decide : 156 + 1 ≤ _)⟩)
        dsimp only [Pt.U, Pt.locs, Pt.cells, Pt.slots] at X453 l453 y453 z453 st453 hQ453
        subst l453 y453 z453
        obtain ⟨w453, rfl, N453q, Kc453, P453_0, P453_1, P453_2⟩ := hQ453
        have N453 := Fr.app N451 N453q
        have E_b449_453 : Exa Z T453.heap b449 cRR := E_b449_451.keep Kc453
        have F_b449_newestTimestamp_453 : Fld Z T453.heap b449 cRR nNT dOL (.ref nw) := F_b449_newestTimestamp_451c.keep Kc453 nin0
        have K453 : Keep h0 T453.heap [] := K451.trans Kc453 all0
        have kle453 : T451.heap.size ≤ T453.heap.size := Nat.le_trans kle451 Kc453.1
        have E_w453_453c : Exa Z T453.heap w453 cOP := P453_1
        have F_w453_value_453c : Fld Z T453.heap w453 cOP "value" dOB (.ref b449) := P453_2
        refine gsW T453 (mkF m 173 (lw0 q1 q2 p1 q3 q4 q5 1 0 u13 u14 u15 uo ue uf un fu nw) [(.ref w453)]) st453 ?_
        refine gsW T453 (mkF m 175 (lw1 q1 q2 p1 q3 q4 q5 1 0 u13 u14 u15 uo ue uf un fu nw w453) []) (fun _ hr => XS.astore X453.here hx rfl (hb hby at_173) rfl rfl (l' := (lw1 q1 q2 p1 q3 q4 q5 1 0 u13 u14 u15 uo ue uf un fu nw w453)) rfl hr) ?_
        refine gsW T453 (mkF m 183 (lw1 q1 q2 p1 q3 q4 q5 1 0 u13 u14 u15 uo ue uf un fu nw w453) []) (fun _ hr => XS.goto X453.here hx rfl (pc0 := 175) (pc' := 183) rfl (hb hby at_175) (by decide) (by decide) hr) ?_
        obtain ⟨T454, h454, X454, e454, E454, A454, D454, -, st454⟩ := newO X453 hx hZ451 hown451 (tw hw 11 rfl) (tw hw 12 rfl) (tw hw 13 rfl) rfl (g := (mkF m 183 (lw1 q1 q2 p1 q3 q4 q5 1 0 u13 u14 u15 uo ue uf un fu nw w453) [])) rfl (hb hby at_183) (by decide) (by decide)
        obtain ⟨b454, g454⟩ : ∃ z, z = T453.heap.size := ⟨_, rfl⟩
        rw [← g454] at A454 D454 st454
        have sz_b454 : h0.size ≤ b454 := Nat.le_trans K453.1 (Nat.le_of_eq g454.symm)
        have ge_b454 : n0 ≤ b454 := Nat.le_trans Z0 sz_b454
        have E_b449_454 : Exa Z h454 b449 cRR := E_b449_453.ext E454
        have F_b449_newestTimestamp_454 : Fld Z h454 b449 cRR nNT dOL (.ref nw) := F_b449_newestTimestamp_453.ext E454
        have E_w453_454 : Exa Z h454 w453 cOP := E_w453_453c.ext E454
        have F_w453_value_454 : Fld Z h454 w453 cOP "value" dOB (.ref b449) := F_w453_value_453c.ext E454
        have K454 : Keep h0 h454 [] := K453.ext E454
        have kle454 : T451.heap.size ≤ h454.size := Nat.le_trans kle453 E454.1
        have F_b454_offset_454 : Fld Z h454 b454 cPL "offset" "J" (.long (0 : Int64)) := D454 (Or.inr (tw hw 38 rfl)) (ty := .long) (by decide)
        have F_b454_end_454 : Fld Z h454 b454 cPL "end" "J" (.long (0 : Int64)) := D454 (Or.inr (tw hw 40 rfl)) (ty := .long) (by decide)
        have F_b454_records_454 : Fld Z h454 b454 cPL "records" dOP .null := D454 (Or.inr (tw hw 42 rfl)) (ty := (.object cOP)) (by decide)
        refine gsW T454 (mkF m 186 (lw1 q1 q2 p1 q3 q4 q5 1 0 u13 u14 u15 uo ue uf un fu nw w453) [(.ref b454)]) st454 ?_
        refine gsW T454 (mkF m 187 (lw1 q1 q2 p1 q3 q4 q5 1 0 u13 u14 u15 uo ue uf un fu nw w453) [(.ref b454), (.ref b454)]) (fun _ hr => XS.dup X454.here hx rfl (hb hby at_186) rfl rfl hr) ?_
        refine gsW T454 (mkF m 189 (lw1 q1 q2 p1 q3 q4 q5 1 0 u13 u14 u15 uo ue uf un fu nw w453) [(.long uo), (.ref b454), (.ref b454)]) (fun _ hr => XT.lload X454.here hx rfl (hb hby at_187) rfl hr) ?_
        refine gsW T454 (mkF m 191 (lw1 q1 q2 p1 q3 q4 q5 1 0 u13 u14 u15 uo ue uf un fu nw w453) [(.long ue), (.long uo), (.ref b454), (.ref b454)]) (fun _ hr => XT.lload X454.here hx rfl (hb hby at_189) rfl hr) ?_
        refine gsW T454 (mkF m 193 (lw1 q1 q2 p1 q3 q4 q5 1 0 u13 u14 u15 uo ue uf un fu nw w453) [(.ref w453), (.long ue), (.long uo), (.ref b454), (.ref b454)]) (fun _ hr => XS.aload X454.here hx rfl (hb hby at_191) rfl rfl hr) ?_
        have Zs455 : n0 ≤ h454.size := Nat.le_trans Z0 K454.1
        obtain ⟨_, _, ⟨T456, L456, k456, n456⟩, -, X456, Sc456, gr456, ⟨Lc456, hQ456, l456, y456, z456⟩, st456⟩ := X454.specialBackS hx (y := Y31) rfl hown451 (mvT hZ451 (tw hw 14 rfl)) (mvT hZ451 (tw hw 15 rfl)) (mvT hZ451 (tw hw 16 rfl)) (by decide) (backOfS (W := 1) (rm_pinit l Z a0 hw [] b454 uo ue w453 h454 n0 Zs455 (Old.keep O0 K454 hws) A454 F_b454_offset_454 F_b454_end_454 F_b454_records_454 ge_b454) hZ451 (tw hw 16 rfl) (tw hw 13 rfl) (by decide) (by decide)) (g := (mkF m 193 (lw1 q1 q2 p1 q3 q4 q5 1 0 u13 u14 u15 uo ue uf un fu nw w453) [(.ref w453), (.long ue), (.long uo), (.ref b454), (.ref b454)])) rfl (by rw [hml]; rfl) (Steps.refl _) (a := b454) (argsL := [(.long uo), (.long ue), (.ref w453)]) (rest := [(.ref b454)]) (lenOf pd_19 rfl) rfl (wle rfl) (hb hby at_193) (fun _ _ => ⟨rfl, e454, (by decide : 9 + 2 ≤ _), (by decide : 160 + 32 ≤ _)⟩)
        dsimp only [Pt.U, Pt.locs, Pt.cells, Pt.slots] at X456 l456 y456 z456 st456 hQ456 Sc456 gr456
        subst l456 y456 z456
        have Sn456 := Sn451.trans Sc456 (Nat.le_trans (show T451.heap.size ≤ T454.heap.size by rw [(e454 : T454.heap = h454)]; exact kle454) gr456)
        have hZ456 : Z.Warmed39 (s.setVm T456.vm).vm := State.Warmed39.trans (t := s.setVm T451.vm) hZ451 Sc456.1
        have hown456 : (s.setVm T456.vm).vm.findClass "com/example/log_lag_gauge/loglaggauge/model/PositionLagTimeLagMsPinLaw" = some m.cls := by rw [show (s.setVm T456.vm).vm = T456.vm from rfl, Sc456.1.alike.findClass]; exact hown451
        have kle456 : T456.heap.size ≤ T456.heap.size := Nat.le_refl _
        obtain ⟨rfl, N456q, Kc456, P456_0, P456_1, P456_2⟩ := hQ456
        have N456 := Fr.app N453 N456q
        have E_b449_456 : Exa Z T456.heap b449 cRR := E_b449_454.keep Kc456
        have F_b449_newestTimestamp_456 : Fld Z T456.heap b449 cRR nNT dOL (.ref nw) := F_b449_newestTimestamp_454.keep Kc456 (ninS (Nat.ne_of_lt (Nat.lt_of_lt_of_le E_b449_453.lt (Nat.le_of_eq g454.symm))) nin0)
        have E_w453_456 : Exa Z T456.heap w453 cOP := E_w453_454.keep Kc456
        have F_w453_value_456 : Fld Z T456.heap w453 cOP "value" dOB (.ref b449) := F_w453_value_454.keep Kc456 (ninS (Nat.ne_of_lt (Nat.lt_of_lt_of_le E_w453_453c.lt (Nat.le_of_eq g454.symm))) nin0)
        have E_b454_456 : Exa Z T456.heap b454 cPL := A454.keep Kc456
        have K456 : Keep h0 T456.heap [] := K454.trans Kc456 (allS (Or.inr sz_b454) all0)
        have F_b454_offset_456c : Fld Z T456.heap b454 cPL "offset" "J" (.long uo) := P456_0
        have F_b454_end_456c : Fld Z T456.heap b454 cPL "end" "J" (.long ue) := P456_1
        have F_b454_records_456c : Fld Z T456.heap b454 cPL "records" dOP (.ref w453) := P456_2
        refine gsW T456 (mkF m 196 (lw1 q1 q2 p1 q3 q4 q5 1 0 u13 u14 u15 uo ue uf un fu nw w453) [(.ref b454)]) (fun _ hr => st456.trans hr) ?_
        refine gsW T456 (mkF m 198 (lw2 q1 q2 p1 q3 q4 q5 1 0 u13 u14 u15 uo ue uf un fu nw w453 b454) []) (fun _ hr => XS.astore X456.here hx rfl (hb hby at_196) rfl rfl (l' := (lw2 q1 q2 p1 q3 q4 q5 1 0 u13 u14 u15 uo ue uf un fu nw w453 b454)) rfl hr) ?_
        refine gsW T456 (mkF m 200 (lw2 q1 q2 p1 q3 q4 q5 1 0 u13 u14 u15 uo ue uf un fu nw w453 b454) [(.ref b454)]) (fun _ hr => XS.aload X456.here hx rfl (hb hby at_198) rfl rfl hr) ?_
        have Zs457 : n0 ≤ T456.heap.size := Nat.le_trans Z0 K456.1
        obtain ⟨cq458, kq458, q458a, q458b, q458c⟩ := isOf hZ456 rfl E_b454_456
        obtain ⟨_, _, ⟨T458, L458, k458, n458⟩, -, X458, ⟨Lc458, hQ458, l458, y458, z458⟩, st458⟩ := X456.virtualBack hx (y := Y30) (z := Y30) hown456 (mvT hZ456 (tw hw 43 rfl)) (mvT hZ456 (tw hw 44 rfl)) (notFace_of_selects (args := #[]) (mvT hZ456 (tw hw 46 rfl))) (mvT hZ456 (tw hw 46 rfl)) (mvT hZ456 (tw hw 45 rfl)) (by decide) (backOf (W := 0) (rm_age_gt l Z a0 hw [] b454 b449 em uo ue nw w453 eo T456.heap n0 Zs457 (Old.keep O0 K456 hws) E_b454_456 F_b454_offset_456c F_b454_end_456c E_b449_456 F_b449_newestTimestamp_456 F_b454_records_456c E_w453_456 F_w453_value_456 S_OptionalLong_EMPTY_old E_em_old F_em_isPresent_old F_em_value_old S_Optional_EMPTY_old E_eo_old F_eo_value_old hgt) hZ456 (tw hw 47 rfl) (tw hw 13 rfl) (by decide) (by decide)) q458a q458c (g := (mkF m 200 (lw2 q1 q2 p1 q3 q4 q5 1 0 u13 u14 u15 uo ue uf un fu nw w453 b454) [(.ref b454)])) rfl (by rw [hml]; rfl) (Steps.refl _) (argsL := []) (rest := []) (lenOf pd_6 rfl) rfl (wle rfl) (hb hby at_200) (fun _ _ => ⟨rfl, rfl, (by decide : 11 + 4 ≤ _), (by decide : 192 + 6 ≤ _)⟩)
        dsimp only [Pt.U, Pt.locs, Pt.cells, Pt.slots] at X458 l458 y458 z458 st458 hQ458
        subst l458 y458 z458
        obtain ⟨rfl, N458q, Kc458⟩ := hQ458
        have N458 := Fr.app N456 N458q
        have K458 : Keep h0 T458.heap [] := K456.trans Kc458 all0
        have kle458 : T456.heap.size ≤ T458.heap.size := Nat.le_trans kle456 Kc458.1
        refine gsW T458 (mkF m 203 (lw2 q1 q2 p1 q3 q4 q5 1 0 u13 u14 u15 uo ue uf un fu nw w453 b454) [(.ref em)]) (fun _ hr => st458.trans hr) ?_
        refine gsW T458 (mkF m 205 (lw3 q1 q2 p1 q3 q4 q5 1 0 u13 u14 u15 uo ue uf un fu nw w453 b454 em) []) (fun _ hr => XS.astore X458.here hx rfl (hb hby at_203) rfl rfl (l' := (lw3 q1 q2 p1 q3 q4 q5 1 0 u13 u14 u15 uo ue uf un fu nw w453 b454 em)) rfl hr) ?_
        refine gsW T458 (mkF m 206 (lw3 q1 q2 p1 q3 q4 q5 1 0 u13 u14 u15 uo ue uf un fu nw w453 b454 em) [(.long (0 : Int64))]) (fun _ hr => XT.lconst X458.here hx rfl (hb hby at_205) hr) ?_
        refine gsW T458 (mkF m 208 (lw4 q1 q2 p1 q3 q4 q5 1 0 u13 u14 u15 uo ue uf un fu nw w453 b454 em (0 : Int64)) []) (fun _ hr => XT.lstore X458.here hx rfl (hb hby at_206) rfl (l' := (lw4 q1 q2 p1 q3 q4 q5 1 0 u13 u14 u15 uo ue uf un fu nw w453 b454 em (0 : Int64))) rfl hr) ?_
        refine gsW T458 (mkF m 210 (lw4 q1 q2 p1 q3 q4 q5 1 0 u13 u14 u15 uo ue uf un fu nw w453 b454 em (0 : Int64)) [(.int (1 : Int32))]) (fun _ hr => XS.iload X458.here hx rfl (hb hby at_208) rfl  hr) ?_
        refine gsW T458 (mkF m 213 (lw4 q1 q2 p1 q3 q4 q5 1 0 u13 u14 u15 uo ue uf un fu nw w453 b454 em (0 : Int64)) []) (fun _ hr => XS.ifNo X458.here hx rfl (hb hby at_210) rfl ((if0 _ _).trans (feq (by decide : ¬ ((1 : Int32) = (0 : Int32)))).1) hr) ?_
        refine gsW T458 (mkF m 215 (lw4 q1 q2 p1 q3 q4 q5 1 0 u13 u14 u15 uo ue uf un fu nw w453 b454 em (0 : Int64)) [(.long uo)]) (fun _ hr => XT.lload X458.here hx rfl (hb hby at_213) rfl hr) ?_
        refine gsW T458 (mkF m 217 (lw4 q1 q2 p1 q3 q4 q5 1 0 u13 u14 u15 uo ue uf un fu nw w453 b454 em (0 : Int64)) [(.long ue), (.long uo)]) (fun _ hr => XT.lload X458.here hx rfl (hb hby at_215) rfl hr) ?_
        refine gsW T458 (mkF m 218 (lw4 q1 q2 p1 q3 q4 q5 1 0 u13 u14 u15 uo ue uf un fu nw w453 b454 em (0 : Int64)) [(.int (XT.cmpL uo ue))]) (fun _ hr => XT.lcmp X458.here hx rfl (hb hby at_217) rfl hr) ?_
        refine gsW T458 (mkF m 221 (lw4 q1 q2 p1 q3 q4 q5 1 0 u13 u14 u15 uo ue uf un fu nw w453 b454 em (0 : Int64)) []) (fun _ hr => XS.ifNo X458.here hx rfl (hb hby at_218) rfl ((if0 _ _).trans (tlt (hgt : (0 : Int32) < (XT.cmpL uo ue))).2.2.2) hr) ?_
        refine gsW T458 (mkF m 222 (lw4 q1 q2 p1 q3 q4 q5 1 0 u13 u14 u15 uo ue uf un fu nw w453 b454 em (0 : Int64)) [(.int (1 : Int32))]) (fun _ hr => XS.iconst X458.here hx rfl (hb hby at_221) hr) ?_
        refine gsW T458 (mkF m 224 (lw5 q1 q2 p1 q3 q4 q5 1 0 u13 u14 u15 uo ue uf un fu nw w453 b454 em 1 (0 : Int64)) []) (fun _ hr => XS.istore X458.here hx rfl (hb hby at_222) rfl (l' := (lw5 q1 q2 p1 q3 q4 q5 1 0 u13 u14 u15 uo ue uf un fu nw w453 b454 em 1 (0 : Int64))) rfl hr) ?_
        refine gsW T458 (mkF m 268 (lw5 q1 q2 p1 q3 q4 q5 1 0 u13 u14 u15 uo ue uf un fu nw w453 b454 em 1 (0 : Int64)) []) (fun _ hr => XS.goto X458.here hx rfl (pc0 := 224) (pc' := 268) rfl (hb hby at_224) (by decide) (by decide) hr) ?_
        refine gsW T458 (mkF m 270 (lw5 q1 q2 p1 q3 q4 q5 1 0 u13 u14 u15 uo ue uf un fu nw w453 b454 em 1 (0 : Int64)) [(.int (1 : Int32))]) (fun _ hr => XS.iload X458.here hx rfl (hb hby at_268) rfl  hr) ?_
        refine gsW T458 (mkF m 273 (lw5 q1 q2 p1 q3 q4 q5 1 0 u13 u14 u15 uo ue uf un fu nw w453 b454 em 1 (0 : Int64)) []) (fun _ hr => XS.ifNo X458.here hx rfl (hb hby at_270) rfl ((if0 _ _).trans (feq (by decide : ¬ ((1 : Int32) = (0 : Int32)))).1) hr) ?_
        refine gsW T458 (mkF m 275 (lw5 q1 q2 p1 q3 q4 q5 1 0 u13 u14 u15 uo ue uf un fu nw w453 b454 em 1 (0 : Int64)) [(.ref em)]) (fun _ hr => XS.aload X458.here hx rfl (hb hby at_273) rfl rfl hr) ?_
        have Zs459 : n0 ≤ T458.heap.size := Nat.le_trans Z0 K458.1
        obtain ⟨cq460, kq460, q460a, q460b, q460c⟩ := isOf hZ456 rfl (E_em_old.ext (Old.keep O0 K458 hws).2)
        obtain ⟨_, _, ⟨T460, L460, k460, n460⟩, -, X460, ⟨Lc460, hQ460, l460, y460, z460⟩, st460⟩ := X458.virtualBack hx (y := Y6) (z := Y6) hown456 (mvT hZ456 (tw hw 76 rfl)) (mvT hZ456 (tw hw 77 rfl)) (notFace_of_selects (args := #[]) (mvT hZ456 (tw hw 79 rfl))) (mvT hZ456 (tw hw 79 rfl)) (mvT hZ456 (tw hw 78 rfl)) (by decide) (backOf (W := 0) (rm_ole0 l Z a0 hw [] em T458.heap n0 Zs459 (Old.keep O0 K458 hws) (F_em_isPresent_old.ext (Old.keep O0 K458 hws).2)) hZ456 (tw hw 80 rfl) (tw hw 3 rfl) (by decide) (by decide)) q460a q460c (g := (mkF m 275 (lw5 q1 q2 p1 q3 q4 q5 1 0 u13 u14 u15 uo ue uf un fu nw w453 b454 em 1 (0 : Int64)) [(.ref em)])) rfl (by rw [hml]; rfl) (Steps.refl _) (argsL := []) (rest := []) (lenOf pd_1 rfl) rfl (wle rfl) (hb hby at_275) (fun _ _ => ⟨rfl, rfl, (by decide : 15 + 0 ≤ _), (by decide : 198 + 0 ≤ _)⟩)
        dsimp only [Pt.U, Pt.locs, Pt.cells, Pt.slots] at X460 l460 y460 z460 st460 hQ460
        subst l460 y460 z460
        obtain ⟨rfl, N460q, e460⟩ := hQ460
        have N460 := Fr.app N458 N460q
        refine gsW T460 (mkF m 278 (lw5 q1 q2 p1 q3 q4 q5 1 0 u13 u14 u15 uo ue uf un fu nw w453 b454 em 1 (0 : Int64)) [(.int (1 : Int32))]) (fun _ hr => st460.trans hr) ?_
        exact GoesW.ret (v := some (.int (1 : Int32))) X460 Sn456 (by rw [e460]; exact kle458) (by decide) (by decide) (fun h => by rw [Bd.returns] at h; cases h) ⟨rfl, N460⟩ (fun fs hr => retN X460 hx (t := .boolean) Bd.returns (by simp) (hb hby at_278) hr)
      · refine gsW Tg (mkF m 155 (lw0 q1 q2 p1 q3 q4 q5 1 1 u13 u14 u15 uo ue uf un fu nw) []) (fun _ hr => XS.ifNo Xg.here hx rfl (hb hby at_152) rfl ((if0 _ _).trans (feq (by decide : ¬ ((1 : Int32) = (0 : Int32)))).1) hr) ?_
        obtain ⟨T461, h461, X461, e461, E461, A461, D461, -, st461⟩ := newO Xg hx hZ hown (tw hw 94 rfl) (tw hw 95 rfl) (tw hw 96 rfl) eg (g := (mkF m 155 (lw0 q1 q2 p1 q3 q4 q5 1 1 u13 u14 u15 uo ue uf un fu nw) [])) rfl (hb hby at_155) (by decide) (by decide)
        obtain ⟨b461, g461⟩ : ∃ z, z = hg.size := ⟨_, rfl⟩
        rw [← g461] at A461 D461 st461
        have sz_b461 : h0.size ≤ b461 := Nat.le_trans Kg.1 (Nat.le_of_eq g461.symm)
        have ge_b461 : n0 ≤ b461 := Nat.le_trans Z0 sz_b461
        have K461 : Keep h0 h461 [] := Kg.ext E461
        have kle461 : 0 ≤ h461.size := Nat.le_trans kleg E461.1
        have F_b461_onlyMarkersLeft_461 : Fld Z h461 b461 cRR nOM "Z" (.int (0 : Int32)) := D461 (Or.inr (tw hw 105 rfl)) (ty := .boolean) (by decide)
        have F_b461_firstUnreadTimestamp_461 : Fld Z h461 b461 cRR nLT dOL .null := D461 (Or.inr (tw hw 107 rfl)) (ty := (.object cOL)) (by decide)
        have F_b461_newestTimestamp_461 : Fld Z h461 b461 cRR nNT dOL .null := D461 (Or.inr (tw hw 109 rfl)) (ty := (.object cOL)) (by decide)
        have F_b461_lookedAt_461 : Fld Z h461 b461 cRR "lookedAt" "J" (.long (0 : Int64)) := D461 (Or.inr (tw hw 111 rfl)) (ty := .long) (by decide)
        refine gsW T461 (mkF m 158 (lw0 q1 q2 p1 q3 q4 q5 1 1 u13 u14 u15 uo ue uf un fu nw) [(.ref b461)]) st461 ?_
        refine gsW T461 (mkF m 159 (lw0 q1 q2 p1 q3 q4 q5 1 1 u13 u14 u15 uo ue uf un fu nw) [(.ref b461), (.ref b461)]) (fun _ hr => XS.dup X461.here hx rfl (hb hby at_158) rfl rfl hr) ?_
        refine gsW T461 (mkF m 161 (lw0 q1 q2 p1 q3 q4 q5 1 1 u13 u14 u15 uo ue uf un fu nw) [(.int (1 : Int32)), (.ref b461), (.ref b461)]) (fun _ hr => XS.iload X461.here hx rfl (hb hby at_159) rfl  hr) ?_
        refine gsW T461 (mkF m 163 (lw0 q1 q2 p1 q3 q4 q5 1 1 u13 u14 u15 uo ue uf un fu nw) [(.ref fu), (.int (1 : Int32)), (.ref b461), (.ref b461)]) (fun _ hr => XS.aload X461.here hx rfl (hb hby at_161) rfl rfl hr) ?_
        refine gsW T461 (mkF m 165 (lw0 q1 q2 p1 q3 q4 q5 1 1 u13 u14 u15 uo ue uf un fu nw) [(.ref nw), (.ref fu), (.int (1 : Int32)), (.ref b461), (.ref b461)]) (fun _ hr => XS.aload X461.here hx rfl (hb hby at_163) rfl rfl hr) ?_
        refine gsW T461 (mkF m 167 (lw0 q1 q2 p1 q3 q4 q5 1 1 u13 u14 u15 uo ue uf un fu nw) [(.long q5), (.ref nw), (.ref fu), (.int (1 : Int32)), (.ref b461), (.ref b461)]) (fun _ hr => XT.lload X461.here hx rfl (hb hby at_165) rfl hr) ?_
        have Zs462 : n0 ≤ h461.size := Nat.le_trans Z0 K461.1
        obtain ⟨_, _, ⟨T463, L463, k463, n463⟩, -, X463, Sc463, gr463, ⟨Lc463, hQ463, l463, y463, z463⟩, st463⟩ := X461.specialBackS hx (y := Y32) rfl hown (mvT hZ (tw hw 97 rfl)) (mvT hZ (tw hw 98 rfl)) (mvT hZ (tw hw 99 rfl)) (by decide) (backOfS (W := 1) (rm_rinit1 l Z a0 hw [] b461 fu nw q5 h461 n0 Zs462 (Old.keep O0 K461 hws) A461 F_b461_onlyMarkersLeft_461 F_b461_firstUnreadTimestamp_461 F_b461_newestTimestamp_461 F_b461_lookedAt_461 ge_b461) hZ (tw hw 99 rfl) (tw hw 96 rfl) (by decide) (by decide)) (g := (mkF m 167 (lw0 q1 q2 p1 q3 q4 q5 1 1 u13 u14 u15 uo ue uf un fu nw) [(.long q5), (.ref nw), (.ref fu), (.int (1 : Int32)), (.ref b461), (.ref b461)])) rfl (by rw [hml]; rfl) (Steps.refl _) (a := b461) (argsL := [(.int (1 : Int32)), (.ref fu), (.ref nw), (.long q5)]) (rest := [(.ref b461)]) (lenOf pd_20 rfl) rfl (wle rfl) (hb hby at_167) (fun _ _ => ⟨rfl, e461, (by decide : 3 + 4 ≤ _), (by decide : 8 + 148 ≤ _)⟩)
        dsimp only [Pt.U, Pt.locs, Pt.cells, Pt.slots] at X463 l463 y463 z463 st463 hQ463 Sc463 gr463
        subst l463 y463 z463
        have Sn463 := Sn0.trans Sc463 (Nat.le_trans (show 0 ≤ T461.heap.size by rw [(e461 : T461.heap = h461)]; exact kle461) gr463)
        have hZ463 : Z.Warmed39 (s.setVm T463.vm).vm := State.Warmed39.trans (t := s.setVm s.vm) hZ Sc463.1
        have hown463 : (s.setVm T463.vm).vm.findClass "com/example/log_lag_gauge/loglaggauge/model/PositionLagTimeLagMsPinLaw" = some m.cls := by rw [show (s.setVm T463.vm).vm = T463.vm from rfl, Sc463.1.alike.findClass]; exact hown
        have kle463 : T463.heap.size ≤ T463.heap.size := Nat.le_refl _
        obtain ⟨rfl, N463q, Kc463, P463_0, P463_1, P463_2, P463_3⟩ := hQ463
        have N463 := Fr.app Ng N463q
        have E_b461_463 : Exa Z T463.heap b461 cRR := A461.keep Kc463
        have K463 : Keep h0 T463.heap [] := K461.trans Kc463 (allS (Or.inr sz_b461) all0)
        have F_b461_newestTimestamp_463c : Fld Z T463.heap b461 cRR nNT dOL (.ref nw) := P463_2
        refine gsW T463 (mkF m 170 (lw0 q1 q2 p1 q3 q4 q5 1 1 u13 u14 u15 uo ue uf un fu nw) [(.ref b461)]) (fun _ hr => st463.trans hr) ?_
        have Zs464 : n0 ≤ T463.heap.size := Nat.le_trans Z0 K463.1
        obtain ⟨_, _, ⟨T465, L465, k465, n465⟩, -, X465, ⟨Lc465, hQ465, l465, y465, z465⟩, st465⟩ := LawKit.callS X463 hx (y := Y15) hown463 (mvT hZ463 (tw hw 112 rfl)) (mvT hZ463 (tw hw 113 rfl)) (mvT hZ463 (tw hw 8 rfl)) (mvT hZ463 (tw hw 114 rfl)) (by decide) (backOf (W := 0) (rm_oof l Z a0 hw [] b461 T463.heap n0 Zs464 (Old.keep O0 K463 hws)) hZ463 (tw hw 114 rfl) (tw hw 8 rfl) (by decide) (by decide)) (g := (mkF m 170 (lw0 q1 q2 p1 q3 q4 q5 1 1 u13 u14 u15 uo ue uf un fu nw) [(.ref b461)])) rfl (by rw [hml]; rfl) (argsL := [(.ref b461)]) (rest := []) (lenOf pd_15 rfl) rfl (wle rfl) (hb hby at_170) (fun _ _ => ⟨rfl, rfl, (by decide : 7 + 1 ≤ _), (by decide : 156 + 1 ≤ _)⟩)
        dsimp only [Pt.U, Pt.locs, Pt.cells, Pt.slots] at X465 l465 y465 z465 st465 hQ465
        subst l465 y465 z465
        obtain ⟨w465, rfl, N465q, Kc465, P465_0, P465_1, P465_2⟩ := hQ465
        have N465 := Fr.app N463 N465q
        have E_b461_465 : Exa Z T465.heap b461 cRR := E_b461_463.keep Kc465
        have F_b461_newestTimestamp_465 : Fld Z T465.heap b461 cRR nNT dOL (.ref nw) := F_b461_newestTimestamp_463c.keep Kc465 nin0
        have K465 : Keep h0 T465.heap [] := K463.trans Kc465 all0
        have kle465 : T463.heap.size ≤ T465.heap.size := Nat.le_trans kle463 Kc465.1
        have E_w465_465c : Exa Z T465.heap w465 cOP := P465_1
        have F_w465_value_465c : Fld Z T465.heap w465 cOP "value" dOB (.ref b461) := P465_2
        refine gsW T465 (mkF m 173 (lw0 q1 q2 p1 q3 q4 q5 1 1 u13 u14 u15 uo ue uf un fu nw) [(.ref w465)]) st465 ?_
        refine gsW T465 (mkF m 175 (lw1 q1 q2 p1 q3 q4 q5 1 1 u13 u14 u15 uo ue uf un fu nw w465) []) (fun _ hr => XS.astore X465.here hx rfl (hb hby at_173) rfl rfl (l' := (lw1 q1 q2 p1 q3 q4 q5 1 1 u13 u14 u15 uo ue uf un fu nw w465)) rfl hr) ?_
        refine gsW T465 (mkF m 183 (lw1 q1 q2 p1 q3 q4 q5 1 1 u13 u14 u15 uo ue uf un fu nw w465) []) (fun _ hr => XS.goto X465.here hx rfl (pc0 := 175) (pc' := 183) rfl (hb hby at_175) (by decide) (by decide) hr) ?_
        obtain ⟨T466, h466, X466, e466, E466, A466, D466, -, st466⟩ := newO X465 hx hZ463 hown463 (tw hw 11 rfl) (tw hw 12 rfl) (tw hw 13 rfl) rfl (g := (mkF m 183 (lw1 q1 q2 p1 q3 q4 q5 1 1 u13 u14 u15 uo ue uf un fu nw w465) [])) rfl (hb hby at_183) (by decide) (by decide)
        obtain ⟨b466, g466⟩ : ∃ z, z = T465.heap.size := ⟨_, rfl⟩
        rw [← g466] at A466 D466 st466
        have sz_b466 : h0.size ≤ b466 := Nat.le_trans K465.1 (Nat.le_of_eq g466.symm)
        have ge_b466 : n0 ≤ b466 := Nat.le_trans Z0 sz_b466
        have E_b461_466 : Exa Z h466 b461 cRR := E_b461_465.ext E466
        have F_b461_newestTimestamp_466 : Fld Z h466 b461 cRR nNT dOL (.ref nw) := F_b461_newestTimestamp_465.ext E466
        have E_w465_466 : Exa Z h466 w465 cOP := E_w465_465c.ext E466
        have F_w465_value_466 : Fld Z h466 w465 cOP "value" dOB (.ref b461) := F_w465_value_465c.ext E466
        have K466 : Keep h0 h466 [] := K465.ext E466
        have kle466 : T463.heap.size ≤ h466.size := Nat.le_trans kle465 E466.1
        have F_b466_offset_466 : Fld Z h466 b466 cPL "offset" "J" (.long (0 : Int64)) := D466 (Or.inr (tw hw 38 rfl)) (ty := .long) (by decide)
        have F_b466_end_466 : Fld Z h466 b466 cPL "end" "J" (.long (0 : Int64)) := D466 (Or.inr (tw hw 40 rfl)) (ty := .long) (by decide)
        have F_b466_records_466 : Fld Z h466 b466 cPL "records" dOP .null := D466 (Or.inr (tw hw 42 rfl)) (ty := (.object cOP)) (by decide)
        refine gsW T466 (mkF m 186 (lw1 q1 q2 p1 q3 q4 q5 1 1 u13 u14 u15 uo ue uf un fu nw w465) [(.ref b466)]) st466 ?_
        refine gsW T466 (mkF m 187 (lw1 q1 q2 p1 q3 q4 q5 1 1 u13 u14 u15 uo ue uf un fu nw w465) [(.ref b466), (.ref b466)]) (fun _ hr => XS.dup X466.here hx rfl (hb hby at_186) rfl rfl hr) ?_
        refine gsW T466 (mkF m 189 (lw1 q1 q2 p1 q3 q4 q5 1 1 u13 u14 u15 uo ue uf un fu nw w465) [(.long uo), (.ref b466), (.ref b466)]) (fun _ hr => XT.lload X466.here hx rfl (hb hby at_187) rfl hr) ?_
        refine gsW T466 (mkF m 191 (lw1 q1 q2 p1 q3 q4 q5 1 1 u13 u14 u15 uo ue uf un fu nw w465) [(.long ue), (.long uo), (.ref b466), (.ref b466)]) (fun _ hr => XT.lload X466.here hx rfl (hb hby at_189) rfl hr) ?_
        refine gsW T466 (mkF m 193 (lw1 q1 q2 p1 q3 q4 q5 1 1 u13 u14 u15 uo ue uf un fu nw w465) [(.ref w465), (.long ue), (.long uo), (.ref b466), (.ref b466)]) (fun _ hr => XS.aload X466.here hx rfl (hb hby at_191) rfl rfl hr) ?_
        have Zs467 : n0 ≤ h466.size := Nat.le_trans Z0 K466.1
        obtain ⟨_, _, ⟨T468, L468, k468, n468⟩, -, X468, Sc468, gr468, ⟨Lc468, hQ468, l468, y468, z468⟩, st468⟩ := X466.specialBackS hx (y := Y31) rfl hown463 (mvT hZ463 (tw hw 14 rfl)) (mvT hZ463 (tw hw 15 rfl)) (mvT hZ463 (tw hw 16 rfl)) (by decide) (backOfS (W := 1) (rm_pinit l Z a0 hw [] b466 uo ue w465 h466 n0 Zs467 (Old.keep O0 K466 hws) A466 F_b466_offset_466 F_b466_end_466 F_b466_records_466 ge_b466) hZ463 (tw hw 16 rfl) (tw hw 13 rfl) (by decide) (by decide)) (g := (mkF m 193 (lw1 q1 q2 p1 q3 q4 q5 1 1 u13 u14 u15 uo ue uf un fu nw w465) [(.ref w465), (.long ue), (.long uo), (.ref b466), (.ref b466)])) rfl (by rw [hml]; rfl) (Steps.refl _) (a := b466) (argsL := [(.long uo), (.long ue), (.ref w465)]) (rest := [(.ref b466)]) (lenOf pd_19 rfl) rfl (wle rfl) (hb hby at_193) (fun _ _ => ⟨rfl, e466, (by decide : 9 + 2 ≤ _), (by decide : 160 + 32 ≤ _)⟩)
        dsimp only [Pt.U, Pt.locs, Pt.cells, Pt.slots] at X468 l468 y468 z468 st468 hQ468 Sc468 gr468
        subst l468 y468 z468
        have Sn468 := Sn463.trans Sc468 (Nat.le_trans (show T463.heap.size ≤ T466.heap.size by rw [(e466 : T466.heap = h466)]; exact kle466) gr468)
        have hZ468 : Z.Warmed39 (s.setVm T468.vm).vm := State.Warmed39.trans (t := s.setVm T463.vm) hZ463 Sc468.1
        have hown468 : (s.setVm T468.vm).vm.findClass "com/example/log_lag_gauge/loglaggauge/model/PositionLagTimeLagMsPinLaw" = some m.cls := by rw [show (s.setVm T468.vm).vm = T468.vm from rfl, Sc468.1.alike.findClass]; exact hown463
        have kle468 : T468.heap.size ≤ T468.heap.size := Nat.le_refl _
        obtain ⟨rfl, N468q, Kc468, P468_0, P468_1, P468_2⟩ := hQ468
        have N468 := Fr.app N465 N468q
        have E_b461_468 : Exa Z T468.heap b461 cRR := E_b461_466.keep Kc468
        have F_b461_newestTimestamp_468 : Fld Z T468.heap b461 cRR nNT dOL (.ref nw) := F_b461_newestTimestamp_466.keep Kc468 (ninS (Nat.ne_of_lt (Nat.lt_of_lt_of_le E_b461_465.lt (Nat.le_of_eq g466.symm))) nin0)
        have E_w465_468 : Exa Z T468.heap w465 cOP := E_w465_466.keep Kc468
        have F_w465_value_468 : Fld Z T468.heap w465 cOP "value" dOB (.ref b461) := F_w465_value_466.keep Kc468 (ninS (Nat.ne_of_lt (Nat.lt_of_lt_of_le E_w465_465c.lt (Nat.le_of_eq g466.symm))) nin0)
        have E_b466_468 : Exa Z T468.heap b466 cPL := A466.keep Kc468
        have K468 : Keep h0 T468.heap [] := K466.trans Kc468 (allS (Or.inr sz_b466) all0)
        have F_b466_offset_468c : Fld Z T468.heap b466 cPL "offset" "J" (.long uo) := P468_0
        have F_b466_end_468c : Fld Z T468.heap b466 cPL "end" "J" (.long ue) := P468_1
        have F_b466_records_468c : Fld Z T468.heap b466 cPL "records" dOP (.ref w465) := P468_2
        refine gsW T468 (mkF m 196 (lw1 q1 q2 p1 q3 q4 q5 1 1 u13 u14 u15 uo ue uf un fu nw w465) [(.ref b466)]) (fun _ hr => st468.trans hr) ?_
        refine gsW T468 (mkF m 198 (lw2 q1 q2 p1 q3 q4 q5 1 1 u13 u14 u15 uo ue uf un fu nw w465 b466) []) (fun _ hr => XS.astore X468.here hx rfl (hb hby at_196) rfl rfl (l' := (lw2 q1 q2 p1 q3 q4 q5 1 1 u13 u14 u15 uo ue uf un fu nw w465 b466)) rfl hr) ?_
        refine gsW T468 (mkF m 200 (lw2 q1 q2 p1 q3 q4 q5 1 1 u13 u14 u15 uo ue uf un fu nw w465 b466) [(.ref b466)]) (fun _ hr => XS.aload X468.here hx rfl (hb hby at_198) rfl rfl hr) ?_
        have Zs469 : n0 ≤ T468.heap.size := Nat.le_trans Z0 K468.1
        obtain ⟨cq470, kq470, q470a, q470b, q470c⟩ := isOf hZ468 rfl E_b466_468
        obtain ⟨_, _, ⟨T470, L470, k470, n470⟩, -, X470, ⟨Lc470, hQ470, l470, y470, z470⟩, st470⟩ := X468.virtualBack hx (y := Y30) (z := Y30) hown468 (mvT hZ468 (tw hw 43 rfl)) (mvT hZ468 (tw hw 44 rfl)) (notFace_of_selects (args := #[]) (mvT hZ468 (tw hw 46 rfl))) (mvT hZ468 (tw hw 46 rfl)) (mvT hZ468 (tw hw 45 rfl)) (by decide) (backOf (W := 0) (rm_age_gt l Z a0 hw [] b466 b461 em uo ue nw w465 eo T468.heap n0 Zs469 (Old.keep O0 K468 hws) E_b466_468 F_b466_offset_468c F_b466_end_468c E_b461_468 F_b461_newestTimestamp_468 F_b466_records_468c E_w465_468 F_w465_value_468 S_OptionalLong_EMPTY_old E_em_old F_em_isPresent_old F_em_value_old S_Optional_EMPTY_old E_eo_old F_eo_value_old hgt) hZ468 (tw hw 47 rfl) (tw hw 13 rfl) (by decide) (by decide)) q470a q470c (g := (mkF m 200 (lw2 q1 q2 p1 q3 q4 q5 1 1 u13 u14 u15 uo ue uf un fu nw w465 b466) [(.ref b466)])) rfl (by rw [hml]; rfl) (Steps.refl _) (argsL := []) (rest := []) (lenOf pd_6 rfl) rfl (wle rfl) (hb hby at_200) (fun _ _ => ⟨rfl, rfl, (by decide : 11 + 4 ≤ _), (by decide : 192 + 6 ≤ _)⟩)
        dsimp only [Pt.U, Pt.locs, Pt.cells, Pt.slots] at X470 l470 y470 z470 st470 hQ470
        subst l470 y470 z470
        obtain ⟨rfl, N470q, Kc470⟩ := hQ470
        have N470 := Fr.app N468 N470q
        have K470 : Keep h0 T470.heap [] := K468.trans Kc470 all0
        have kle470 : T468.heap.size ≤ T470.heap.size := Nat.le_trans kle468 Kc470.1
        refine gsW T470 (mkF m 203 (lw2 q1 q2 p1 q3 q4 q5 1 1 u13 u14 u15 uo ue uf un fu nw w465 b466) [(.ref em)]) (fun _ hr => st470.trans hr) ?_
        refine gsW T470 (mkF m 205 (lw3 q1 q2 p1 q3 q4 q5 1 1 u13 u14 u15 uo ue uf un fu nw w465 b466 em) []) (fun _ hr => XS.astore X470.here hx rfl (hb hby at_203) rfl rfl (l' := (lw3 q1 q2 p1 q3 q4 q5 1 1 u13 u14 u15 uo ue uf un fu nw w465 b466 em)) rfl hr) ?_
        refine gsW T470 (mkF m 206 (lw3 q1 q2 p1 q3 q4 q5 1 1 u13 u14 u15 uo ue uf un fu nw w465 b466 em) [(.long (0 : Int64))]) (fun _ hr => XT.lconst X470.here hx rfl (hb hby at_205) hr) ?_
        refine gsW T470 (mkF m 208 (lw4 q1 q2 p1 q3 q4 q5 1 1 u13 u14 u15 uo ue uf un fu nw w465 b466 em (0 : Int64)) []) (fun _ hr => XT.lstore X470.here hx rfl (hb hby at_206) rfl (l' := (lw4 q1 q2 p1 q3 q4 q5 1 1 u13 u14 u15 uo ue uf un fu nw w465 b466 em (0 : Int64))) rfl hr) ?_
        refine gsW T470 (mkF m 210 (lw4 q1 q2 p1 q3 q4 q5 1 1 u13 u14 u15 uo ue uf un fu nw w465 b466 em (0 : Int64)) [(.int (1 : Int32))]) (fun _ hr => XS.iload X470.here hx rfl (hb hby at_208) rfl  hr) ?_
        refine gsW T470 (mkF m 213 (lw4 q1 q2 p1 q3 q4 q5 1 1 u13 u14 u15 uo ue uf un fu nw w465 b466 em (0 : Int64)) []) (fun _ hr => XS.ifNo X470.here hx rfl (hb hby at_210) rfl ((if0 _ _).trans (feq (by decide : ¬ ((1 : Int32) = (0 : Int32)))).1) hr) ?_
        refine gsW T470 (mkF m 215 (lw4 q1 q2 p1 q3 q4 q5 1 1 u13 u14 u15 uo ue uf un fu nw w465 b466 em (0 : Int64)) [(.long uo)]) (fun _ hr => XT.lload X470.here hx rfl (hb hby at_213) rfl hr) ?_
        refine gsW T470 (mkF m 217 (lw4 q1 q2 p1 q3 q4 q5 1 1 u13 u14 u15 uo ue uf un fu nw w465 b466 em (0 : Int64)) [(.long ue), (.long uo)]) (fun _ hr => XT.lload X470.here hx rfl (hb hby at_215) rfl hr) ?_
        refine gsW T470 (mkF m 218 (lw4 q1 q2 p1 q3 q4 q5 1 1 u13 u14 u15 uo ue uf un fu nw w465 b466 em (0 : Int64)) [(.int (XT.cmpL uo ue))]) (fun _ hr => XT.lcmp X470.here hx rfl (hb hby at_217) rfl hr) ?_
        refine gsW T470 (mkF m 221 (lw4 q1 q2 p1 q3 q4 q5 1 1 u13 u14 u15 uo ue uf un fu nw w465 b466 em (0 : Int64)) []) (fun _ hr => XS.ifNo X470.here hx rfl (hb hby at_218) rfl ((if0 _ _).trans (tlt (hgt : (0 : Int32) < (XT.cmpL uo ue))).2.2.2) hr) ?_
        refine gsW T470 (mkF m 222 (lw4 q1 q2 p1 q3 q4 q5 1 1 u13 u14 u15 uo ue uf un fu nw w465 b466 em (0 : Int64)) [(.int (1 : Int32))]) (fun _ hr => XS.iconst X470.here hx rfl (hb hby at_221) hr) ?_
        refine gsW T470 (mkF m 224 (lw5 q1 q2 p1 q3 q4 q5 1 1 u13 u14 u15 uo ue uf un fu nw w465 b466 em 1 (0 : Int64)) []) (fun _ hr => XS.istore X470.here hx rfl (hb hby at_222) rfl (l' := (lw5 q1 q2 p1 q3 q4 q5 1 1 u13 u14 u15 uo ue uf un fu nw w465 b466 em 1 (0 : Int64))) rfl hr) ?_
        refine gsW T470 (mkF m 268 (lw5 q1 q2 p1 q3 q4 q5 1 1 u13 u14 u15 uo ue uf un fu nw w465 b466 em 1 (0 : Int64)) []) (fun _ hr => XS.goto X470.here hx rfl (pc0 := 224) (pc' := 268) rfl (hb hby at_224) (by decide) (by decide) hr) ?_
        refine gsW T470 (mkF m 270 (lw5 q1 q2 p1 q3 q4 q5 1 1 u13 u14 u15 uo ue uf un fu nw w465 b466 em 1 (0 : Int64)) [(.int (1 : Int32))]) (fun _ hr => XS.iload X470.here hx rfl (hb hby at_268) rfl  hr) ?_
        refine gsW T470 (mkF m 273 (lw5 q1 q2 p1 q3 q4 q5 1 1 u13 u14 u15 uo ue uf un fu nw w465 b466 em 1 (0 : Int64)) []) (fun _ hr => XS.ifNo X470.here hx rfl (hb hby at_270) rfl ((if0 _ _).trans (feq (by decide : ¬ ((1 : Int32) = (0 : Int32)))).1) hr) ?_
        refine gsW T470 (mkF m 275 (lw5 q1 q2 p1 q3 q4 q5 1 1 u13 u14 u15 uo ue uf un fu nw w465 b466 em 1 (0 : Int64)) [(.ref em)]) (fun _ hr => XS.aload X470.here hx rfl (hb hby at_273) rfl rfl hr) ?_
        have Zs471 : n0 ≤ T470.heap.size := Nat.le_trans Z0 K470.1
        obtain ⟨cq472, kq472, q472a, q472b, q472c⟩ := isOf hZ468 rfl (E_em_old.ext (Old.keep O0 K470 hws).2)
        obtain ⟨_, _, ⟨T472, L472, k472, n472⟩, -, X472, ⟨Lc472, hQ472, l472, y472, z472⟩, st472⟩ := X470.virtualBack hx (y := Y6) (z := Y6) hown468 (mvT hZ468 (tw hw 76 rfl)) (mvT hZ468 (tw hw 77 rfl)) (notFace_of_selects (args := #[]) (mvT hZ468 (tw hw 79 rfl))) (mvT hZ468 (tw hw 79 rfl)) (mvT hZ468 (tw hw 78 rfl)) (by decide) (backOf (W := 0) (rm_ole0 l Z a0 hw [] em T470.heap n0 Zs471 (Old.keep O0 K470 hws) (F_em_isPresent_old.ext (Old.keep O0 K470 hws).2)) hZ468 (tw hw 80 rfl) (tw hw 3 rfl) (by decide) (by decide)) q472a q472c (g := (mkF m 275 (lw5 q1 q2 p1 q3 q4 q5 1 1 u13 u14 u15 uo ue uf un fu nw w465 b466 em 1 (0 : Int64)) [(.ref em)])) rfl (by rw [hml]; rfl) (Steps.refl _) (argsL := []) (rest := []) (lenOf pd_1 rfl) rfl (wle rfl) (hb hby at_275) (fun _ _ => ⟨rfl, rfl, (by decide : 15 + 0 ≤ _), (by decide : 198 + 0 ≤ _)⟩)
        dsimp only [Pt.U, Pt.locs, Pt.cells, Pt.slots] at X472 l472 y472 z472 st472 hQ472
        subst l472 y472 z472
        obtain ⟨rfl, N472q, e472⟩ := hQ472
        have N472 := Fr.app N470 N472q
        refine gsW T472 (mkF m 278 (lw5 q1 q2 p1 q3 q4 q5 1 1 u13 u14 u15 uo ue uf un fu nw w465 b466 em 1 (0 : Int64)) [(.int (1 : Int32))]) (fun _ hr => st472.trans hr) ?_
        exact GoesW.ret (v := some (.int (1 : Int32))) X472 Sn468 (by rw [e472]; exact kle470) (by decide) (by decide) (fun h => by rw [Bd.returns] at h; cases h) ⟨rfl, N472⟩ (fun fs hr => retN X472 hx (t := .boolean) Bd.returns (by simp) (hb hby at_278) hr)
      · refine gsW Tg (mkF m 155 (lw0 q1 q2 p1 q3 q4 q5 1 1 u13 u14 u15 uo ue uf un fu nw) []) (fun _ hr => XS.ifNo Xg.here hx rfl (hb hby at_152) rfl ((if0 _ _).trans (feq (by decide : ¬ ((1 : Int32) = (0 : Int32)))).1) hr) ?_
        obtain ⟨T473, h473, X473, e473, E473, A473, D473, -, st473⟩ := newO Xg hx hZ hown (tw hw 94 rfl) (tw hw 95 rfl) (tw hw 96 rfl) eg (g := (mkF m 155 (lw0 q1 q2 p1 q3 q4 q5 1 1 u13 u14 u15 uo ue uf un fu nw) [])) rfl (hb hby at_155) (by decide) (by decide)
        obtain ⟨b473, g473⟩ : ∃ z, z = hg.size := ⟨_, rfl⟩
        rw [← g473] at A473 D473 st473
        have sz_b473 : h0.size ≤ b473 := Nat.le_trans Kg.1 (Nat.le_of_eq g473.symm)
        have ge_b473 : n0 ≤ b473 := Nat.le_trans Z0 sz_b473
        have K473 : Keep h0 h473 [] := Kg.ext E473
        have kle473 : 0 ≤ h473.size := Nat.le_trans kleg E473.1
        have F_b473_onlyMarkersLeft_473 : Fld Z h473 b473 cRR nOM "Z" (.int (0 : Int32)) := D473 (Or.inr (tw hw 105 rfl)) (ty := .boolean) (by decide)
        have F_b473_firstUnreadTimestamp_473 : Fld Z h473 b473 cRR nLT dOL .null := D473 (Or.inr (tw hw 107 rfl)) (ty := (.object cOL)) (by decide)
        have F_b473_newestTimestamp_473 : Fld Z h473 b473 cRR nNT dOL .null := D473 (Or.inr (tw hw 109 rfl)) (ty := (.object cOL)) (by decide)
        have F_b473_lookedAt_473 : Fld Z h473 b473 cRR "lookedAt" "J" (.long (0 : Int64)) := D473 (Or.inr (tw hw 111 rfl)) (ty := .long) (by decide)
        refine gsW T473 (mkF m 158 (lw0 q1 q2 p1 q3 q4 q5 1 1 u13 u14 u15 uo ue uf un fu nw) [(.ref b473)]) st473 ?_
        refine gsW T473 (mkF m 159 (lw0 q1 q2 p1 q3 q4 q5 1 1 u13 u14 u15 uo ue uf un fu nw) [(.ref b473), (.ref b473)]) (fun _ hr => XS.dup X473.here hx rfl (hb hby at_158) rfl rfl hr) ?_
        refine gsW T473 (mkF m 161 (lw0 q1 q2 p1 q3 q4 q5 1 1 u13 u14 u15 uo ue uf un fu nw) [(.int (1 : Int32)), (.ref b473), (.ref b473)]) (fun _ hr => XS.iload X473.here hx rfl (hb hby at_159) rfl  hr) ?_
        refine gsW T473 (mkF m 163 (lw0 q1 q2 p1 q3 q4 q5 1 1 u13 u14 u15 uo ue uf un fu nw) [(.ref fu), (.int (1 : Int32)), (.ref b473), (.ref b473)]) (fun _ hr => XS.aload X473.here hx rfl (hb hby at_161) rfl rfl hr) ?_
        refine gsW T473 (mkF m 165 (lw0 q1 q2 p1 q3 q4 q5 1 1 u13 u14 u15 uo ue uf un fu nw) [(.ref nw), (.ref fu), (.int (1 : Int32)), (.ref b473), (.ref b473)]) (fun _ hr => XS.aload X473.here hx rfl (hb hby at_163) rfl rfl hr) ?_
        refine gsW T473 (mkF m 167 (lw0 q1 q2 p1 q3 q4 q5 1 1 u13 u14 u15 uo ue uf un fu nw) [(.long q5), (.ref nw), (.ref fu), (.int (1 : Int32)), (.ref b473), (.ref b473)]) (fun _ hr => XT.lload X473.here hx rfl (hb hby at_165) rfl hr) ?_
        have Zs474 : n0 ≤ h473.size := Nat.le_trans Z0 K473.1
        obtain ⟨_, _, ⟨T475, L475, k475, n475⟩, -, X475, Sc475, gr475, ⟨Lc475, hQ475, l475, y475, z475⟩, st475⟩ := X473.specialBackS hx (y := Y32) rfl hown (mvT hZ (tw hw 97 rfl)) (mvT hZ (tw hw 98 rfl)) (mvT hZ (tw hw 99 rfl)) (by decide) (backOfS (W := 1) (rm_rinit1 l Z a0 hw [] b473 fu nw q5 h473 n0 Zs474 (Old.keep O0 K473 hws) A473 F_b473_onlyMarkersLeft_473 F_b473_firstUnreadTimestamp_473 F_b473_newestTimestamp_473 F_b473_lookedAt_473 ge_b473) hZ (tw hw 99 rfl) (tw hw 96 rfl) (by decide) (by decide)) (g := (mkF m 167 (lw0 q1 q2 p1 q3 q4 q5 1 1 u13 u14 u15 uo ue uf un fu nw) [(.long q5), (.ref nw), (.ref fu), (.int (1 : Int32)), (.ref b473), (.ref b473)])) rfl (by rw [hml]; rfl) (Steps.refl _) (a := b473) (argsL := [(.int (1 : Int32)), (.ref fu), (.ref nw), (.long q5)]) (rest := [(.ref b473)]) (lenOf pd_20 rfl) rfl (wle rfl) (hb hby at_167) (fun _ _ => ⟨rfl, e473, (by decide : 3 + 4 ≤ _), (by decide : 8 + 148 ≤ _)⟩)
        dsimp only [Pt.U, Pt.locs, Pt.cells, Pt.slots] at X475 l475 y475 z475 st475 hQ475 Sc475 gr475
        subst l475 y475 z475
        have Sn475 := Sn0.trans Sc475 (Nat.le_trans (show 0 ≤ T473.heap.size by rw [(e473 : T473.heap = h473)]; exact kle473) gr475)
        have hZ475 : Z.Warmed39 (s.setVm T475.vm).vm := State.Warmed39.trans (t := s.setVm s.vm) hZ Sc475.1
        have hown475 : (s.setVm T475.vm).vm.findClass "com/example/log_lag_gauge/loglaggauge/model/PositionLagTimeLagMsPinLaw" = some m.cls := by rw [show (s.setVm T475.vm).vm = T475.vm from rfl, Sc475.1.alike.findClass]; exact hown
        have kle475 : T475.heap.size ≤ T475.heap.size := Nat.le_refl _
        obtain ⟨rfl, N475q, Kc475, P475_0, P475_1, P475_2, P475_3⟩ := hQ475
        have N475 := Fr.app Ng N475q
        have E_b473_475 : Exa Z T475.heap b473 cRR := A473.keep Kc475
        have K475 : Keep h0 T475.heap [] := K473.trans Kc475 (allS (Or.inr sz_b473) all0)
        have F_b473_onlyMarkersLeft_475c : Fld Z T475.heap b473 cRR nOM "Z" (.int (1 : Int32)) := P475_0
        have F_b473_newestTimestamp_475c : Fld Z T475.heap b473 cRR nNT dOL (.ref nw) := P475_2
        refine gsW T475 (mkF m 170 (lw0 q1 q2 p1 q3 q4 q5 1 1 u13 u14 u15 uo ue uf un fu nw) [(.ref b473)]) (fun _ hr => st475.trans hr) ?_
        have Zs476 : n0 ≤ T475.heap.size := Nat.le_trans Z0 K475.1
        obtain ⟨_, _, ⟨T477, L477, k477, n477⟩, -, X477, ⟨Lc477, hQ477, l477, y477, z477⟩, st477⟩ := LawKit.callS X475 hx (y := Y15) hown475 (mvT hZ475 (tw hw 112 rfl)) (mvT hZ475 (tw hw 113 rfl)) (mvT hZ475 (tw hw 8 rfl)) (mvT hZ475 (tw hw 114 rfl)) (by decide) (backOf (W := 0) (rm_oof l Z a0 hw [] b473 T475.heap n0 Zs476 (Old.keep O0 K475 hws)) hZ475 (tw hw 114 rfl) (tw hw 8 rfl) (by decide) (by decide)) (g := (mkF m 170 (lw0 q1 q2 p1 q3 q4 q5 1 1 u13 u14 u15 uo ue uf un fu nw) [(.ref b473)])) rfl (by rw [hml]; rfl) (argsL := [(.ref b473)]) (rest := []) (lenOf pd_15 rfl) rfl (wle rfl) (hb hby at_170) (fun _ _ => ⟨rfl, rfl, (by decide : 7 + 1 ≤ _), (by decide : 156 + 1 ≤ _)⟩)
        dsimp only [Pt.U, Pt.locs, Pt.cells, Pt.slots] at X477 l477 y477 z477 st477 hQ477
        subst l477 y477 z477
        obtain ⟨w477, rfl, N477q, Kc477, P477_0, P477_1, P477_2⟩ := hQ477
        have N477 := Fr.app N475 N477q
        have E_b473_477 : Exa Z T477.heap b473 cRR := E_b473_475.keep Kc477
        have F_b473_onlyMarkersLeft_477 : Fld Z T477.heap b473 cRR nOM "Z" (.int (1 : Int32)) := F_b473_onlyMarkersLeft_475c.keep Kc477 nin0
        have F_b473_newestTimestamp_477 : Fld Z T477.heap b473 cRR nNT dOL (.ref nw) := F_b473_newestTimestamp_475c.keep Kc477 nin0
        have K477 : Keep h0 T477.heap [] := K475.trans Kc477 all0
        have kle477 : T475.heap.size ≤ T477.heap.size := Nat.le_trans kle475 Kc477.1
        have E_w477_477c : Exa Z T477.heap w477 cOP := P477_1
        have F_w477_value_477c : Fld Z T477.heap w477 cOP "value" dOB (.ref b473) := P477_2
        refine gsW T477 (mkF m 173 (lw0 q1 q2 p1 q3 q4 q5 1 1 u13 u14 u15 uo ue uf un fu nw) [(.ref w477)]) st477 ?_
        refine gsW T477 (mkF m 175 (lw1 q1 q2 p1 q3 q4 q5 1 1 u13 u14 u15 uo ue uf un fu nw w477) []) (fun _ hr => XS.astore X477.here hx rfl (hb hby at_173) rfl rfl (l' := (lw1 q1 q2 p1 q3 q4 q5 1 1 u13 u14 u15 uo ue uf un fu nw w477)) rfl hr) ?_
        refine gsW T477 (mkF m 183 (lw1 q1 q2 p1 q3 q4 q5 1 1 u13 u14 u15 uo ue uf un fu nw w477) []) (fun _ hr => XS.goto X477.here hx rfl (pc0 := 175) (pc' := 183) rfl (hb hby at_175) (by decide) (by decide) hr) ?_
        obtain ⟨T478, h478, X478, e478, E478, A478, D478, -, st478⟩ := newO X477 hx hZ475 hown475 (tw hw 11 rfl) (tw hw 12 rfl) (tw hw 13 rfl) rfl (g := (mkF m 183 (lw1 q1 q2 p1 q3 q4 q5 1 1 u13 u14 u15 uo ue uf un fu nw w477) [])) rfl (hb hby at_183) (by decide) (by decide)
        obtain ⟨b478, g478⟩ : ∃ z, z = T477.heap.size := ⟨_, rfl⟩
        rw [← g478] at A478 D478 st478
        have sz_b478 : h0.size ≤ b478 := Nat.le_trans K477.1 (Nat.le_of_eq g478.symm)
        have ge_b478 : n0 ≤ b478 := Nat.le_trans Z0 sz_b478
        have E_b473_478 : Exa Z h478 b473 cRR := E_b473_477.ext E478
        have F_b473_onlyMarkersLeft_478 : Fld Z h478 b473 cRR nOM "Z" (.int (1 : Int32)) := F_b473_onlyMarkersLeft_477.ext E478
        have F_b473_newestTimestamp_478 : Fld Z h478 b473 cRR nNT dOL (.ref nw) := F_b473_newestTimestamp_477.ext E478
        have E_w477_478 : Exa Z h478 w477 cOP := E_w477_477c.ext E478
        have F_w477_value_478 : Fld Z h478 w477 cOP "value" dOB (.ref b473) := F_w477_value_477c.ext E478
        have K478 : Keep h0 h478 [] := K477.ext E478
        have kle478 : T475.heap.size ≤ h478.size := Nat.le_trans kle477 E478.1
        have F_b478_offset_478 : Fld Z h478 b478 cPL "offset" "J" (.long (0 : Int64)) := D478 (Or.inr (tw hw 38 rfl)) (ty := .long) (by decide)
        have F_b478_end_478 : Fld Z h478 b478 cPL "end" "J" (.long (0 : Int64)) := D478 (Or.inr (tw hw 40 rfl)) (ty := .long) (by decide)
        have F_b478_records_478 : Fld Z h478 b478 cPL "records" dOP .null := D478 (Or.inr (tw hw 42 rfl)) (ty := (.object cOP)) (by decide)
        refine gsW T478 (mkF m 186 (lw1 q1 q2 p1 q3 q4 q5 1 1 u13 u14 u15 uo ue uf un fu nw w477) [(.ref b478)]) st478 ?_
        refine gsW T478 (mkF m 187 (lw1 q1 q2 p1 q3 q4 q5 1 1 u13 u14 u15 uo ue uf un fu nw w477) [(.ref b478), (.ref b478)]) (fun _ hr => XS.dup X478.here hx rfl (hb hby at_186) rfl rfl hr) ?_
        refine gsW T478 (mkF m 189 (lw1 q1 q2 p1 q3 q4 q5 1 1 u13 u14 u15 uo ue uf un fu nw w477) [(.long uo), (.ref b478), (.ref b478)]) (fun _ hr => XT.lload X478.here hx rfl (hb hby at_187) rfl hr) ?_
        refine gsW T478 (mkF m 191 (lw1 q1 q2 p1 q3 q4 q5 1 1 u13 u14 u15 uo ue uf un fu nw w477) [(.long ue), (.long uo), (.ref b478), (.ref b478)]) (fun _ hr => XT.lload X478.here hx rfl (hb hby at_189) rfl hr) ?_
        refine gsW T478 (mkF m 193 (lw1 q1 q2 p1 q3 q4 q5 1 1 u13 u14 u15 uo ue uf un fu nw w477) [(.ref w477), (.long ue), (.long uo), (.ref b478), (.ref b478)]) (fun _ hr => XS.aload X478.here hx rfl (hb hby at_191) rfl rfl hr) ?_
        have Zs479 : n0 ≤ h478.size := Nat.le_trans Z0 K478.1
        obtain ⟨_, _, ⟨T480, L480, k480, n480⟩, -, X480, Sc480, gr480, ⟨Lc480, hQ480, l480, y480, z480⟩, st480⟩ := X478.specialBackS hx (y := Y31) rfl hown475 (mvT hZ475 (tw hw 14 rfl)) (mvT hZ475 (tw hw 15 rfl)) (mvT hZ475 (tw hw 16 rfl)) (by decide) (backOfS (W := 1) (rm_pinit l Z a0 hw [] b478 uo ue w477 h478 n0 Zs479 (Old.keep O0 K478 hws) A478 F_b478_offset_478 F_b478_end_478 F_b478_records_478 ge_b478) hZ475 (tw hw 16 rfl) (tw hw 13 rfl) (by decide) (by decide)) (g := (mkF m 193 (lw1 q1 q2 p1 q3 q4 q5 1 1 u13 u14 u15 uo ue uf un fu nw w477) [(.ref w477), (.long ue), (.long uo), (.ref b478), (.ref b478)])) rfl (by rw [hml]; rfl) (Steps.refl _) (a := b478) (argsL := [(.long uo), (.long ue), (.ref w477)]) (rest := [(.ref b478)]) (lenOf pd_19 rfl) rfl (wle rfl) (hb hby at_193) (fun _ _ => ⟨rfl, e478, (by decide : 9 + 2 ≤ _), (by decide : 160 + 32 ≤ _)⟩)
        dsimp only [Pt.U, Pt.locs, Pt.cells, Pt.slots] at X480 l480 y480 z480 st480 hQ480 Sc480 gr480
        subst l480 y480 z480
        have Sn480 := Sn475.trans Sc480 (Nat.le_trans (show T475.heap.size ≤ T478.heap.size by rw [(e478 : T478.heap = h478)]; exact kle478) gr480)
        have hZ480 : Z.Warmed39 (s.setVm T480.vm).vm := State.Warmed39.trans (t := s.setVm T475.vm) hZ475 Sc480.1
        have hown480 : (s.setVm T480.vm).vm.findClass "com/example/log_lag_gauge/loglaggauge/model/PositionLagTimeLagMsPinLaw" = some m.cls := by rw [show (s.setVm T480.vm).vm = T480.vm from rfl, Sc480.1.alike.findClass]; exact hown475
        have kle480 : T480.heap.size ≤ T480.heap.size := Nat.le_refl _
        obtain ⟨rfl, N480q, Kc480, P480_0, P480_1, P480_2⟩ := hQ480
        have N480 := Fr.app N477 N480q
        have E_b473_480 : Exa Z T480.heap b473 cRR := E_b473_478.keep Kc480
        have F_b473_onlyMarkersLeft_480 : Fld Z T480.heap b473 cRR nOM "Z" (.int (1 : Int32)) := F_b473_onlyMarkersLeft_478.keep Kc480 (ninS (Nat.ne_of_lt (Nat.lt_of_lt_of_le E_b473_477.lt (Nat.le_of_eq g478.symm))) nin0)
        have F_b473_newestTimestamp_480 : Fld Z T480.heap b473 cRR nNT dOL (.ref nw) := F_b473_newestTimestamp_478.keep Kc480 (ninS (Nat.ne_of_lt (Nat.lt_of_lt_of_le E_b473_477.lt (Nat.le_of_eq g478.symm))) nin0)
        have E_w477_480 : Exa Z T480.heap w477 cOP := E_w477_478.keep Kc480
        have F_w477_value_480 : Fld Z T480.heap w477 cOP "value" dOB (.ref b473) := F_w477_value_478.keep Kc480 (ninS (Nat.ne_of_lt (Nat.lt_of_lt_of_le E_w477_477c.lt (Nat.le_of_eq g478.symm))) nin0)
        have E_b478_480 : Exa Z T480.heap b478 cPL := A478.keep Kc480
        have K480 : Keep h0 T480.heap [] := K478.trans Kc480 (allS (Or.inr sz_b478) all0)
        have F_b478_offset_480c : Fld Z T480.heap b478 cPL "offset" "J" (.long uo) := P480_0
        have F_b478_end_480c : Fld Z T480.heap b478 cPL "end" "J" (.long ue) := P480_1
        have F_b478_records_480c : Fld Z T480.heap b478 cPL "records" dOP (.ref w477) := P480_2
        refine gsW T480 (mkF m 196 (lw1 q1 q2 p1 q3 q4 q5 1 1 u13 u14 u15 uo ue uf un fu nw w477) [(.ref b478)]) (fun _ hr => st480.trans hr) ?_
        refine gsW T480 (mkF m 198 (lw2 q1 q2 p1 q3 q4 q5 1 1 u13 u14 u15 uo ue uf un fu nw w477 b478) []) (fun _ hr => XS.astore X480.here hx rfl (hb hby at_196) rfl rfl (l' := (lw2 q1 q2 p1 q3 q4 q5 1 1 u13 u14 u15 uo ue uf un fu nw w477 b478)) rfl hr) ?_
        refine gsW T480 (mkF m 200 (lw2 q1 q2 p1 q3 q4 q5 1 1 u13 u14 u15 uo ue uf un fu nw w477 b478) [(.ref b478)]) (fun _ hr => XS.aload X480.here hx rfl (hb hby at_198) rfl rfl hr) ?_
        have Zs481 : n0 ≤ T480.heap.size := Nat.le_trans Z0 K480.1
        obtain ⟨cq482, kq482, q482a, q482b, q482c⟩ := isOf hZ480 rfl E_b478_480
        obtain ⟨_, _, ⟨T482, L482, k482, n482⟩, -, X482, ⟨Lc482, hQ482, l482, y482, z482⟩, st482⟩ := X480.virtualBack hx (y := Y30) (z := Y30) hown480 (mvT hZ480 (tw hw 43 rfl)) (mvT hZ480 (tw hw 44 rfl)) (notFace_of_selects (args := #[]) (mvT hZ480 (tw hw 46 rfl))) (mvT hZ480 (tw hw 46 rfl)) (mvT hZ480 (tw hw 45 rfl)) (by decide) (backOf (W := 0) (rm_age_z1 l Z a0 hw [] b478 b473 em uo ue w477 eo nw T480.heap n0 Zs481 (Old.keep O0 K480 hws) E_b478_480 F_b478_offset_480c F_b478_end_480c F_b478_records_480c E_w477_480 F_w477_value_480 E_b473_480 F_b473_onlyMarkersLeft_480 F_b473_newestTimestamp_480 S_OptionalLong_EMPTY_old E_em_old F_em_isPresent_old F_em_value_old S_Optional_EMPTY_old E_eo_old F_eo_value_old hle) hZ480 (tw hw 47 rfl) (tw hw 13 rfl) (by decide) (by decide)) q482a q482c (g := (mkF m 200 (lw2 q1 q2 p1 q3 q4 q5 1 1 u13 u14 u15 uo ue uf un fu nw w477 b478) [(.ref b478)])) rfl (by rw [hml]; rfl) (Steps.refl _) (argsL := []) (rest := []) (lenOf pd_6 rfl) rfl (wle rfl) (hb hby at_200) (fun _ _ => ⟨rfl, rfl, (by decide : 11 + 7 ≤ _), (by decide : 192 + 12 ≤ _)⟩)
        dsimp only [Pt.U, Pt.locs, Pt.cells, Pt.slots] at X482 l482 y482 z482 st482 hQ482
        subst l482 y482 z482
        obtain ⟨w482, rfl, N482q, Kc482, P482_0, P482_1, P482_2, P482_3⟩ := hQ482
        have N482 := Fr.app N480 N482q
        have K482 : Keep h0 T482.heap [] := K480.trans Kc482 all0
        have kle482 : T480.heap.size ≤ T482.heap.size := Nat.le_trans kle480 Kc482.1
        have E_w482_482c : Exa Z T482.heap w482 cOL := P482_1
        have F_w482_isPresent_482c : Fld Z T482.heap w482 cOL nIP "Z" (.int (1 : Int32)) := P482_2
        have F_w482_value_482c : Fld Z T482.heap w482 cOL "value" "J" (.long (0 : Int64)) := P482_3
        refine gsW T482 (mkF m 203 (lw2 q1 q2 p1 q3 q4 q5 1 1 u13 u14 u15 uo ue uf un fu nw w477 b478) [(.ref w482)]) (fun _ hr => st482.trans hr) ?_
        refine gsW T482 (mkF m 205 (lw3 q1 q2 p1 q3 q4 q5 1 1 u13 u14 u15 uo ue uf un fu nw w477 b478 w482) []) (fun _ hr => XS.astore X482.here hx rfl (hb hby at_203) rfl rfl (l' := (lw3 q1 q2 p1 q3 q4 q5 1 1 u13 u14 u15 uo ue uf un fu nw w477 b478 w482)) rfl hr) ?_
        refine gsW T482 (mkF m 206 (lw3 q1 q2 p1 q3 q4 q5 1 1 u13 u14 u15 uo ue uf un fu nw w477 b478 w482) [(.long (0 : Int64))]) (fun _ hr => XT.lconst X482.here hx rfl (hb hby at_205) hr) ?_
        refine gsW T482 (mkF m 208 (lw4 q1 q2 p1 q3 q4 q5 1 1 u13 u14 u15 uo ue uf un fu nw w477 b478 w482 (0 : Int64)) []) (fun _ hr => XT.lstore X482.here hx rfl (hb hby at_206) rfl (l' := (lw4 q1 q2 p1 q3 q4 q5 1 1 u13 u14 u15 uo ue uf un fu nw w477 b478 w482 (0 : Int64))) rfl hr) ?_
        refine gsW T482 (mkF m 210 (lw4 q1 q2 p1 q3 q4 q5 1 1 u13 u14 u15 uo ue uf un fu nw w477 b478 w482 (0 : Int64)) [(.int (1 : Int32))]) (fun _ hr => XS.iload X482.here hx rfl (hb hby at_208) rfl  hr) ?_
        refine gsW T482 (mkF m 213 (lw4 q1 q2 p1 q3 q4 q5 1 1 u13 u14 u15 uo ue uf un fu nw w477 b478 w482 (0 : Int64)) []) (fun _ hr => XS.ifNo X482.here hx rfl (hb hby at_210) rfl ((if0 _ _).trans (feq (by decide : ¬ ((1 : Int32) = (0 : Int32)))).1) hr) ?_
        refine gsW T482 (mkF m 215 (lw4 q1 q2 p1 q3 q4 q5 1 1 u13 u14 u15 uo ue uf un fu nw w477 b478 w482 (0 : Int64)) [(.long uo)]) (fun _ hr => XT.lload X482.here hx rfl (hb hby at_213) rfl hr) ?_
        refine gsW T482 (mkF m 217 (lw4 q1 q2 p1 q3 q4 q5 1 1 u13 u14 u15 uo ue uf un fu nw w477 b478 w482 (0 : Int64)) [(.long ue), (.long uo)]) (fun _ hr => XT.lload X482.here hx rfl (hb hby at_215) rfl hr) ?_
        refine gsW T482 (mkF m 218 (lw4 q1 q2 p1 q3 q4 q5 1 1 u13 u14 u15 uo ue uf un fu nw w477 b478 w482 (0 : Int64)) [(.int (XT.cmpL uo ue))]) (fun _ hr => XT.lcmp X482.here hx rfl (hb hby at_217) rfl hr) ?_
        refine gsW T482 (mkF m 227 (lw4 q1 q2 p1 q3 q4 q5 1 1 u13 u14 u15 uo ue uf un fu nw w477 b478 w482 (0 : Int64)) []) (fun _ hr => XS.ifYes X482.here hx rfl (pc0 := 218) (pc' := 227) rfl (hb hby at_218) rfl ((if0 _ _).trans (flt (hle : ¬ ((0 : Int32) < (XT.cmpL uo ue)))).2.2.2) (by decide) (by decide) hr) ?_
        refine gsW T482 (mkF m 228 (lw4 q1 q2 p1 q3 q4 q5 1 1 u13 u14 u15 uo ue uf un fu nw w477 b478 w482 (0 : Int64)) [(.int (0 : Int32))]) (fun _ hr => XS.iconst X482.here hx rfl (hb hby at_227) hr) ?_
        refine gsW T482 (mkF m 230 (lw5 q1 q2 p1 q3 q4 q5 1 1 u13 u14 u15 uo ue uf un fu nw w477 b478 w482 0 (0 : Int64)) []) (fun _ hr => XS.istore X482.here hx rfl (hb hby at_228) rfl (l' := (lw5 q1 q2 p1 q3 q4 q5 1 1 u13 u14 u15 uo ue uf un fu nw w477 b478 w482 0 (0 : Int64))) rfl hr) ?_
        refine gsW T482 (mkF m 232 (lw5 q1 q2 p1 q3 q4 q5 1 1 u13 u14 u15 uo ue uf un fu nw w477 b478 w482 0 (0 : Int64)) [(.long uo)]) (fun _ hr => XT.lload X482.here hx rfl (hb hby at_230) rfl hr) ?_
        refine gsW T482 (mkF m 234 (lw5 q1 q2 p1 q3 q4 q5 1 1 u13 u14 u15 uo ue uf un fu nw w477 b478 w482 0 (0 : Int64)) [(.long ue), (.long uo)]) (fun _ hr => XT.lload X482.here hx rfl (hb hby at_232) rfl hr) ?_
        refine gsW T482 (mkF m 235 (lw5 q1 q2 p1 q3 q4 q5 1 1 u13 u14 u15 uo ue uf un fu nw w477 b478 w482 0 (0 : Int64)) [(.int (XT.cmpL uo ue))]) (fun _ hr => XT.lcmp X482.here hx rfl (hb hby at_234) rfl hr) ?_
        by_cases hc235_483 : (XT.cmpL uo ue) < (0 : Int32)
        · refine gsW T482 (mkF m 238 (lw5 q1 q2 p1 q3 q4 q5 1 1 u13 u14 u15 uo ue uf un fu nw w477 b478 w482 0 (0 : Int64)) []) (fun _ hr => XS.ifNo X482.here hx rfl (hb hby at_235) rfl ((if0 _ _).trans (tlt hc235_483).2.1) hr) ?_
          refine gsW T482 (mkF m 240 (lw5 q1 q2 p1 q3 q4 q5 1 1 u13 u14 u15 uo ue uf un fu nw w477 b478 w482 0 (0 : Int64)) [(.int (1 : Int32))]) (fun _ hr => XS.iload X482.here hx rfl (hb hby at_238) rfl  hr) ?_
          refine gsW T482 (mkF m 268 (lw5 q1 q2 p1 q3 q4 q5 1 1 u13 u14 u15 uo ue uf un fu nw w477 b478 w482 0 (0 : Int64)) []) (fun _ hr => XS.ifYes X482.here hx rfl (pc0 := 240) (pc' := 268) rfl (hb hby at_240) rfl ((if0 _ _).trans (feq (by decide : ¬ ((1 : Int32) = (0 : Int32)))).2) (by decide) (by decide) hr) ?_
          refine gsW T482 (mkF m 270 (lw5 q1 q2 p1 q3 q4 q5 1 1 u13 u14 u15 uo ue uf un fu nw w477 b478 w482 0 (0 : Int64)) [(.int (0 : Int32))]) (fun _ hr => XS.iload X482.here hx rfl (hb hby at_268) rfl  hr) ?_
          refine gsW T482 (mkF m 279 (lw5 q1 q2 p1 q3 q4 q5 1 1 u13 u14 u15 uo ue uf un fu nw w477 b478 w482 0 (0 : Int64)) []) (fun _ hr => XS.ifYes X482.here hx rfl (pc0 := 270) (pc' := 279) rfl (hb hby at_270) rfl ((if0 _ _).trans (teq (by decide : (0 : Int32) = (0 : Int32))).1) (by decide) (by decide) hr) ?_
          refine gsW T482 (mkF m 281 (lw5 q1 q2 p1 q3 q4 q5 1 1 u13 u14 u15 uo ue uf un fu nw w477 b478 w482 0 (0 : Int64)) [(.ref w482)]) (fun _ hr => XS.aload X482.here hx rfl (hb hby at_279) rfl rfl hr) ?_
          have Zs484 : n0 ≤ T482.heap.size := Nat.le_trans Z0 K482.1
          obtain ⟨cq485, kq485, q485a, q485b, q485c⟩ := isOf hZ480 rfl E_w482_482c
          obtain ⟨_, _, ⟨T485, L485, k485, n485⟩, -, X485, ⟨Lc485, hQ485, l485, y485, z485⟩, st485⟩ := X482.virtualBack hx (y := Y5) (z := Y5) hown480 (mvT hZ480 (tw hw 185 rfl)) (mvT hZ480 (tw hw 156 rfl)) (notFace_of_selects (args := #[]) (mvT hZ480 (tw hw 158 rfl))) (mvT hZ480 (tw hw 158 rfl)) (mvT hZ480 (tw hw 157 rfl)) (by decide) (backOf (W := 0) (rm_olp1 l Z a0 hw [] w482 T482.heap n0 Zs484 (Old.keep O0 K482 hws) F_w482_isPresent_482c) hZ480 (tw hw 159 rfl) (tw hw 3 rfl) (by decide) (by decide)) q485a q485c (g := (mkF m 281 (lw5 q1 q2 p1 q3 q4 q5 1 1 u13 u14 u15 uo ue uf un fu nw w477 b478 w482 0 (0 : Int64)) [(.ref w482)])) rfl (by rw [hml]; rfl) (Steps.refl _) (argsL := []) (rest := []) (lenOf pd_1 rfl) rfl (wle rfl) (hb hby at_281) (fun _ _ => ⟨rfl, rfl, (by decide : 18 + 0 ≤ _), (by decide : 204 + 0 ≤ _)⟩)
          dsimp only [Pt.U, Pt.locs, Pt.cells, Pt.slots] at X485 l485 y485 z485 st485 hQ485
          subst l485 y485 z485
          obtain ⟨rfl, N485q, e485⟩ := hQ485
          have N485 := Fr.app N482 N485q
          refine gsW T485 (mkF m 284 (lw5 q1 q2 p1 q3 q4 q5 1 1 u13 u14 u15 uo ue uf un fu nw w477 b478 w482 0 (0 : Int64)) [(.int (1 : Int32))]) (fun _ hr => st485.trans hr) ?_
          refine gsW T485 (mkF m 287 (lw5 q1 q2 p1 q3 q4 q5 1 1 u13 u14 u15 uo ue uf un fu nw w477 b478 w482 0 (0 : Int64)) []) (fun _ hr => XS.ifNo X485.here hx rfl (hb hby at_284) rfl ((if0 _ _).trans (feq (by decide : ¬ ((1 : Int32) = (0 : Int32)))).1) hr) ?_
          refine gsW T485 (mkF m 289 (lw5 q1 q2 p1 q3 q4 q5 1 1 u13 u14 u15 uo ue uf un fu nw w477 b478 w482 0 (0 : Int64)) [(.ref w482)]) (fun _ hr => XS.aload X485.here hx rfl (hb hby at_287) rfl rfl hr) ?_
          have Zs486 : n0 ≤ T482.heap.size := Nat.le_trans Z0 K482.1
          obtain ⟨cq487, kq487, q487a, q487b, q487c⟩ := isOf hZ480 e485 E_w482_482c
          obtain ⟨_, _, ⟨T487, L487, k487, n487⟩, -, X487, ⟨Lc487, hQ487, l487, y487, z487⟩, st487⟩ := X485.virtualBack hx (y := Y7) (z := Y7) hown480 (mvT hZ480 (tw hw 186 rfl)) (mvT hZ480 (tw hw 150 rfl)) (notFace_of_selects (args := #[]) (mvT hZ480 (tw hw 152 rfl))) (mvT hZ480 (tw hw 152 rfl)) (mvT hZ480 (tw hw 151 rfl)) (by decide) (backOf (W := 0) (rm_olg l Z a0 hw [] w482 (0 : Int64) T482.heap n0 Zs486 (Old.keep O0 K482 hws) F_w482_isPresent_482c F_w482_value_482c) hZ480 (tw hw 153 rfl) (tw hw 3 rfl) (by decide) (by decide)) q487a q487c (g := (mkF m 289 (lw5 q1 q2 p1 q3 q4 q5 1 1 u13 u14 u15 uo ue uf un fu nw w477 b478 w482 0 (0 : Int64)) [(.ref w482)])) rfl (by rw [hml]; rfl) (Steps.refl _) (argsL := []) (rest := []) (lenOf pd_5 rfl) rfl (wle rfl) (hb hby at_289) (fun _ _ => ⟨rfl, e485, (by decide : 18 + 0 ≤ _), (by decide : 204 + 0 ≤ _)⟩)
          dsimp only [Pt.U, Pt.locs, Pt.cells, Pt.slots] at X487 l487 y487 z487 st487 hQ487
          subst l487 y487 z487
          obtain ⟨rfl, N487q, e487⟩ := hQ487
          have N487 := Fr.app N485 N487q
          refine gsW T487 (mkF m 292 (lw5 q1 q2 p1 q3 q4 q5 1 1 u13 u14 u15 uo ue uf un fu nw w477 b478 w482 0 (0 : Int64)) [(.long (0 : Int64))]) (fun _ hr => st487.trans hr) ?_
          refine gsW T487 (mkF m 294 (lw5 q1 q2 p1 q3 q4 q5 1 1 u13 u14 u15 uo ue uf un fu nw w477 b478 w482 0 (0 : Int64)) [(.long (0 : Int64)), (.long (0 : Int64))]) (fun _ hr => XT.lload X487.here hx rfl (hb hby at_292) rfl hr) ?_
          refine gsW T487 (mkF m 295 (lw5 q1 q2 p1 q3 q4 q5 1 1 u13 u14 u15 uo ue uf un fu nw w477 b478 w482 0 (0 : Int64)) [(.int (XT.cmpL (0 : Int64) (0 : Int64)))]) (fun _ hr => XT.lcmp X487.here hx rfl (hb hby at_294) rfl hr) ?_
          rw [cmpL_self]
          refine gsW T487 (mkF m 298 (lw5 q1 q2 p1 q3 q4 q5 1 1 u13 u14 u15 uo ue uf un fu nw w477 b478 w482 0 (0 : Int64)) []) (fun _ hr => XS.ifNo X487.here hx rfl (hb hby at_295) rfl ((if0 _ _).trans (teq (by decide : (0 : Int32) = (0 : Int32))).2) hr) ?_
          refine gsW T487 (mkF m 299 (lw5 q1 q2 p1 q3 q4 q5 1 1 u13 u14 u15 uo ue uf un fu nw w477 b478 w482 0 (0 : Int64)) [(.int (1 : Int32))]) (fun _ hr => XS.iconst X487.here hx rfl (hb hby at_298) hr) ?_
          refine gsW T487 (mkF m 303 (lw5 q1 q2 p1 q3 q4 q5 1 1 u13 u14 u15 uo ue uf un fu nw w477 b478 w482 0 (0 : Int64)) [(.int (1 : Int32))]) (fun _ hr => XS.goto X487.here hx rfl (pc0 := 299) (pc' := 303) rfl (hb hby at_299) (by decide) (by decide) hr) ?_
          exact GoesW.ret (v := some (.int (1 : Int32))) X487 Sn480 (by rw [e487]; exact kle482) (by decide) (by decide) (fun h => by rw [Bd.returns] at h; cases h) ⟨rfl, N487⟩ (fun fs hr => retN X487 hx (t := .boolean) Bd.returns (by simp) (hb hby at_303) hr)
        · refine gsW T482 (mkF m 268 (lw5 q1 q2 p1 q3 q4 q5 1 1 u13 u14 u15 uo ue uf un fu nw w477 b478 w482 0 (0 : Int64)) []) (fun _ hr => XS.ifYes X482.here hx rfl (pc0 := 235) (pc' := 268) rfl (hb hby at_235) rfl ((if0 _ _).trans (flt hc235_483).2.1) (by decide) (by decide) hr) ?_
          refine gsW T482 (mkF m 270 (lw5 q1 q2 p1 q3 q4 q5 1 1 u13 u14 u15 uo ue uf un fu nw w477 b478 w482 0 (0 : Int64)) [(.int (0 : Int32))]) (fun _ hr => XS.iload X482.here hx rfl (hb hby at_268) rfl  hr) ?_
          refine gsW T482 (mkF m 279 (lw5 q1 q2 p1 q3 q4 q5 1 1 u13 u14 u15 uo ue uf un fu nw w477 b478 w482 0 (0 : Int64)) []) (fun _ hr => XS.ifYes X482.here hx rfl (pc0 := 270) (pc' := 279) rfl (hb hby at_270) rfl ((if0 _ _).trans (teq (by decide : (0 : Int32) = (0 : Int32))).1) (by decide) (by decide) hr) ?_
          refine gsW T482 (mkF m 281 (lw5 q1 q2 p1 q3 q4 q5 1 1 u13 u14 u15 uo ue uf un fu nw w477 b478 w482 0 (0 : Int64)) [(.ref w482)]) (fun _ hr => XS.aload X482.here hx rfl (hb hby at_279) rfl rfl hr) ?_
          have Zs488 : n0 ≤ T482.heap.size := Nat.le_trans Z0 K482.1
          obtain ⟨cq489, kq489, q489a, q489b, q489c⟩ := isOf hZ480 rfl E_w482_482c
          obtain ⟨_, _, ⟨T489, L489, k489, n489⟩, -, X489, ⟨Lc489, hQ489, l489, y489, z489⟩, st489⟩ := X482.virtualBack hx (y := Y5) (z := Y5) hown480 (mvT hZ480 (tw hw 185 rfl)) (mvT hZ480 (tw hw 156 rfl)) (notFace_of_selects (args := #[]) (mvT hZ480 (tw hw 158 rfl))) (mvT hZ480 (tw hw 158 rfl)) (mvT hZ480 (tw hw 157 rfl)) (by decide) (backOf (W := 0) (rm_olp1 l Z a0 hw [] w482 T482.heap n0 Zs488 (Old.keep O0 K482 hws) F_w482_isPresent_482c) hZ480 (tw hw 159 rfl) (tw hw 3 rfl) (by decide) (by decide)) q489a q489c (g := (mkF m 281 (lw5 q1 q2 p1 q3 q4 q5 1 1 u13 u14 u15 uo ue uf un fu nw w477 b478 w482 0 (0 : Int64)) [(.ref w482)])) rfl (by rw [hml]; rfl) (Steps.refl _) (argsL := []) (rest := []) (lenOf pd_1 rfl) rfl (wle rfl) (hb hby at_281) (fun _ _ => ⟨rfl, rfl, (by decide : 18 + 0 ≤ _), (by decide : 204 + 0 ≤ _)⟩)
          dsimp only [Pt.U, Pt.locs, Pt.cells, Pt.slots] at X489 l489 y489 z489 st489 hQ489
          subst l489 y489 z489
          obtain ⟨rfl, N489q, e489⟩ := hQ489
          have N489 := Fr.app N482 N489q
          refine gsW T489 (mkF m 284 (lw5 q1 q2 p1 q3 q4 q5 1 1 u13 u14 u15 uo ue uf un fu nw w477 b478 w482 0 (0 : Int64)) [(.int (1 : Int32))]) (fun _ hr => st489.trans hr) ?_
          refine gsW T489 (mkF m 287 (lw5 q1 q2 p1 q3 q4 q5 1 1 u13 u14 u15 uo ue uf un fu nw w477 b478 w482 0 (0 : Int64)) []) (fun _ hr => XS.ifNo X489.here hx rfl (hb hby at_284) rfl ((if0 _ _).trans (feq (by decide : ¬ ((1 : Int32) = (0 : Int32)))).1) hr) ?_
          refine gsW T489 (mkF m 289 (lw5 q1 q2 p1 q3 q4 q5 1 1 u13 u14 u15 uo ue uf un fu nw w477 b478 w482 0 (0 : Int64)) [(.ref w482)]) (fun _ hr => XS.aload X489.here hx rfl (hb hby at_287) rfl rfl hr) ?_
          have Zs490 : n0 ≤ T482.heap.size := Nat.le_trans Z0 K482.1
          obtain ⟨cq491, kq491, q491a, q491b, q491c⟩ := isOf hZ480 e489 E_w482_482c
          obtain ⟨_, _, ⟨T491, L491, k491, n491⟩, -, X491, ⟨Lc491, hQ491, l491, y491, z491⟩, st491⟩ := X489.virtualBack hx (y := Y7) (z := Y7) hown480 (mvT hZ480 (tw hw 186 rfl)) (mvT hZ480 (tw hw 150 rfl)) (notFace_of_selects (args := #[]) (mvT hZ480 (tw hw 152 rfl))) (mvT hZ480 (tw hw 152 rfl)) (mvT hZ480 (tw hw 151 rfl)) (by decide) (backOf (W := 0) (rm_olg l Z a0 hw [] w482 (0 : Int64) T482.heap n0 Zs490 (Old.keep O0 K482 hws) F_w482_isPresent_482c F_w482_value_482c) hZ480 (tw hw 153 rfl) (tw hw 3 rfl) (by decide) (by decide)) q491a q491c (g := (mkF m 289 (lw5 q1 q2 p1 q3 q4 q5 1 1 u13 u14 u15 uo ue uf un fu nw w477 b478 w482 0 (0 : Int64)) [(.ref w482)])) rfl (by rw [hml]; rfl) (Steps.refl _) (argsL := []) (rest := []) (lenOf pd_5 rfl) rfl (wle rfl) (hb hby at_289) (fun _ _ => ⟨rfl, e489, (by decide : 18 + 0 ≤ _), (by decide : 204 + 0 ≤ _)⟩)
          dsimp only [Pt.U, Pt.locs, Pt.cells, Pt.slots] at X491 l491 y491 z491 st491 hQ491
          subst l491 y491 z491
          obtain ⟨rfl, N491q, e491⟩ := hQ491
          have N491 := Fr.app N489 N491q
          refine gsW T491 (mkF m 292 (lw5 q1 q2 p1 q3 q4 q5 1 1 u13 u14 u15 uo ue uf un fu nw w477 b478 w482 0 (0 : Int64)) [(.long (0 : Int64))]) (fun _ hr => st491.trans hr) ?_
          refine gsW T491 (mkF m 294 (lw5 q1 q2 p1 q3 q4 q5 1 1 u13 u14 u15 uo ue uf un fu nw w477 b478 w482 0 (0 : Int64)) [(.long (0 : Int64)), (.long (0 : Int64))]) (fun _ hr => XT.lload X491.here hx rfl (hb hby at_292) rfl hr) ?_
          refine gsW T491 (mkF m 295 (lw5 q1 q2 p1 q3 q4 q5 1 1 u13 u14 u15 uo ue uf un fu nw w477 b478 w482 0 (0 : Int64)) [(.int (XT.cmpL (0 : Int64) (0 : Int64)))]) (fun _ hr => XT.lcmp X491.here hx rfl (hb hby at_294) rfl hr) ?_
          rw [cmpL_self]
          refine gsW T491 (mkF m 298 (lw5 q1 q2 p1 q3 q4 q5 1 1 u13 u14 u15 uo ue uf un fu nw w477 b478 w482 0 (0 : Int64)) []) (fun _ hr => XS.ifNo X491.here hx rfl (hb hby at_295) rfl ((if0 _ _).trans (teq (by decide : (0 : Int32) = (0 : Int32))).2) hr) ?_
          refine gsW T491 (mkF m 299 (lw5 q1 q2 p1 q3 q4 q5 1 1 u13 u14 u15 uo ue uf un fu nw w477 b478 w482 0 (0 : Int64)) [(.int (1 : Int32))]) (fun _ hr => XS.iconst X491.here hx rfl (hb hby at_298) hr) ?_
          refine gsW T491 (mkF m 303 (lw5 q1 q2 p1 q3 q4 q5 1 1 u13 u14 u15 uo ue uf un fu nw w477 b478 w482 0 (0 : Int64)) [(.int (1 : Int32))]) (fun _ hr => XS.goto X491.here hx rfl (pc0 := 299) (pc' := 303) rfl (hb hby at_299) (by decide) (by decide) hr) ?_
          exact GoesW.ret (v := some (.int (1 : Int32))) X491 Sn480 (by rw [e491]; exact kle482) (by decide) (by decide) (fun h => by rw [Bd.returns] at h; cases h) ⟨rfl, N491⟩ (fun fs hr => retN X491 hx (t := .boolean) Bd.returns (by simp) (hb hby at_303) hr)
      · have hzz := own_sub0 heq
        refine gsW Tg (mkF m 155 (lw0 q1 q2 p1 q3 q4 q5 1 0 u13 u14 u15 uo ue uf un fu nw) []) (fun _ hr => XS.ifNo Xg.here hx rfl (hb hby at_152) rfl ((if0 _ _).trans (feq (by decide : ¬ ((1 : Int32) = (0 : Int32)))).1) hr) ?_
        obtain ⟨T492, h492, X492, e492, E492, A492, D492, -, st492⟩ := newO Xg hx hZ hown (tw hw 94 rfl) (tw hw 95 rfl) (tw hw 96 rfl) eg (g := (mkF m 155 (lw0 q1 q2 p1 q3 q4 q5 1 0 u13 u14 u15 uo ue uf un fu nw) [])) rfl (hb hby at_155) (by decide) (by decide)
        obtain ⟨b492, g492⟩ : ∃ z, z = hg.size := ⟨_, rfl⟩
        rw [← g492] at A492 D492 st492
        have sz_b492 : h0.size ≤ b492 := Nat.le_trans Kg.1 (Nat.le_of_eq g492.symm)
        have ge_b492 : n0 ≤ b492 := Nat.le_trans Z0 sz_b492
        have K492 : Keep h0 h492 [] := Kg.ext E492
        have kle492 : 0 ≤ h492.size := Nat.le_trans kleg E492.1
        have F_b492_onlyMarkersLeft_492 : Fld Z h492 b492 cRR nOM "Z" (.int (0 : Int32)) := D492 (Or.inr (tw hw 105 rfl)) (ty := .boolean) (by decide)
        have F_b492_firstUnreadTimestamp_492 : Fld Z h492 b492 cRR nLT dOL .null := D492 (Or.inr (tw hw 107 rfl)) (ty := (.object cOL)) (by decide)
        have F_b492_newestTimestamp_492 : Fld Z h492 b492 cRR nNT dOL .null := D492 (Or.inr (tw hw 109 rfl)) (ty := (.object cOL)) (by decide)
        have F_b492_lookedAt_492 : Fld Z h492 b492 cRR "lookedAt" "J" (.long (0 : Int64)) := D492 (Or.inr (tw hw 111 rfl)) (ty := .long) (by decide)
        refine gsW T492 (mkF m 158 (lw0 q1 q2 p1 q3 q4 q5 1 0 u13 u14 u15 uo ue uf un fu nw) [(.ref b492)]) st492 ?_
        refine gsW T492 (mkF m 159 (lw0 q1 q2 p1 q3 q4 q5 1 0 u13 u14 u15 uo ue uf un fu nw) [(.ref b492), (.ref b492)]) (fun _ hr => XS.dup X492.here hx rfl (hb hby at_158) rfl rfl hr) ?_
        refine gsW T492 (mkF m 161 (lw0 q1 q2 p1 q3 q4 q5 1 0 u13 u14 u15 uo ue uf un fu nw) [(.int (0 : Int32)), (.ref b492), (.ref b492)]) (fun _ hr => XS.iload X492.here hx rfl (hb hby at_159) rfl  hr) ?_
        refine gsW T492 (mkF m 163 (lw0 q1 q2 p1 q3 q4 q5 1 0 u13 u14 u15 uo ue uf un fu nw) [(.ref fu), (.int (0 : Int32)), (.ref b492), (.ref b492)]) (fun _ hr => XS.aload X492.here hx rfl (hb hby at_161) rfl rfl hr) ?_
        refine gsW T492 (mkF m 165 (lw0 q1 q2 p1 q3 q4 q5 1 0 u13 u14 u15 uo ue uf un fu nw) [(.ref nw), (.ref fu), (.int (0 : Int32)), (.ref b492), (.ref b492)]) (fun _ hr => XS.aload X492.here hx rfl (hb hby at_163) rfl rfl hr) ?_
        refine gsW T492 (mkF m 167 (lw0 q1 q2 p1 q3 q4 q5 1 0 u13 u14 u15 uo ue uf un fu nw) [(.long q5), (.ref nw), (.ref fu), (.int (0 : Int32)), (.ref b492), (.ref b492)]) (fun _ hr => XT.lload X492.here hx rfl (hb hby at_165) rfl hr) ?_
        have Zs493 : n0 ≤ h492.size := Nat.le_trans Z0 K492.1
        obtain ⟨_, _, ⟨T494, L494, k494, n494⟩, -, X494, Sc494, gr494, ⟨Lc494, hQ494, l494, y494, z494⟩, st494⟩ := X492.specialBackS hx (y := Y32) rfl hown (mvT hZ (tw hw 97 rfl)) (mvT hZ (tw hw 98 rfl)) (mvT hZ (tw hw 99 rfl)) (by decide) (backOfS (W := 1) (rm_rinit0 l Z a0 hw [] b492 fu nw q5 h492 n0 Zs493 (Old.keep O0 K492 hws) A492 F_b492_onlyMarkersLeft_492 F_b492_firstUnreadTimestamp_492 F_b492_newestTimestamp_492 F_b492_lookedAt_492 ge_b492) hZ (tw hw 99 rfl) (tw hw 96 rfl) (by decide) (by decide)) (g := (mkF m 167 (lw0 q1 q2 p1 q3 q4 q5 1 0 u13 u14 u15 uo ue uf un fu nw) [(.long q5), (.ref nw), (.ref fu), (.int (0 : Int32)), (.ref b492), (.ref b492)])) rfl (by rw [hml]; rfl) (Steps.refl _) (a := b492) (argsL := [(.int (0 : Int32)), (.ref fu), (.ref nw), (.long q5)]) (rest := [(.ref b492)]) (lenOf pd_20 rfl) rfl (wle rfl) (hb hby at_167) (fun _ _ => ⟨rfl, e492, (by decide : 3 + 4 ≤ _), (by decide : 8 + 148 ≤ _)⟩)
        dsimp only [Pt.U, Pt.locs, Pt.cells, Pt.slots] at X494 l494 y494 z494 st494 hQ494 Sc494 gr494
        subst l494 y494 z494
        have Sn494 := Sn0.trans Sc494 (Nat.le_trans (show 0 ≤ T492.heap.size by rw [(e492 : T492.heap = h492)]; exact kle492) gr494)
        have hZ494 : Z.Warmed39 (s.setVm T494.vm).vm := State.Warmed39.trans (t := s.setVm s.vm) hZ Sc494.1
        have hown494 : (s.setVm T494.vm).vm.findClass "com/example/log_lag_gauge/loglaggauge/model/PositionLagTimeLagMsPinLaw" = some m.cls := by rw [show (s.setVm T494.vm).vm = T494.vm from rfl, Sc494.1.alike.findClass]; exact hown
        have kle494 : T494.heap.size ≤ T494.heap.size := Nat.le_refl _
        obtain ⟨rfl, N494q, Kc494, P494_0, P494_1, P494_2, P494_3⟩ := hQ494
        have N494 := Fr.app Ng N494q
        have E_b492_494 : Exa Z T494.heap b492 cRR := A492.keep Kc494
        have K494 : Keep h0 T494.heap [] := K492.trans Kc494 (allS (Or.inr sz_b492) all0)
        have F_b492_onlyMarkersLeft_494c : Fld Z T494.heap b492 cRR nOM "Z" (.int (0 : Int32)) := P494_0
        have F_b492_newestTimestamp_494c : Fld Z T494.heap b492 cRR nNT dOL (.ref nw) := P494_2
        refine gsW T494 (mkF m 170 (lw0 q1 q2 p1 q3 q4 q5 1 0 u13 u14 u15 uo ue uf un fu nw) [(.ref b492)]) (fun _ hr => st494.trans hr) ?_
        have Zs495 : n0 ≤ T494.heap.size := Nat.le_trans Z0 K494.1
        obtain ⟨_, _, ⟨T496, L496, k496, n496⟩, -, X496, ⟨Lc496, hQ496, l496, y496, z496⟩, st496⟩ := LawKit.callS X494 hx (y := Y15) hown494 (mvT hZ494 (tw hw 112 rfl)) (mvT hZ494 (tw hw 113 rfl)) (mvT hZ494 (tw hw 8 rfl)) (mvT hZ494 (tw hw 114 rfl)) (by decide) (backOf (W := 0) (rm_oof l Z a0 hw [] b492 T494.heap n0 Zs495 (Old.keep O0 K494 hws)) hZ494 (tw hw 114 rfl) (tw hw 8 rfl) (by decide) (by decide)) (g := (mkF m 170 (lw0 q1 q2 p1 q3 q4 q5 1 0 u13 u14 u15 uo ue uf un fu nw) [(.ref b492)])) rfl (by rw [hml]; rfl) (argsL := [(.ref b492)]) (rest := []) (lenOf pd_15 rfl) rfl (wle rfl) (hb hby at_170) (fun _ _ => ⟨rfl, rfl, (by decide : 7 + 1 ≤ _), (by decide : 156 + 1 ≤ _)⟩)
        dsimp only [Pt.U, Pt.locs, Pt.cells, Pt.slots] at X496 l496 y496 z496 st496 hQ496
        subst l496 y496 z496
        obtain ⟨w496, rfl, N496q, Kc496, P496_0, P496_1, P496_2⟩ := hQ496
        have N496 := Fr.app N494 N496q
        have E_b492_496 : Exa Z T496.heap b492 cRR := E_b492_494.keep Kc496
        have F_b492_onlyMarkersLeft_496 : Fld Z T496.heap b492 cRR nOM "Z" (.int (0 : Int32)) := F_b492_onlyMarkersLeft_494c.keep Kc496 nin0
        have F_b492_newestTimestamp_496 : Fld Z T496.heap b492 cRR nNT dOL (.ref nw) := F_b492_newestTimestamp_494c.keep Kc496 nin0
        have K496 : Keep h0 T496.heap [] := K494.trans Kc496 all0
        have kle496 : T494.heap.size ≤ T496.heap.size := Nat.le_trans kle494 Kc496.1
        have E_w496_496c : Exa Z T496.heap w496 cOP := P496_1
        have F_w496_value_496c : Fld Z T496.heap w496 cOP "value" dOB (.ref b492) := P496_2
        refine gsW T496 (mkF m 173 (lw0 q1 q2 p1 q3 q4 q5 1 0 u13 u14 u15 uo ue uf un fu nw) [(.ref w496)]) st496 ?_
        refine gsW T496 (mkF m 175 (lw1 q1 q2 p1 q3 q4 q5 1 0 u13 u14 u15 uo ue uf un fu nw w496) []) (fun _ hr => XS.astore X496.here hx rfl (hb hby at_173) rfl rfl (l' := (lw1 q1 q2 p1 q3 q4 q5 1 0 u13 u14 u15 uo ue uf un fu nw w496)) rfl hr) ?_
        refine gsW T496 (mkF m 183 (lw1 q1 q2 p1 q3 q4 q5 1 0 u13 u14 u15 uo ue uf un fu nw w496) []) (fun _ hr => XS.goto X496.here hx rfl (pc0 := 175) (pc' := 183) rfl (hb hby at_175) (by decide) (by decide) hr) ?_
        obtain ⟨T497, h497, X497, e497, E497, A497, D497, -, st497⟩ := newO X496 hx hZ494 hown494 (tw hw 11 rfl) (tw hw 12 rfl) (tw hw 13 rfl) rfl (g := (mkF m 183 (lw1 q1 q2 p1 q3 q4 q5 1 0 u13 u14 u15 uo ue uf un fu nw w496) [])) rfl (hb hby at_183) (by decide) (by decide)
        obtain ⟨b497, g497⟩ : ∃ z, z = T496.heap.size := ⟨_, rfl⟩
        rw [← g497] at A497 D497 st497
        have sz_b497 : h0.size ≤ b497 := Nat.le_trans K496.1 (Nat.le_of_eq g497.symm)
        have ge_b497 : n0 ≤ b497 := Nat.le_trans Z0 sz_b497
        have E_b492_497 : Exa Z h497 b492 cRR := E_b492_496.ext E497
        have F_b492_onlyMarkersLeft_497 : Fld Z h497 b492 cRR nOM "Z" (.int (0 : Int32)) := F_b492_onlyMarkersLeft_496.ext E497
        have F_b492_newestTimestamp_497 : Fld Z h497 b492 cRR nNT dOL (.ref nw) := F_b492_newestTimestamp_496.ext E497
        have E_w496_497 : Exa Z h497 w496 cOP := E_w496_496c.ext E497
        have F_w496_value_497 : Fld Z h497 w496 cOP "value" dOB (.ref b492) := F_w496_value_496c.ext E497
        have K497 : Keep h0 h497 [] := K496.ext E497
        have kle497 : T494.heap.size ≤ h497.size := Nat.le_trans kle496 E497.1
        have F_b497_offset_497 : Fld Z h497 b497 cPL "offset" "J" (.long (0 : Int64)) := D497 (Or.inr (tw hw 38 rfl)) (ty := .long) (by decide)
        have F_b497_end_497 : Fld Z h497 b497 cPL "end" "J" (.long (0 : Int64)) := D497 (Or.inr (tw hw 40 rfl)) (ty := .long) (by decide)
        have F_b497_records_497 : Fld Z h497 b497 cPL "records" dOP .null := D497 (Or.inr (tw hw 42 rfl)) (ty := (.object cOP)) (by decide)
        refine gsW T497 (mkF m 186 (lw1 q1 q2 p1 q3 q4 q5 1 0 u13 u14 u15 uo ue uf un fu nw w496) [(.ref b497)]) st497 ?_
        refine gsW T497 (mkF m 187 (lw1 q1 q2 p1 q3 q4 q5 1 0 u13 u14 u15 uo ue uf un fu nw w496) [(.ref b497), (.ref b497)]) (fun _ hr => XS.dup X497.here hx rfl (hb hby at_186) rfl rfl hr) ?_
        refine gsW T497 (mkF m 189 (lw1 q1 q2 p1 q3 q4 q5 1 0 u13 u14 u15 uo ue uf un fu nw w496) [(.long uo), (.ref b497), (.ref b497)]) (fun _ hr => XT.lload X497.here hx rfl (hb hby at_187) rfl hr) ?_
        refine gsW T497 (mkF m 191 (lw1 q1 q2 p1 q3 q4 q5 1 0 u13 u14 u15 uo ue uf un fu nw w496) [(.long ue), (.long uo), (.ref b497), (.ref b497)]) (fun _ hr => XT.lload X497.here hx rfl (hb hby at_189) rfl hr) ?_
        refine gsW T497 (mkF m 193 (lw1 q1 q2 p1 q3 q4 q5 1 0 u13 u14 u15 uo ue uf un fu nw w496) [(.ref w496), (.long ue), (.long uo), (.ref b497), (.ref b497)]) (fun _ hr => XS.aload X497.here hx rfl (hb hby at_191) rfl rfl hr) ?_
        have Zs498 : n0 ≤ h497.size := Nat.le_trans Z0 K497.1
        obtain ⟨_, _, ⟨T499, L499, k499, n499⟩, -, X499, Sc499, gr499, ⟨Lc499, hQ499, l499, y499, z499⟩, st499⟩ := X497.specialBackS hx (y := Y31) rfl hown494 (mvT hZ494 (tw hw 14 rfl)) (mvT hZ494 (tw hw 15 rfl)) (mvT hZ494 (tw hw 16 rfl)) (by decide) (backOfS (W := 1) (rm_pinit l Z a0 hw [] b497 uo ue w496 h497 n0 Zs498 (Old.keep O0 K497 hws) A497 F_b497_offset_497 F_b497_end_497 F_b497_records_497 ge_b497) hZ494 (tw hw 16 rfl) (tw hw 13 rfl) (by decide) (by decide)) (g := (mkF m 193 (lw1 q1 q2 p1 q3 q4 q5 1 0 u13 u14 u15 uo ue uf un fu nw w496) [(.ref w496), (.long ue), (.long uo), (.ref b497), (.ref b497)])) rfl (by rw [hml]; rfl) (Steps.refl _) (a := b497) (argsL := [(.long uo), (.long ue), (.ref w496)]) (rest := [(.ref b497)]) (lenOf pd_19 rfl) rfl (wle rfl) (hb hby at_193) (fun _ _ => ⟨rfl, e497, (by decide : 9 + 2 ≤ _), (by decide : 160 + 32 ≤ _)⟩)
        dsimp only [Pt.U, Pt.locs, Pt.cells, Pt.slots] at X499 l499 y499 z499 st499 hQ499 Sc499 gr499
        subst l499 y499 z499
        have Sn499 := Sn494.trans Sc499 (Nat.le_trans (show T494.heap.size ≤ T497.heap.size by rw [(e497 : T497.heap = h497)]; exact kle497) gr499)
        have hZ499 : Z.Warmed39 (s.setVm T499.vm).vm := State.Warmed39.trans (t := s.setVm T494.vm) hZ494 Sc499.1
        have hown499 : (s.setVm T499.vm).vm.findClass "com/example/log_lag_gauge/loglaggauge/model/PositionLagTimeLagMsPinLaw" = some m.cls := by rw [show (s.setVm T499.vm).vm = T499.vm from rfl, Sc499.1.alike.findClass]; exact hown494
        have kle499 : T499.heap.size ≤ T499.heap.size := Nat.le_refl _
        obtain ⟨rfl, N499q, Kc499, P499_0, P499_1, P499_2⟩ := hQ499
        have N499 := Fr.app N496 N499q
        have E_b492_499 : Exa Z T499.heap b492 cRR := E_b492_497.keep Kc499
        have F_b492_onlyMarkersLeft_499 : Fld Z T499.heap b492 cRR nOM "Z" (.int (0 : Int32)) := F_b492_onlyMarkersLeft_497.keep Kc499 (ninS (Nat.ne_of_lt (Nat.lt_of_lt_of_le E_b492_496.lt (Nat.le_of_eq g497.symm))) nin0)
        have F_b492_newestTimestamp_499 : Fld Z T499.heap b492 cRR nNT dOL (.ref nw) := F_b492_newestTimestamp_497.keep Kc499 (ninS (Nat.ne_of_lt (Nat.lt_of_lt_of_le E_b492_496.lt (Nat.le_of_eq g497.symm))) nin0)
        have E_w496_499 : Exa Z T499.heap w496 cOP := E_w496_497.keep Kc499
        have F_w496_value_499 : Fld Z T499.heap w496 cOP "value" dOB (.ref b492) := F_w496_value_497.keep Kc499 (ninS (Nat.ne_of_lt (Nat.lt_of_lt_of_le E_w496_496c.lt (Nat.le_of_eq g497.symm))) nin0)
        have E_b497_499 : Exa Z T499.heap b497 cPL := A497.keep Kc499
        have K499 : Keep h0 T499.heap [] := K497.trans Kc499 (allS (Or.inr sz_b497) all0)
        have F_b497_offset_499c : Fld Z T499.heap b497 cPL "offset" "J" (.long uo) := P499_0
        have F_b497_end_499c : Fld Z T499.heap b497 cPL "end" "J" (.long ue) := P499_1
        have F_b497_records_499c : Fld Z T499.heap b497 cPL "records" dOP (.ref w496) := P499_2
        refine gsW T499 (mkF m 196 (lw1 q1 q2 p1 q3 q4 q5 1 0 u13 u14 u15 uo ue uf un fu nw w496) [(.ref b497)]) (fun _ hr => st499.trans hr) ?_
        refine gsW T499 (mkF m 198 (lw2 q1 q2 p1 q3 q4 q5 1 0 u13 u14 u15 uo ue uf un fu nw w496 b497) []) (fun _ hr => XS.astore X499.here hx rfl (hb hby at_196) rfl rfl (l' := (lw2 q1 q2 p1 q3 q4 q5 1 0 u13 u14 u15 uo ue uf un fu nw w496 b497)) rfl hr) ?_
        refine gsW T499 (mkF m 200 (lw2 q1 q2 p1 q3 q4 q5 1 0 u13 u14 u15 uo ue uf un fu nw w496 b497) [(.ref b497)]) (fun _ hr => XS.aload X499.here hx rfl (hb hby at_198) rfl rfl hr) ?_
        have Zs500 : n0 ≤ T499.heap.size := Nat.le_trans Z0 K499.1
        obtain ⟨cq501, kq501, q501a, q501b, q501c⟩ := isOf hZ499 rfl E_b497_499
        obtain ⟨_, _, ⟨T501, L501, k501, n501⟩, -, X501, ⟨Lc501, hQ501, l501, y501, z501⟩, st501⟩ := X499.virtualBack hx (y := Y30) (z := Y30) hown499 (mvT hZ499 (tw hw 43 rfl)) (mvT hZ499 (tw hw 44 rfl)) (notFace_of_selects (args := #[]) (mvT hZ499 (tw hw 46 rfl))) (mvT hZ499 (tw hw 46 rfl)) (mvT hZ499 (tw hw 45 rfl)) (by decide) (backOf (W := 0) (rm_age_z0 l Z a0 hw [] b497 b492 em uo ue w496 eo nw T499.heap n0 Zs500 (Old.keep O0 K499 hws) E_b497_499 F_b497_offset_499c F_b497_end_499c F_b497_records_499c E_w496_499 F_w496_value_499 E_b492_499 F_b492_onlyMarkersLeft_499 F_b492_newestTimestamp_499 S_OptionalLong_EMPTY_old E_em_old F_em_isPresent_old F_em_value_old S_Optional_EMPTY_old E_eo_old F_eo_value_old hle hzz) hZ499 (tw hw 47 rfl) (tw hw 13 rfl) (by decide) (by decide)) q501a q501c (g := (mkF m 200 (lw2 q1 q2 p1 q3 q4 q5 1 0 u13 u14 u15 uo ue uf un fu nw w496 b497) [(.ref b497)])) rfl (by rw [hml]; rfl) (Steps.refl _) (argsL := []) (rest := []) (lenOf pd_6 rfl) rfl (wle rfl) (hb hby at_200) (fun _ _ => ⟨rfl, rfl, (by decide : 11 + 6 ≤ _), (by decide : 192 + 10 ≤ _)⟩)
        dsimp only [Pt.U, Pt.locs, Pt.cells, Pt.slots] at X501 l501 y501 z501 st501 hQ501
        subst l501 y501 z501
        obtain ⟨w501, rfl, N501q, Kc501, P501_0, P501_1, P501_2, P501_3⟩ := hQ501
        have N501 := Fr.app N499 N501q
        have K501 : Keep h0 T501.heap [] := K499.trans Kc501 all0
        have kle501 : T499.heap.size ≤ T501.heap.size := Nat.le_trans kle499 Kc501.1
        have E_w501_501c : Exa Z T501.heap w501 cOL := P501_1
        have F_w501_isPresent_501c : Fld Z T501.heap w501 cOL nIP "Z" (.int (1 : Int32)) := P501_2
        have F_w501_value_501c : Fld Z T501.heap w501 cOL "value" "J" (.long (0 : Int64)) := P501_3
        refine gsW T501 (mkF m 203 (lw2 q1 q2 p1 q3 q4 q5 1 0 u13 u14 u15 uo ue uf un fu nw w496 b497) [(.ref w501)]) (fun _ hr => st501.trans hr) ?_
        refine gsW T501 (mkF m 205 (lw3 q1 q2 p1 q3 q4 q5 1 0 u13 u14 u15 uo ue uf un fu nw w496 b497 w501) []) (fun _ hr => XS.astore X501.here hx rfl (hb hby at_203) rfl rfl (l' := (lw3 q1 q2 p1 q3 q4 q5 1 0 u13 u14 u15 uo ue uf un fu nw w496 b497 w501)) rfl hr) ?_
        refine gsW T501 (mkF m 206 (lw3 q1 q2 p1 q3 q4 q5 1 0 u13 u14 u15 uo ue uf un fu nw w496 b497 w501) [(.long (0 : Int64))]) (fun _ hr => XT.lconst X501.here hx rfl (hb hby at_205) hr) ?_
        refine gsW T501 (mkF m 208 (lw4 q1 q2 p1 q3 q4 q5 1 0 u13 u14 u15 uo ue uf un fu nw w496 b497 w501 (0 : Int64)) []) (fun _ hr => XT.lstore X501.here hx rfl (hb hby at_206) rfl (l' := (lw4 q1 q2 p1 q3 q4 q5 1 0 u13 u14 u15 uo ue uf un fu nw w496 b497 w501 (0 : Int64))) rfl hr) ?_
        refine gsW T501 (mkF m 210 (lw4 q1 q2 p1 q3 q4 q5 1 0 u13 u14 u15 uo ue uf un fu nw w496 b497 w501 (0 : Int64)) [(.int (1 : Int32))]) (fun _ hr => XS.iload X501.here hx rfl (hb hby at_208) rfl  hr) ?_
        refine gsW T501 (mkF m 213 (lw4 q1 q2 p1 q3 q4 q5 1 0 u13 u14 u15 uo ue uf un fu nw w496 b497 w501 (0 : Int64)) []) (fun _ hr => XS.ifNo X501.here hx rfl (hb hby at_210) rfl ((if0 _ _).trans (feq (by decide : ¬ ((1 : Int32) = (0 : Int32)))).1) hr) ?_
        refine gsW T501 (mkF m 215 (lw4 q1 q2 p1 q3 q4 q5 1 0 u13 u14 u15 uo ue uf un fu nw w496 b497 w501 (0 : Int64)) [(.long uo)]) (fun _ hr => XT.lload X501.here hx rfl (hb hby at_213) rfl hr) ?_
        refine gsW T501 (mkF m 217 (lw4 q1 q2 p1 q3 q4 q5 1 0 u13 u14 u15 uo ue uf un fu nw w496 b497 w501 (0 : Int64)) [(.long ue), (.long uo)]) (fun _ hr => XT.lload X501.here hx rfl (hb hby at_215) rfl hr) ?_
        refine gsW T501 (mkF m 218 (lw4 q1 q2 p1 q3 q4 q5 1 0 u13 u14 u15 uo ue uf un fu nw w496 b497 w501 (0 : Int64)) [(.int (XT.cmpL uo ue))]) (fun _ hr => XT.lcmp X501.here hx rfl (hb hby at_217) rfl hr) ?_
        refine gsW T501 (mkF m 227 (lw4 q1 q2 p1 q3 q4 q5 1 0 u13 u14 u15 uo ue uf un fu nw w496 b497 w501 (0 : Int64)) []) (fun _ hr => XS.ifYes X501.here hx rfl (pc0 := 218) (pc' := 227) rfl (hb hby at_218) rfl ((if0 _ _).trans (flt (hle : ¬ ((0 : Int32) < (XT.cmpL uo ue)))).2.2.2) (by decide) (by decide) hr) ?_
        refine gsW T501 (mkF m 228 (lw4 q1 q2 p1 q3 q4 q5 1 0 u13 u14 u15 uo ue uf un fu nw w496 b497 w501 (0 : Int64)) [(.int (0 : Int32))]) (fun _ hr => XS.iconst X501.here hx rfl (hb hby at_227) hr) ?_
        refine gsW T501 (mkF m 230 (lw5 q1 q2 p1 q3 q4 q5 1 0 u13 u14 u15 uo ue uf un fu nw w496 b497 w501 0 (0 : Int64)) []) (fun _ hr => XS.istore X501.here hx rfl (hb hby at_228) rfl (l' := (lw5 q1 q2 p1 q3 q4 q5 1 0 u13 u14 u15 uo ue uf un fu nw w496 b497 w501 0 (0 : Int64))) rfl hr) ?_
        refine gsW T501 (mkF m 232 (lw5 q1 q2 p1 q3 q4 q5 1 0 u13 u14 u15 uo ue uf un fu nw w496 b497 w501 0 (0 : Int64)) [(.long uo)]) (fun _ hr => XT.lload X501.here hx rfl (hb hby at_230) rfl hr) ?_
        refine gsW T501 (mkF m 234 (lw5 q1 q2 p1 q3 q4 q5 1 0 u13 u14 u15 uo ue uf un fu nw w496 b497 w501 0 (0 : Int64)) [(.long ue), (.long uo)]) (fun _ hr => XT.lload X501.here hx rfl (hb hby at_232) rfl hr) ?_
        refine gsW T501 (mkF m 235 (lw5 q1 q2 p1 q3 q4 q5 1 0 u13 u14 u15 uo ue uf un fu nw w496 b497 w501 0 (0 : Int64)) [(.int (XT.cmpL uo ue))]) (fun _ hr => XT.lcmp X501.here hx rfl (hb hby at_234) rfl hr) ?_
        refine gsW T501 (mkF m 268 (lw5 q1 q2 p1 q3 q4 q5 1 0 u13 u14 u15 uo ue uf un fu nw w496 b497 w501 0 (0 : Int64)) []) (fun _ hr => XS.ifYes X501.here hx rfl (pc0 := 235) (pc' := 268) rfl (hb hby at_235) rfl ((if0 _ _).trans (flt ((own_nlt0 heq) : ¬ ((XT.cmpL uo ue) < (0 : Int32)))).2.1) (by decide) (by decide) hr) ?_
        refine gsW T501 (mkF m 270 (lw5 q1 q2 p1 q3 q4 q5 1 0 u13 u14 u15 uo ue uf un fu nw w496 b497 w501 0 (0 : Int64)) [(.int (0 : Int32))]) (fun _ hr => XS.iload X501.here hx rfl (hb hby at_268) rfl  hr) ?_
        refine gsW T501 (mkF m 279 (lw5 q1 q2 p1 q3 q4 q5 1 0 u13 u14 u15 uo ue uf un fu nw w496 b497 w501 0 (0 : Int64)) []) (fun _ hr => XS.ifYes X501.here hx rfl (pc0 := 270) (pc' := 279) rfl (hb hby at_270) rfl ((if0 _ _).trans (teq (by decide : (0 : Int32) = (0 : Int32))).1) (by decide) (by decide) hr) ?_
        refine gsW T501 (mkF m 281 (lw5 q1 q2 p1 q3 q4 q5 1 0 u13 u14 u15 uo ue uf un fu nw w496 b497 w501 0 (0 : Int64)) [(.ref w501)]) (fun _ hr => XS.aload X501.here hx rfl (hb hby at_279) rfl rfl hr) ?_
        have Zs502 : n0 ≤ T501.heap.size := Nat.le_trans Z0 K501.1
        obtain ⟨cq503, kq503, q503a, q503b, q503c⟩ := isOf hZ499 rfl E_w501_501c
        obtain ⟨_, _, ⟨T503, L503, k503, n503⟩, -, X503, ⟨Lc503, hQ503, l503, y503, z503⟩, st503⟩ := X501.virtualBack hx (y := Y5) (z := Y5) hown499 (mvT hZ499 (tw hw 185 rfl)) (mvT hZ499 (tw hw 156 rfl)) (notFace_of_selects (args := #[]) (mvT hZ499 (tw hw 158 rfl))) (mvT hZ499 (tw hw 158 rfl)) (mvT hZ499 (tw hw 157 rfl)) (by decide) (backOf (W := 0) (rm_olp1 l Z a0 hw [] w501 T501.heap n0 Zs502 (Old.keep O0 K501 hws) F_w501_isPresent_501c) hZ499 (tw hw 159 rfl) (tw hw 3 rfl) (by decide) (by decide)) q503a q503c (g := (mkF m 281 (lw5 q1 q2 p1 q3 q4 q5 1 0 u13 u14 u15 uo ue uf un fu nw w496 b497 w501 0 (0 : Int64)) [(.ref w501)])) rfl (by rw [hml]; rfl) (Steps.refl _) (argsL := []) (rest := []) (lenOf pd_1 rfl) rfl (wle rfl) (hb hby at_281) (fun _ _ => ⟨rfl, rfl, (by decide : 17 + 0 ≤ _), (by decide : 202 + 0 ≤ _)⟩)
        dsimp only [Pt.U, Pt.locs, Pt.cells, Pt.slots] at X503 l503 y503 z503 st503 hQ503
        subst l503 y503 z503
        obtain ⟨rfl, N503q, e503⟩ := hQ503
        have N503 := Fr.app N501 N503q
        refine gsW T503 (mkF m 284 (lw5 q1 q2 p1 q3 q4 q5 1 0 u13 u14 u15 uo ue uf un fu nw w496 b497 w501 0 (0 : Int64)) [(.int (1 : Int32))]) (fun _ hr => st503.trans hr) ?_
        refine gsW T503 (mkF m 287 (lw5 q1 q2 p1 q3 q4 q5 1 0 u13 u14 u15 uo ue uf un fu nw w496 b497 w501 0 (0 : Int64)) []) (fun _ hr => XS.ifNo X503.here hx rfl (hb hby at_284) rfl ((if0 _ _).trans (feq (by decide : ¬ ((1 : Int32) = (0 : Int32)))).1) hr) ?_
        refine gsW T503 (mkF m 289 (lw5 q1 q2 p1 q3 q4 q5 1 0 u13 u14 u15 uo ue uf un fu nw w496 b497 w501 0 (0 : Int64)) [(.ref w501)]) (fun _ hr => XS.aload X503.here hx rfl (hb hby at_287) rfl rfl hr) ?_
        have Zs504 : n0 ≤ T501.heap.size := Nat.le_trans Z0 K501.1
        obtain ⟨cq505, kq505, q505a, q505b, q505c⟩ := isOf hZ499 e503 E_w501_501c
        obtain ⟨_, _, ⟨T505, L505, k505, n505⟩, -, X505, ⟨Lc505, hQ505, l505, y505, z505⟩, st505⟩ := X503.virtualBack hx (y := Y7) (z := Y7) hown499 (mvT hZ499 (tw hw 186 rfl)) (mvT hZ499 (tw hw 150 rfl)) (notFace_of_selects (args := #[]) (mvT hZ499 (tw hw 152 rfl))) (mvT hZ499 (tw hw 152 rfl)) (mvT hZ499 (tw hw 151 rfl)) (by decide) (backOf (W := 0) (rm_olg l Z a0 hw [] w501 (0 : Int64) T501.heap n0 Zs504 (Old.keep O0 K501 hws) F_w501_isPresent_501c F_w501_value_501c) hZ499 (tw hw 153 rfl) (tw hw 3 rfl) (by decide) (by decide)) q505a q505c (g := (mkF m 289 (lw5 q1 q2 p1 q3 q4 q5 1 0 u13 u14 u15 uo ue uf un fu nw w496 b497 w501 0 (0 : Int64)) [(.ref w501)])) rfl (by rw [hml]; rfl) (Steps.refl _) (argsL := []) (rest := []) (lenOf pd_5 rfl) rfl (wle rfl) (hb hby at_289) (fun _ _ => ⟨rfl, e503, (by decide : 17 + 0 ≤ _), (by decide : 202 + 0 ≤ _)⟩)
        dsimp only [Pt.U, Pt.locs, Pt.cells, Pt.slots] at X505 l505 y505 z505 st505 hQ505
        subst l505 y505 z505
        obtain ⟨rfl, N505q, e505⟩ := hQ505
        have N505 := Fr.app N503 N505q
        refine gsW T505 (mkF m 292 (lw5 q1 q2 p1 q3 q4 q5 1 0 u13 u14 u15 uo ue uf un fu nw w496 b497 w501 0 (0 : Int64)) [(.long (0 : Int64))]) (fun _ hr => st505.trans hr) ?_
        refine gsW T505 (mkF m 294 (lw5 q1 q2 p1 q3 q4 q5 1 0 u13 u14 u15 uo ue uf un fu nw w496 b497 w501 0 (0 : Int64)) [(.long (0 : Int64)), (.long (0 : Int64))]) (fun _ hr => XT.lload X505.here hx rfl (hb hby at_292) rfl hr) ?_
        refine gsW T505 (mkF m 295 (lw5 q1 q2 p1 q3 q4 q5 1 0 u13 u14 u15 uo ue uf un fu nw w496 b497 w501 0 (0 : Int64)) [(.int (XT.cmpL (0 : Int64) (0 : Int64)))]) (fun _ hr => XT.lcmp X505.here hx rfl (hb hby at_294) rfl hr) ?_
        rw [cmpL_self]
        refine gsW T505 (mkF m 298 (lw5 q1 q2 p1 q3 q4 q5 1 0 u13 u14 u15 uo ue uf un fu nw w496 b497 w501 0 (0 : Int64)) []) (fun _ hr => XS.ifNo X505.here hx rfl (hb hby at_295) rfl ((if0 _ _).trans (teq (by decide : (0 : Int32) = (0 : Int32))).2) hr) ?_
        refine gsW T505 (mkF m 299 (lw5 q1 q2 p1 q3 q4 q5 1 0 u13 u14 u15 uo ue uf un fu nw w496 b497 w501 0 (0 : Int64)) [(.int (1 : Int32))]) (fun _ hr => XS.iconst X505.here hx rfl (hb hby at_298) hr) ?_
        refine gsW T505 (mkF m 303 (lw5 q1 q2 p1 q3 q4 q5 1 0 u13 u14 u15 uo ue uf un fu nw w496 b497 w501 0 (0 : Int64)) [(.int (1 : Int32))]) (fun _ hr => XS.goto X505.here hx rfl (pc0 := 299) (pc' := 303) rfl (hb hby at_299) (by decide) (by decide) hr) ?_
        exact GoesW.ret (v := some (.int (1 : Int32))) X505 Sn499 (by rw [e505]; exact kle501) (by decide) (by decide) (fun h => by rw [Bd.returns] at h; cases h) ⟨rfl, N505⟩ (fun fs hr => retN X505 hx (t := .boolean) Bd.returns (by simp) (hb hby at_303) hr)
      · have hpp := own_subp ho he hle hne
        refine gsW Tg (mkF m 155 (lw0 q1 q2 p1 q3 q4 q5 1 0 u13 u14 u15 uo ue uf un fu nw) []) (fun _ hr => XS.ifNo Xg.here hx rfl (hb hby at_152) rfl ((if0 _ _).trans (feq (by decide : ¬ ((1 : Int32) = (0 : Int32)))).1) hr) ?_
        rcases hfn with ⟨rfl, rfl, rfl, rfl⟩ | ⟨rfl, rfl, rfl, E_nw_g, F_nw_isPresent_g, F_nw_value_g⟩ | ⟨rfl, rfl, rfl⟩ | ⟨rfl, rfl, E_fu_g, F_fu_isPresent_g, F_fu_value_g, E_nw_g, F_nw_isPresent_g, F_nw_value_g⟩
        · obtain ⟨T506, h506, X506, e506, E506, A506, D506, -, st506⟩ := newO Xg hx hZ hown (tw hw 94 rfl) (tw hw 95 rfl) (tw hw 96 rfl) eg (g := (mkF m 155 (lw0 q1 q2 p1 q3 q4 q5 1 0 0 0 u15 uo ue uf un em em) [])) rfl (hb hby at_155) (by decide) (by decide)
          obtain ⟨b506, g506⟩ : ∃ z, z = hg.size := ⟨_, rfl⟩
          rw [← g506] at A506 D506 st506
          have sz_b506 : h0.size ≤ b506 := Nat.le_trans Kg.1 (Nat.le_of_eq g506.symm)
          have ge_b506 : n0 ≤ b506 := Nat.le_trans Z0 sz_b506
          have K506 : Keep h0 h506 [] := Kg.ext E506
          have kle506 : 0 ≤ h506.size := Nat.le_trans kleg E506.1
          have F_b506_onlyMarkersLeft_506 : Fld Z h506 b506 cRR nOM "Z" (.int (0 : Int32)) := D506 (Or.inr (tw hw 105 rfl)) (ty := .boolean) (by decide)
          have F_b506_firstUnreadTimestamp_506 : Fld Z h506 b506 cRR nLT dOL .null := D506 (Or.inr (tw hw 107 rfl)) (ty := (.object cOL)) (by decide)
          have F_b506_newestTimestamp_506 : Fld Z h506 b506 cRR nNT dOL .null := D506 (Or.inr (tw hw 109 rfl)) (ty := (.object cOL)) (by decide)
          have F_b506_lookedAt_506 : Fld Z h506 b506 cRR "lookedAt" "J" (.long (0 : Int64)) := D506 (Or.inr (tw hw 111 rfl)) (ty := .long) (by decide)
          refine gsW T506 (mkF m 158 (lw0 q1 q2 p1 q3 q4 q5 1 0 0 0 u15 uo ue uf un em em) [(.ref b506)]) st506 ?_
          refine gsW T506 (mkF m 159 (lw0 q1 q2 p1 q3 q4 q5 1 0 0 0 u15 uo ue uf un em em) [(.ref b506), (.ref b506)]) (fun _ hr => XS.dup X506.here hx rfl (hb hby at_158) rfl rfl hr) ?_
          refine gsW T506 (mkF m 161 (lw0 q1 q2 p1 q3 q4 q5 1 0 0 0 u15 uo ue uf un em em) [(.int (0 : Int32)), (.ref b506), (.ref b506)]) (fun _ hr => XS.iload X506.here hx rfl (hb hby at_159) rfl  hr) ?_
          refine gsW T506 (mkF m 163 (lw0 q1 q2 p1 q3 q4 q5 1 0 0 0 u15 uo ue uf un em em) [(.ref em), (.int (0 : Int32)), (.ref b506), (.ref b506)]) (fun _ hr => XS.aload X506.here hx rfl (hb hby at_161) rfl rfl hr) ?_
          refine gsW T506 (mkF m 165 (lw0 q1 q2 p1 q3 q4 q5 1 0 0 0 u15 uo ue uf un em em) [(.ref em), (.ref em), (.int (0 : Int32)), (.ref b506), (.ref b506)]) (fun _ hr => XS.aload X506.here hx rfl (hb hby at_163) rfl rfl hr) ?_
          refine gsW T506 (mkF m 167 (lw0 q1 q2 p1 q3 q4 q5 1 0 0 0 u15 uo ue uf un em em) [(.long q5), (.ref em), (.ref em), (.int (0 : Int32)), (.ref b506), (.ref b506)]) (fun _ hr => XT.lload X506.here hx rfl (hb hby at_165) rfl hr) ?_
          have Zs507 : n0 ≤ h506.size := Nat.le_trans Z0 K506.1
          obtain ⟨_, _, ⟨T508, L508, k508, n508⟩, -, X508, Sc508, gr508, ⟨Lc508, hQ508, l508, y508, z508⟩, st508⟩ := X506.specialBackS hx (y := Y32) rfl hown (mvT hZ (tw hw 97 rfl)) (mvT hZ (tw hw 98 rfl)) (mvT hZ (tw hw 99 rfl)) (by decide) (backOfS (W := 1) (rm_rinit0 l Z a0 hw [] b506 em em q5 h506 n0 Zs507 (Old.keep O0 K506 hws) A506 F_b506_onlyMarkersLeft_506 F_b506_firstUnreadTimestamp_506 F_b506_newestTimestamp_506 F_b506_lookedAt_506 ge_b506) hZ (tw hw 99 rfl) (tw hw 96 rfl) (by decide) (by decide)) (g := (mkF m 167 (lw0 q1 q2 p1 q3 q4 q5 1 0 0 0 u15 uo ue uf un em em) [(.long q5), (.ref em), (.ref em), (.int (0 : Int32)), (.ref b506), (.ref b506)])) rfl (by rw [hml]; rfl) (Steps.refl _) (a := b506) (argsL := [(.int (0 : Int32)), (.ref em), (.ref em), (.long q5)]) (rest := [(.ref b506)]) (lenOf pd_20 rfl) rfl (wle rfl) (hb hby at_167) (fun _ _ => ⟨rfl, e506, (by decide : 3 + 4 ≤ _), (by decide : 8 + 148 ≤ _)⟩)
          dsimp only [Pt.U, Pt.locs, Pt.cells, Pt.slots] at X508 l508 y508 z508 st508 hQ508 Sc508 gr508
          subst l508 y508 z508
          have Sn508 := Sn0.trans Sc508 (Nat.le_trans (show 0 ≤ T506.heap.size by rw [(e506 : T506.heap = h506)]; exact kle506) gr508)
          have hZ508 : Z.Warmed39 (s.setVm T508.vm).vm := State.Warmed39.trans (t := s.setVm s.vm) hZ Sc508.1
          have hown508 : (s.setVm T508.vm).vm.findClass "com/example/log_lag_gauge/loglaggauge/model/PositionLagTimeLagMsPinLaw" = some m.cls := by rw [show (s.setVm T508.vm).vm = T508.vm from rfl, Sc508.1.alike.findClass]; exact hown
          have kle508 : T508.heap.size ≤ T508.heap.size := Nat.le_refl _
          obtain ⟨rfl, N508q, Kc508, P508_0, P508_1, P508_2, P508_3⟩ := hQ508
          have N508 := Fr.app Ng N508q
          have E_b506_508 : Exa Z T508.heap b506 cRR := A506.keep Kc508
          have K508 : Keep h0 T508.heap [] := K506.trans Kc508 (allS (Or.inr sz_b506) all0)
          have F_b506_onlyMarkersLeft_508c : Fld Z T508.heap b506 cRR nOM "Z" (.int (0 : Int32)) := P508_0
          have F_b506_firstUnreadTimestamp_508c : Fld Z T508.heap b506 cRR nLT dOL (.ref em) := P508_1
          have F_b506_newestTimestamp_508c : Fld Z T508.heap b506 cRR nNT dOL (.ref em) := P508_2
          refine gsW T508 (mkF m 170 (lw0 q1 q2 p1 q3 q4 q5 1 0 0 0 u15 uo ue uf un em em) [(.ref b506)]) (fun _ hr => st508.trans hr) ?_
          have Zs509 : n0 ≤ T508.heap.size := Nat.le_trans Z0 K508.1
          obtain ⟨_, _, ⟨T510, L510, k510, n510⟩, -, X510, ⟨Lc510, hQ510, l510, y510, z510⟩, st510⟩ := LawKit.callS X508 hx (y := Y15) hown508 (mvT hZ508 (tw hw 112 rfl)) (mvT hZ508 (tw hw 113 rfl)) (mvT hZ508 (tw hw 8 rfl)) (mvT hZ508 (tw hw 114 rfl)) (by decide) (backOf (W := 0) (rm_oof l Z a0 hw [] b506 T508.heap n0 Zs509 (Old.keep O0 K508 hws)) hZ508 (tw hw 114 rfl) (tw hw 8 rfl) (by decide) (by decide)) (g := (mkF m 170 (lw0 q1 q2 p1 q3 q4 q5 1 0 0 0 u15 uo ue uf un em em) [(.ref b506)])) rfl (by rw [hml]; rfl) (argsL := [(.ref b506)]) (rest := []) (lenOf pd_15 rfl) rfl (wle rfl) (hb hby at_170) (fun _ _ => ⟨rfl, rfl, (by decide : 7 + 1 ≤ _), (by decide : 156 + 1 ≤ _)⟩)
          dsimp only [Pt.U, Pt.locs, Pt.cells, Pt.slots] at X510 l510 y510 z510 st510 hQ510
          subst l510 y510 z510
          obtain ⟨w510, rfl, N510q, Kc510, P510_0, P510_1, P510_2⟩ := hQ510
          have N510 := Fr.app N508 N510q
          have E_b506_510 : Exa Z T510.heap b506 cRR := E_b506_508.keep Kc510
          have F_b506_onlyMarkersLeft_510 : Fld Z T510.heap b506 cRR nOM "Z" (.int (0 : Int32)) := F_b506_onlyMarkersLeft_508c.keep Kc510 nin0
          have F_b506_firstUnreadTimestamp_510 : Fld Z T510.heap b506 cRR nLT dOL (.ref em) := F_b506_firstUnreadTimestamp_508c.keep Kc510 nin0
          have F_b506_newestTimestamp_510 : Fld Z T510.heap b506 cRR nNT dOL (.ref em) := F_b506_newestTimestamp_508c.keep Kc510 nin0
          have K510 : Keep h0 T510.heap [] := K508.trans Kc510 all0
          have kle510 : T508.heap.size ≤ T510.heap.size := Nat.le_trans kle508 Kc510.1
          have E_w510_510c : Exa Z T510.heap w510 cOP := P510_1
          have F_w510_value_510c : Fld Z T510.heap w510 cOP "value" dOB (.ref b506) := P510_2
          refine gsW T510 (mkF m 173 (lw0 q1 q2 p1 q3 q4 q5 1 0 0 0 u15 uo ue uf un em em) [(.ref w510)]) st510 ?_
          refine gsW T510 (mkF m 175 (lw1 q1 q2 p1 q3 q4 q5 1 0 0 0 u15 uo ue uf un em em w510) []) (fun _ hr => XS.astore X510.here hx rfl (hb hby at_173) rfl rfl (l' := (lw1 q1 q2 p1 q3 q4 q5 1 0 0 0 u15 uo ue uf un em em w510)) rfl hr) ?_
          refine gsW T510 (mkF m 183 (lw1 q1 q2 p1 q3 q4 q5 1 0 0 0 u15 uo ue uf un em em w510) []) (fun _ hr => XS.goto X510.here hx rfl (pc0 := 175) (pc' := 183) rfl (hb hby at_175) (by decide) (by decide) hr) ?_
          obtain ⟨T511, h511, X511, e511, E511, A511, D511, -, st511⟩ := newO X510 hx hZ508 hown508 (tw hw 11 rfl) (tw hw 12 rfl) (tw hw 13 rfl) rfl (g := (mkF m 183 (lw1 q1 q2 p1 q3 q4 q5 1 0 0 0 u15 uo ue uf un em em w510) [])) rfl (hb hby at_183) (by decide) (by decide)
          obtain ⟨b511, g511⟩ : ∃ z, z = T510.heap.size := ⟨_, rfl⟩
          rw [← g511] at A511 D511 st511
          have sz_b511 : h0.size ≤ b511 := Nat.le_trans K510.1 (Nat.le_of_eq g511.symm)
          have ge_b511 : n0 ≤ b511 := Nat.le_trans Z0 sz_b511
          have E_b506_511 : Exa Z h511 b506 cRR := E_b506_510.ext E511
          have F_b506_onlyMarkersLeft_511 : Fld Z h511 b506 cRR nOM "Z" (.int (0 : Int32)) := F_b506_onlyMarkersLeft_510.ext E511
          have F_b506_firstUnreadTimestamp_511 : Fld Z h511 b506 cRR nLT dOL (.ref em) := F_b506_firstUnreadTimestamp_510.ext E511
          have F_b506_newestTimestamp_511 : Fld Z h511 b506 cRR nNT dOL (.ref em) := F_b506_newestTimestamp_510.ext E511
          have E_w510_511 : Exa Z h511 w510 cOP := E_w510_510c.ext E511
          have F_w510_value_511 : Fld Z h511 w510 cOP "value" dOB (.ref b506) := F_w510_value_510c.ext E511
          have K511 : Keep h0 h511 [] := K510.ext E511
          have kle511 : T508.heap.size ≤ h511.size := Nat.le_trans kle510 E511.1
          have F_b511_offset_511 : Fld Z h511 b511 cPL "offset" "J" (.long (0 : Int64)) := D511 (Or.inr (tw hw 38 rfl)) (ty := .long) (by decide)
          have F_b511_end_511 : Fld Z h511 b511 cPL "end" "J" (.long (0 : Int64)) := D511 (Or.inr (tw hw 40 rfl)) (ty := .long) (by decide)
          have F_b511_records_511 : Fld Z h511 b511 cPL "records" dOP .null := D511 (Or.inr (tw hw 42 rfl)) (ty := (.object cOP)) (by decide)
          refine gsW T511 (mkF m 186 (lw1 q1 q2 p1 q3 q4 q5 1 0 0 0 u15 uo ue uf un em em w510) [(.ref b511)]) st511 ?_
          refine gsW T511 (mkF m 187 (lw1 q1 q2 p1 q3 q4 q5 1 0 0 0 u15 uo ue uf un em em w510) [(.ref b511), (.ref b511)]) (fun _ hr => XS.dup X511.here hx rfl (hb hby at_186) rfl rfl hr) ?_
          refine gsW T511 (mkF m 189 (lw1 q1 q2 p1 q3 q4 q5 1 0 0 0 u15 uo ue uf un em em w510) [(.long uo), (.ref b511), (.ref b511)]) (fun _ hr => XT.lload X511.here hx rfl (hb hby at_187) rfl hr) ?_
          refine gsW T511 (mkF m 191 (lw1 q1 q2 p1 q3 q4 q5 1 0 0 0 u15 uo ue uf un em em w510) [(.long ue), (.long uo), (.ref b511), (.ref b511)]) (fun _ hr => XT.lload X511.here hx rfl (hb hby at_189) rfl hr) ?_
          refine gsW T511 (mkF m 193 (lw1 q1 q2 p1 q3 q4 q5 1 0 0 0 u15 uo ue uf un em em w510) [(.ref w510), (.long ue), (.long uo), (.ref b511), (.ref b511)]) (fun _ hr => XS.aload X511.here hx rfl (hb hby at_191) rfl rfl hr) ?_
          have Zs512 : n0 ≤ h511.size := Nat.le_trans Z0 K511.1
          obtain ⟨_, _, ⟨T513, L513, k513, n513⟩, -, X513, Sc513, gr513, ⟨Lc513, hQ513, l513, y513, z513⟩, st513⟩ := X511.specialBackS hx (y := Y31) rfl hown508 (mvT hZ508 (tw hw 14 rfl)) (mvT hZ508 (tw hw 15 rfl)) (mvT hZ508 (tw hw 16 rfl)) (by decide) (backOfS (W := 1) (rm_pinit l Z a0 hw [] b511 uo ue w510 h511 n0 Zs512 (Old.keep O0 K511 hws) A511 F_b511_offset_511 F_b511_end_511 F_b511_records_511 ge_b511) hZ508 (tw hw 16 rfl) (tw hw 13 rfl) (by decide) (by decide)) (g := (mkF m 193 (lw1 q1 q2 p1 q3 q4 q5 1 0 0 0 u15 uo ue uf un em em w510) [(.ref w510), (.long ue), (.long uo), (.ref b511), (.ref b511)])) rfl (by rw [hml]; rfl) (Steps.refl _) (a := b511) (argsL := [(.long uo), (.long ue), (.ref w510)]) (rest := [(.ref b511)]) (lenOf pd_19 rfl) rfl (wle rfl) (hb hby at_193) (fun _ _ => ⟨rfl, e511, (by decide : 9 + 2 ≤ _), (by decide : 160 + 32 ≤ _)⟩)
          dsimp only [Pt.U, Pt.locs, Pt.cells, Pt.slots] at X513 l513 y513 z513 st513 hQ513 Sc513 gr513
          subst l513 y513 z513
          have Sn513 := Sn508.trans Sc513 (Nat.le_trans (show T508.heap.size ≤ T511.heap.size by rw [(e511 : T511.heap = h511)]; exact kle511) gr513)
          have hZ513 : Z.Warmed39 (s.setVm T513.vm).vm := State.Warmed39.trans (t := s.setVm T508.vm) hZ508 Sc513.1
          have hown513 : (s.setVm T513.vm).vm.findClass "com/example/log_lag_gauge/loglaggauge/model/PositionLagTimeLagMsPinLaw" = some m.cls := by rw [show (s.setVm T513.vm).vm = T513.vm from rfl, Sc513.1.alike.findClass]; exact hown508
          have kle513 : T513.heap.size ≤ T513.heap.size := Nat.le_refl _
          obtain ⟨rfl, N513q, Kc513, P513_0, P513_1, P513_2⟩ := hQ513
          have N513 := Fr.app N510 N513q
          have E_b506_513 : Exa Z T513.heap b506 cRR := E_b506_511.keep Kc513
          have F_b506_onlyMarkersLeft_513 : Fld Z T513.heap b506 cRR nOM "Z" (.int (0 : Int32)) := F_b506_onlyMarkersLeft_511.keep Kc513 (ninS (Nat.ne_of_lt (Nat.lt_of_lt_of_le E_b506_510.lt (Nat.le_of_eq g511.symm))) nin0)
          have F_b506_firstUnreadTimestamp_513 : Fld Z T513.heap b506 cRR nLT dOL (.ref em) := F_b506_firstUnreadTimestamp_511.keep Kc513 (ninS (Nat.ne_of_lt (Nat.lt_of_lt_of_le E_b506_510.lt (Nat.le_of_eq g511.symm))) nin0)
          have F_b506_newestTimestamp_513 : Fld Z T513.heap b506 cRR nNT dOL (.ref em) := F_b506_newestTimestamp_511.keep Kc513 (ninS (Nat.ne_of_lt (Nat.lt_of_lt_of_le E_b506_510.lt (Nat.le_of_eq g511.symm))) nin0)
          have E_w510_513 : Exa Z T513.heap w510 cOP := E_w510_511.keep Kc513
          have F_w510_value_513 : Fld Z T513.heap w510 cOP "value" dOB (.ref b506) := F_w510_value_511.keep Kc513 (ninS (Nat.ne_of_lt (Nat.lt_of_lt_of_le E_w510_510c.lt (Nat.le_of_eq g511.symm))) nin0)
          have E_b511_513 : Exa Z T513.heap b511 cPL := A511.keep Kc513
          have K513 : Keep h0 T513.heap [] := K511.trans Kc513 (allS (Or.inr sz_b511) all0)
          have F_b511_offset_513c : Fld Z T513.heap b511 cPL "offset" "J" (.long uo) := P513_0
          have F_b511_end_513c : Fld Z T513.heap b511 cPL "end" "J" (.long ue) := P513_1
          have F_b511_records_513c : Fld Z T513.heap b511 cPL "records" dOP (.ref w510) := P513_2
          refine gsW T513 (mkF m 196 (lw1 q1 q2 p1 q3 q4 q5 1 0 0 0 u15 uo ue uf un em em w510) [(.ref b511)]) (fun _ hr => st513.trans hr) ?_
          refine gsW T513 (mkF m 198 (lw2 q1 q2 p1 q3 q4 q5 1 0 0 0 u15 uo ue uf un em em w510 b511) []) (fun _ hr => XS.astore X513.here hx rfl (hb hby at_196) rfl rfl (l' := (lw2 q1 q2 p1 q3 q4 q5 1 0 0 0 u15 uo ue uf un em em w510 b511)) rfl hr) ?_
          refine gsW T513 (mkF m 200 (lw2 q1 q2 p1 q3 q4 q5 1 0 0 0 u15 uo ue uf un em em w510 b511) [(.ref b511)]) (fun _ hr => XS.aload X513.here hx rfl (hb hby at_198) rfl rfl hr) ?_
          have Zs514 : n0 ≤ T513.heap.size := Nat.le_trans Z0 K513.1
          obtain ⟨cq515, kq515, q515a, q515b, q515c⟩ := isOf hZ513 rfl E_b511_513
          obtain ⟨_, _, ⟨T515, L515, k515, n515⟩, -, X515, ⟨Lc515, hQ515, l515, y515, z515⟩, st515⟩ := X513.virtualBack hx (y := Y30) (z := Y30) hown513 (mvT hZ513 (tw hw 43 rfl)) (mvT hZ513 (tw hw 44 rfl)) (notFace_of_selects (args := #[]) (mvT hZ513 (tw hw 46 rfl))) (mvT hZ513 (tw hw 46 rfl)) (mvT hZ513 (tw hw 45 rfl)) (by decide) (backOf (W := 0) (rm_age_pem l Z a0 hw [] b511 b506 em uo ue w510 eo em T513.heap n0 Zs514 (Old.keep O0 K513 hws) E_b511_513 F_b511_offset_513c F_b511_end_513c F_b511_records_513c E_w510_513 F_w510_value_513 E_b506_513 F_b506_onlyMarkersLeft_513 F_b506_firstUnreadTimestamp_513 F_b506_newestTimestamp_513 S_OptionalLong_EMPTY_old E_em_old F_em_isPresent_old F_em_value_old S_Optional_EMPTY_old E_eo_old F_eo_value_old hle hpp) hZ513 (tw hw 47 rfl) (tw hw 13 rfl) (by decide) (by decide)) q515a q515c (g := (mkF m 200 (lw2 q1 q2 p1 q3 q4 q5 1 0 0 0 u15 uo ue uf un em em w510 b511) [(.ref b511)])) rfl (by rw [hml]; rfl) (Steps.refl _) (argsL := []) (rest := []) (lenOf pd_6 rfl) rfl (wle rfl) (hb hby at_200) (fun _ _ => ⟨rfl, rfl, (by decide : 11 + 6 ≤ _), (by decide : 192 + 10 ≤ _)⟩)
          dsimp only [Pt.U, Pt.locs, Pt.cells, Pt.slots] at X515 l515 y515 z515 st515 hQ515
          subst l515 y515 z515
          obtain ⟨w515, rfl, N515q, Kc515, P515_0, P515_1, P515_2, P515_3⟩ := hQ515
          have N515 := Fr.app N513 N515q
          have K515 : Keep h0 T515.heap [] := K513.trans Kc515 all0
          have kle515 : T513.heap.size ≤ T515.heap.size := Nat.le_trans kle513 Kc515.1
          have E_w515_515c : Exa Z T515.heap w515 cOL := P515_1
          have F_w515_isPresent_515c : Fld Z T515.heap w515 cOL nIP "Z" (.int (1 : Int32)) := P515_2
          have F_w515_value_515c : Fld Z T515.heap w515 cOL "value" "J" (.long (0 : Int64)) := P515_3
          refine gsW T515 (mkF m 203 (lw2 q1 q2 p1 q3 q4 q5 1 0 0 0 u15 uo ue uf un em em w510 b511) [(.ref w515)]) (fun _ hr => st515.trans hr) ?_
          refine gsW T515 (mkF m 205 (lw3 q1 q2 p1 q3 q4 q5 1 0 0 0 u15 uo ue uf un em em w510 b511 w515) []) (fun _ hr => XS.astore X515.here hx rfl (hb hby at_203) rfl rfl (l' := (lw3 q1 q2 p1 q3 q4 q5 1 0 0 0 u15 uo ue uf un em em w510 b511 w515)) rfl hr) ?_
          refine gsW T515 (mkF m 206 (lw3 q1 q2 p1 q3 q4 q5 1 0 0 0 u15 uo ue uf un em em w510 b511 w515) [(.long (0 : Int64))]) (fun _ hr => XT.lconst X515.here hx rfl (hb hby at_205) hr) ?_
          refine gsW T515 (mkF m 208 (lw4 q1 q2 p1 q3 q4 q5 1 0 0 0 u15 uo ue uf un em em w510 b511 w515 (0 : Int64)) []) (fun _ hr => XT.lstore X515.here hx rfl (hb hby at_206) rfl (l' := (lw4 q1 q2 p1 q3 q4 q5 1 0 0 0 u15 uo ue uf un em em w510 b511 w515 (0 : Int64))) rfl hr) ?_
          refine gsW T515 (mkF m 210 (lw4 q1 q2 p1 q3 q4 q5 1 0 0 0 u15 uo ue uf un em em w510 b511 w515 (0 : Int64)) [(.int (1 : Int32))]) (fun _ hr => XS.iload X515.here hx rfl (hb hby at_208) rfl  hr) ?_
          refine gsW T515 (mkF m 213 (lw4 q1 q2 p1 q3 q4 q5 1 0 0 0 u15 uo ue uf un em em w510 b511 w515 (0 : Int64)) []) (fun _ hr => XS.ifNo X515.here hx rfl (hb hby at_210) rfl ((if0 _ _).trans (feq (by decide : ¬ ((1 : Int32) = (0 : Int32)))).1) hr) ?_
          refine gsW T515 (mkF m 215 (lw4 q1 q2 p1 q3 q4 q5 1 0 0 0 u15 uo ue uf un em em w510 b511 w515 (0 : Int64)) [(.long uo)]) (fun _ hr => XT.lload X515.here hx rfl (hb hby at_213) rfl hr) ?_
          refine gsW T515 (mkF m 217 (lw4 q1 q2 p1 q3 q4 q5 1 0 0 0 u15 uo ue uf un em em w510 b511 w515 (0 : Int64)) [(.long ue), (.long uo)]) (fun _ hr => XT.lload X515.here hx rfl (hb hby at_215) rfl hr) ?_
          refine gsW T515 (mkF m 218 (lw4 q1 q2 p1 q3 q4 q5 1 0 0 0 u15 uo ue uf un em em w510 b511 w515 (0 : Int64)) [(.int (XT.cmpL uo ue))]) (fun _ hr => XT.lcmp X515.here hx rfl (hb hby at_217) rfl hr) ?_
          refine gsW T515 (mkF m 227 (lw4 q1 q2 p1 q3 q4 q5 1 0 0 0 u15 uo ue uf un em em w510 b511 w515 (0 : Int64)) []) (fun _ hr => XS.ifYes X515.here hx rfl (pc0 := 218) (pc' := 227) rfl (hb hby at_218) rfl ((if0 _ _).trans (flt (hle : ¬ ((0 : Int32) < (XT.cmpL uo ue)))).2.2.2) (by decide) (by decide) hr) ?_
          refine gsW T515 (mkF m 228 (lw4 q1 q2 p1 q3 q4 q5 1 0 0 0 u15 uo ue uf un em em w510 b511 w515 (0 : Int64)) [(.int (0 : Int32))]) (fun _ hr => XS.iconst X515.here hx rfl (hb hby at_227) hr) ?_
          refine gsW T515 (mkF m 230 (lw5 q1 q2 p1 q3 q4 q5 1 0 0 0 u15 uo ue uf un em em w510 b511 w515 0 (0 : Int64)) []) (fun _ hr => XS.istore X515.here hx rfl (hb hby at_228) rfl (l' := (lw5 q1 q2 p1 q3 q4 q5 1 0 0 0 u15 uo ue uf un em em w510 b511 w515 0 (0 : Int64))) rfl hr) ?_
          refine gsW T515 (mkF m 232 (lw5 q1 q2 p1 q3 q4 q5 1 0 0 0 u15 uo ue uf un em em w510 b511 w515 0 (0 : Int64)) [(.long uo)]) (fun _ hr => XT.lload X515.here hx rfl (hb hby at_230) rfl hr) ?_
          refine gsW T515 (mkF m 234 (lw5 q1 q2 p1 q3 q4 q5 1 0 0 0 u15 uo ue uf un em em w510 b511 w515 0 (0 : Int64)) [(.long ue), (.long uo)]) (fun _ hr => XT.lload X515.here hx rfl (hb hby at_232) rfl hr) ?_
          refine gsW T515 (mkF m 235 (lw5 q1 q2 p1 q3 q4 q5 1 0 0 0 u15 uo ue uf un em em w510 b511 w515 0 (0 : Int64)) [(.int (XT.cmpL uo ue))]) (fun _ hr => XT.lcmp X515.here hx rfl (hb hby at_234) rfl hr) ?_
          refine gsW T515 (mkF m 238 (lw5 q1 q2 p1 q3 q4 q5 1 0 0 0 u15 uo ue uf un em em w510 b511 w515 0 (0 : Int64)) []) (fun _ hr => XS.ifNo X515.here hx rfl (hb hby at_235) rfl ((if0 _ _).trans (tlt ((own_lt0 hle hne) : (XT.cmpL uo ue) < (0 : Int32))).2.1) hr) ?_
          refine gsW T515 (mkF m 240 (lw5 q1 q2 p1 q3 q4 q5 1 0 0 0 u15 uo ue uf un em em w510 b511 w515 0 (0 : Int64)) [(.int (0 : Int32))]) (fun _ hr => XS.iload X515.here hx rfl (hb hby at_238) rfl  hr) ?_
          refine gsW T515 (mkF m 243 (lw5 q1 q2 p1 q3 q4 q5 1 0 0 0 u15 uo ue uf un em em w510 b511 w515 0 (0 : Int64)) []) (fun _ hr => XS.ifNo X515.here hx rfl (hb hby at_240) rfl ((if0 _ _).trans (teq (by decide : (0 : Int32) = (0 : Int32))).2) hr) ?_
          refine gsW T515 (mkF m 245 (lw5 q1 q2 p1 q3 q4 q5 1 0 0 0 u15 uo ue uf un em em w510 b511 w515 0 (0 : Int64)) [(.int (0 : Int32))]) (fun _ hr => XS.iload X515.here hx rfl (hb hby at_243) rfl  hr) ?_
          refine gsW T515 (mkF m 268 (lw5 q1 q2 p1 q3 q4 q5 1 0 0 0 u15 uo ue uf un em em w510 b511 w515 0 (0 : Int64)) []) (fun _ hr => XS.ifYes X515.here hx rfl (pc0 := 245) (pc' := 268) rfl (hb hby at_245) rfl ((if0 _ _).trans (teq (by decide : (0 : Int32) = (0 : Int32))).1) (by decide) (by decide) hr) ?_
          refine gsW T515 (mkF m 270 (lw5 q1 q2 p1 q3 q4 q5 1 0 0 0 u15 uo ue uf un em em w510 b511 w515 0 (0 : Int64)) [(.int (0 : Int32))]) (fun _ hr => XS.iload X515.here hx rfl (hb hby at_268) rfl  hr) ?_
          refine gsW T515 (mkF m 279 (lw5 q1 q2 p1 q3 q4 q5 1 0 0 0 u15 uo ue uf un em em w510 b511 w515 0 (0 : Int64)) []) (fun _ hr => XS.ifYes X515.here hx rfl (pc0 := 270) (pc' := 279) rfl (hb hby at_270) rfl ((if0 _ _).trans (teq (by decide : (0 : Int32) = (0 : Int32))).1) (by decide) (by decide) hr) ?_
          refine gsW T515 (mkF m 281 (lw5 q1 q2 p1 q3 q4 q5 1 0 0 0 u15 uo ue uf un em em w510 b511 w515 0 (0 : Int64)) [(.ref w515)]) (fun _ hr => XS.aload X515.here hx rfl (hb hby at_279) rfl rfl hr) ?_
          have Zs516 : n0 ≤ T515.heap.size := Nat.le_trans Z0 K515.1
          obtain ⟨cq517, kq517, q517a, q517b, q517c⟩ := isOf hZ513 rfl E_w515_515c
          obtain ⟨_, _, ⟨T517, L517, k517, n517⟩, -, X517, ⟨Lc517, hQ517, l517, y517, z517⟩, st517⟩ := X515.virtualBack hx (y := Y5) (z := Y5) hown513 (mvT hZ513 (tw hw 185 rfl)) (mvT hZ513 (tw hw 156 rfl)) (notFace_of_selects (args := #[]) (mvT hZ513 (tw hw 158 rfl))) (mvT hZ513 (tw hw 158 rfl)) (mvT hZ513 (tw hw 157 rfl)) (by decide) (backOf (W := 0) (rm_olp1 l Z a0 hw [] w515 T515.heap n0 Zs516 (Old.keep O0 K515 hws) F_w515_isPresent_515c) hZ513 (tw hw 159 rfl) (tw hw 3 rfl) (by decide) (by decide)) q517a q517c (g := (mkF m 281 (lw5 q1 q2 p1 q3 q4 q5 1 0 0 0 u15 uo ue uf un em em w510 b511 w515 0 (0 : Int64)) [(.ref w515)])) rfl (by rw [hml]; rfl) (Steps.refl _) (argsL := []) (rest := []) (lenOf pd_1 rfl) rfl (wle rfl) (hb hby at_281) (fun _ _ => ⟨rfl, rfl, (by decide : 17 + 0 ≤ _), (by decide : 202 + 0 ≤ _)⟩)
          dsimp only [Pt.U, Pt.locs, Pt.cells, Pt.slots] at X517 l517 y517 z517 st517 hQ517
          subst l517 y517 z517
          obtain ⟨rfl, N517q, e517⟩ := hQ517
          have N517 := Fr.app N515 N517q
          refine gsW T517 (mkF m 284 (lw5 q1 q2 p1 q3 q4 q5 1 0 0 0 u15 uo ue uf un em em w510 b511 w515 0 (0 : Int64)) [(.int (1 : Int32))]) (fun _ hr => st517.trans hr) ?_
          refine gsW T517 (mkF m 287 (lw5 q1 q2 p1 q3 q4 q5 1 0 0 0 u15 uo ue uf un em em w510 b511 w515 0 (0 : Int64)) []) (fun _ hr => XS.ifNo X517.here hx rfl (hb hby at_284) rfl ((if0 _ _).trans (feq (by decide : ¬ ((1 : Int32) = (0 : Int32)))).1) hr) ?_
          refine gsW T517 (mkF m 289 (lw5 q1 q2 p1 q3 q4 q5 1 0 0 0 u15 uo ue uf un em em w510 b511 w515 0 (0 : Int64)) [(.ref w515)]) (fun _ hr => XS.aload X517.here hx rfl (hb hby at_287) rfl rfl hr) ?_
          have Zs518 : n0 ≤ T515.heap.size := Nat.le_trans Z0 K515.1
          obtain ⟨cq519, kq519, q519a, q519b, q519c⟩ := isOf hZ513 e517 E_w515_515c
          obtain ⟨_, _, ⟨T519, L519, k519, n519⟩, -, X519, ⟨Lc519, hQ519, l519, y519, z519⟩, st519⟩ := X517.virtualBack hx (y := Y7) (z := Y7) hown513 (mvT hZ513 (tw hw 186 rfl)) (mvT hZ513 (tw hw 150 rfl)) (notFace_of_selects (args := #[]) (mvT hZ513 (tw hw 152 rfl))) (mvT hZ513 (tw hw 152 rfl)) (mvT hZ513 (tw hw 151 rfl)) (by decide) (backOf (W := 0) (rm_olg l Z a0 hw [] w515 (0 : Int64) T515.heap n0 Zs518 (Old.keep O0 K515 hws) F_w515_isPresent_515c F_w515_value_515c) hZ513 (tw hw 153 rfl) (tw hw 3 rfl) (by decide) (by decide)) q519a q519c (g := (mkF m 289 (lw5 q1 q2 p1 q3 q4 q5 1 0 0 0 u15 uo ue uf un em em w510 b511 w515 0 (0 : Int64)) [(.ref w515)])) rfl (by rw [hml]; rfl) (Steps.refl _) (argsL := []) (rest := []) (lenOf pd_5 rfl) rfl (wle rfl) (hb hby at_289) (fun _ _ => ⟨rfl, e517, (by decide : 17 + 0 ≤ _), (by decide : 202 + 0 ≤ _)⟩)
          dsimp only [Pt.U, Pt.locs, Pt.cells, Pt.slots] at X519 l519 y519 z519 st519 hQ519
          subst l519 y519 z519
          obtain ⟨rfl, N519q, e519⟩ := hQ519
          have N519 := Fr.app N517 N519q
          refine gsW T519 (mkF m 292 (lw5 q1 q2 p1 q3 q4 q5 1 0 0 0 u15 uo ue uf un em em w510 b511 w515 0 (0 : Int64)) [(.long (0 : Int64))]) (fun _ hr => st519.trans hr) ?_
          refine gsW T519 (mkF m 294 (lw5 q1 q2 p1 q3 q4 q5 1 0 0 0 u15 uo ue uf un em em w510 b511 w515 0 (0 : Int64)) [(.long (0 : Int64)), (.long (0 : Int64))]) (fun _ hr => XT.lload X519.here hx rfl (hb hby at_292) rfl hr) ?_
          refine gsW T519 (mkF m 295 (lw5 q1 q2 p1 q3 q4 q5 1 0 0 0 u15 uo ue uf un em em w510 b511 w515 0 (0 : Int64)) [(.int (XT.cmpL (0 : Int64) (0 : Int64)))]) (fun _ hr => XT.lcmp X519.here hx rfl (hb hby at_294) rfl hr) ?_
          rw [cmpL_self]
          refine gsW T519 (mkF m 298 (lw5 q1 q2 p1 q3 q4 q5 1 0 0 0 u15 uo ue uf un em em w510 b511 w515 0 (0 : Int64)) []) (fun _ hr => XS.ifNo X519.here hx rfl (hb hby at_295) rfl ((if0 _ _).trans (teq (by decide : (0 : Int32) = (0 : Int32))).2) hr) ?_
          refine gsW T519 (mkF m 299 (lw5 q1 q2 p1 q3 q4 q5 1 0 0 0 u15 uo ue uf un em em w510 b511 w515 0 (0 : Int64)) [(.int (1 : Int32))]) (fun _ hr => XS.iconst X519.here hx rfl (hb hby at_298) hr) ?_
          refine gsW T519 (mkF m 303 (lw5 q1 q2 p1 q3 q4 q5 1 0 0 0 u15 uo ue uf un em em w510 b511 w515 0 (0 : Int64)) [(.int (1 : Int32))]) (fun _ hr => XS.goto X519.here hx rfl (pc0 := 299) (pc' := 303) rfl (hb hby at_299) (by decide) (by decide) hr) ?_
          exact GoesW.ret (v := some (.int (1 : Int32))) X519 Sn513 (by rw [e519]; exact kle515) (by decide) (by decide) (fun h => by rw [Bd.returns] at h; cases h) ⟨rfl, N519⟩ (fun fs hr => retN X519 hx (t := .boolean) Bd.returns (by simp) (hb hby at_303) hr)
        · obtain ⟨T520, h520, X520, e520, E520, A520, D520, -, st520⟩ := newO Xg hx hZ hown (tw hw 94 rfl) (tw hw 95 rfl) (tw hw 96 rfl) eg (g := (mkF m 155 (lw0 q1 q2 p1 q3 q4 q5 1 0 0 1 u15 uo ue uf un em nw) [])) rfl (hb hby at_155) (by decide) (by decide)
          obtain ⟨b520, g520⟩ : ∃ z, z = hg.size := ⟨_, rfl⟩
          rw [← g520] at A520 D520 st520
          have sz_b520 : h0.size ≤ b520 := Nat.le_trans Kg.1 (Nat.le_of_eq g520.symm)
          have ge_b520 : n0 ≤ b520 := Nat.le_trans Z0 sz_b520
          have E_nw_520 : Exa Z h520 nw cOL := E_nw_g.ext E520
          have F_nw_isPresent_520 : Fld Z h520 nw cOL nIP "Z" (.int (1 : Int32)) := F_nw_isPresent_g.ext E520
          have F_nw_value_520 : Fld Z h520 nw cOL "value" "J" (.long un) := F_nw_value_g.ext E520
          have K520 : Keep h0 h520 [] := Kg.ext E520
          have kle520 : 0 ≤ h520.size := Nat.le_trans kleg E520.1
          have F_b520_onlyMarkersLeft_520 : Fld Z h520 b520 cRR nOM "Z" (.int (0 : Int32)) := D520 (Or.inr (tw hw 105 rfl)) (ty := .boolean) (by decide)
          have F_b520_firstUnreadTimestamp_520 : Fld Z h520 b520 cRR nLT dOL .null := D520 (Or.inr (tw hw 107 rfl)) (ty := (.object cOL)) (by decide)
          have F_b520_newestTimestamp_520 : Fld Z h520 b520 cRR nNT dOL .null := D520 (Or.inr (tw hw 109 rfl)) (ty := (.object cOL)) (by decide)
          have F_b520_lookedAt_520 : Fld Z h520 b520 cRR "lookedAt" "J" (.long (0 : Int64)) := D520 (Or.inr (tw hw 111 rfl)) (ty := .long) (by decide)
          refine gsW T520 (mkF m 158 (lw0 q1 q2 p1 q3 q4 q5 1 0 0 1 u15 uo ue uf un em nw) [(.ref b520)]) st520 ?_
          refine gsW T520 (mkF m 159 (lw0 q1 q2 p1 q3 q4 q5 1 0 0 1 u15 uo ue uf un em nw) [(.ref b520), (.ref b520)]) (fun _ hr => XS.dup X520.here hx rfl (hb hby at_158) rfl rfl hr) ?_
          refine gsW T520 (mkF m 161 (lw0 q1 q2 p1 q3 q4 q5 1 0 0 1 u15 uo ue uf un em nw) [(.int (0 : Int32)), (.ref b520), (.ref b520)]) (fun _ hr => XS.iload X520.here hx rfl (hb hby at_159) rfl  hr) ?_
          refine gsW T520 (mkF m 163 (lw0 q1 q2 p1 q3 q4 q5 1 0 0 1 u15 uo ue uf un em nw) [(.ref em), (.int (0 : Int32)), (.ref b520), (.ref b520)]) (fun _ hr => XS.aload X520.here hx rfl (hb hby at_161) rfl rfl hr) ?_
          refine gsW T520 (mkF m 165 (lw0 q1 q2 p1 q3 q4 q5 1 0 0 1 u15 uo ue uf un em nw) [(.ref nw), (.ref em), (.int (0 : Int32)), (.ref b520), (.ref b520)]) (fun _ hr => XS.aload X520.here hx rfl (hb hby at_163) rfl rfl hr) ?_
          refine gsW T520 (mkF m 167 (lw0 q1 q2 p1 q3 q4 q5 1 0 0 1 u15 uo ue uf un em nw) [(.long q5), (.ref nw), (.ref em), (.int (0 : Int32)), (.ref b520), (.ref b520)]) (fun _ hr => XT.lload X520.here hx rfl (hb hby at_165) rfl hr) ?_
          have Zs521 : n0 ≤ h520.size := Nat.le_trans Z0 K520.1
          obtain ⟨_, _, ⟨T522, L522, k522, n522⟩, -, X522, Sc522, gr522, ⟨Lc522, hQ522, l522, y522, z522⟩, st522⟩ := X520.specialBackS hx (y := Y32) rfl hown (mvT hZ (tw hw 97 rfl)) (mvT hZ (tw hw 98 rfl)) (mvT hZ (tw hw 99 rfl)) (by decide) (backOfS (W := 1) (rm_rinit0 l Z a0 hw [] b520 em nw q5 h520 n0 Zs521 (Old.keep O0 K520 hws) A520 F_b520_onlyMarkersLeft_520 F_b520_firstUnreadTimestamp_520 F_b520_newestTimestamp_520 F_b520_lookedAt_520 ge_b520) hZ (tw hw 99 rfl) (tw hw 96 rfl) (by decide) (by decide)) (g := (mkF m 167 (lw0 q1 q2 p1 q3 q4 q5 1 0 0 1 u15 uo ue uf un em nw) [(.long q5), (.ref nw), (.ref em), (.int (0 : Int32)), (.ref b520), (.ref b520)])) rfl (by rw [hml]; rfl) (Steps.refl _) (a := b520) (argsL := [(.int (0 : Int32)), (.ref em), (.ref nw), (.long q5)]) (rest := [(.ref b520)]) (lenOf pd_20 rfl) rfl (wle rfl) (hb hby at_167) (fun _ _ => ⟨rfl, e520, (by decide : 3 + 4 ≤ _), (by decide : 8 + 148 ≤ _)⟩)
          dsimp only [Pt.U, Pt.locs, Pt.cells, Pt.slots] at X522 l522 y522 z522 st522 hQ522 Sc522 gr522
          subst l522 y522 z522
          have Sn522 := Sn0.trans Sc522 (Nat.le_trans (show 0 ≤ T520.heap.size by rw [(e520 : T520.heap = h520)]; exact kle520) gr522)
          have hZ522 : Z.Warmed39 (s.setVm T522.vm).vm := State.Warmed39.trans (t := s.setVm s.vm) hZ Sc522.1
          have hown522 : (s.setVm T522.vm).vm.findClass "com/example/log_lag_gauge/loglaggauge/model/PositionLagTimeLagMsPinLaw" = some m.cls := by rw [show (s.setVm T522.vm).vm = T522.vm from rfl, Sc522.1.alike.findClass]; exact hown
          have kle522 : T522.heap.size ≤ T522.heap.size := Nat.le_refl _
          obtain ⟨rfl, N522q, Kc522, P522_0, P522_1, P522_2, P522_3⟩ := hQ522
          have N522 := Fr.app Ng N522q
          have E_nw_522 : Exa Z T522.heap nw cOL := E_nw_520.keep Kc522
          have F_nw_isPresent_522 : Fld Z T522.heap nw cOL nIP "Z" (.int (1 : Int32)) := F_nw_isPresent_520.keep Kc522 (ninS (Nat.ne_of_lt (Nat.lt_of_lt_of_le E_nw_g.lt (Nat.le_of_eq g520.symm))) nin0)
          have F_nw_value_522 : Fld Z T522.heap nw cOL "value" "J" (.long un) := F_nw_value_520.keep Kc522 (ninS (Nat.ne_of_lt (Nat.lt_of_lt_of_le E_nw_g.lt (Nat.le_of_eq g520.symm))) nin0)
          have E_b520_522 : Exa Z T522.heap b520 cRR := A520.keep Kc522
          have K522 : Keep h0 T522.heap [] := K520.trans Kc522 (allS (Or.inr sz_b520) all0)
          have F_b520_onlyMarkersLeft_522c : Fld Z T522.heap b520 cRR nOM "Z" (.int (0 : Int32)) := P522_0
          have F_b520_firstUnreadTimestamp_522c : Fld Z T522.heap b520 cRR nLT dOL (.ref em) := P522_1
          have F_b520_newestTimestamp_522c : Fld Z T522.heap b520 cRR nNT dOL (.ref nw) := P522_2
          refine gsW T522 (mkF m 170 (lw0 q1 q2 p1 q3 q4 q5 1 0 0 1 u15 uo ue uf un em nw) [(.ref b520)]) (fun _ hr => st522.trans hr) ?_
          have Zs523 : n0 ≤ T522.heap.size := Nat.le_trans Z0 K522.1
          obtain ⟨_, _, ⟨T524, L524, k524, n524⟩, -, X524, ⟨Lc524, hQ524, l524, y524, z524⟩, st524⟩ := LawKit.callS X522 hx (y := Y15) hown522 (mvT hZ522 (tw hw 112 rfl)) (mvT hZ522 (tw hw 113 rfl)) (mvT hZ522 (tw hw 8 rfl)) (mvT hZ522 (tw hw 114 rfl)) (by decide) (backOf (W := 0) (rm_oof l Z a0 hw [] b520 T522.heap n0 Zs523 (Old.keep O0 K522 hws)) hZ522 (tw hw 114 rfl) (tw hw 8 rfl) (by decide) (by decide)) (g := (mkF m 170 (lw0 q1 q2 p1 q3 q4 q5 1 0 0 1 u15 uo ue uf un em nw) [(.ref b520)])) rfl (by rw [hml]; rfl) (argsL := [(.ref b520)]) (rest := []) (lenOf pd_15 rfl) rfl (wle rfl) (hb hby at_170) (fun _ _ => ⟨rfl, rfl, (by decide : 7 + 1 ≤ _), (by decide : 156 + 1 ≤ _)⟩)
          dsimp only [Pt.U, Pt.locs, Pt.cells, Pt.slots] at X524 l524 y524 z524 st524 hQ524
          subst l524 y524 z524
          obtain ⟨w524, rfl, N524q, Kc524, P524_0, P524_1, P524_2⟩ := hQ524
          have N524 := Fr.app N522 N524q
          have E_nw_524 : Exa Z T524.heap nw cOL := E_nw_522.keep Kc524
          have F_nw_isPresent_524 : Fld Z T524.heap nw cOL nIP "Z" (.int (1 : Int32)) := F_nw_isPresent_522.keep Kc524 nin0
          have F_nw_value_524 : Fld Z T524.heap nw cOL "value" "J" (.long un) := F_nw_value_522.keep Kc524 nin0
          have E_b520_524 : Exa Z T524.heap b520 cRR := E_b520_522.keep Kc524
          have F_b520_onlyMarkersLeft_524 : Fld Z T524.heap b520 cRR nOM "Z" (.int (0 : Int32)) := F_b520_onlyMarkersLeft_522c.keep Kc524 nin0
          have F_b520_firstUnreadTimestamp_524 : Fld Z T524.heap b520 cRR nLT dOL (.ref em) := F_b520_firstUnreadTimestamp_522c.keep Kc524 nin0
          have F_b520_newestTimestamp_524 : Fld Z T524.heap b520 cRR nNT dOL (.ref nw) := F_b520_newestTimestamp_522c.keep Kc524 nin0
          have K524 : Keep h0 T524.heap [] := K522.trans Kc524 all0
          have kle524 : T522.heap.size ≤ T524.heap.size := Nat.le_trans kle522 Kc524.1
          have E_w524_524c : Exa Z T524.heap w524 cOP := P524_1
          have F_w524_value_524c : Fld Z T524.heap w524 cOP "value" dOB (.ref b520) := P524_2
          refine gsW T524 (mkF m 173 (lw0 q1 q2 p1 q3 q4 q5 1 0 0 1 u15 uo ue uf un em nw) [(.ref w524)]) st524 ?_
          refine gsW T524 (mkF m 175 (lw1 q1 q2 p1 q3 q4 q5 1 0 0 1 u15 uo ue uf un em nw w524) []) (fun _ hr => XS.astore X524.here hx rfl (hb hby at_173) rfl rfl (l' := (lw1 q1 q2 p1 q3 q4 q5 1 0 0 1 u15 uo ue uf un em nw w524)) rfl hr) ?_
          refine gsW T524 (mkF m 183 (lw1 q1 q2 p1 q3 q4 q5 1 0 0 1 u15 uo ue uf un em nw w524) []) (fun _ hr => XS.goto X524.here hx rfl (pc0 := 175) (pc' := 183) rfl (hb hby at_175) (by decide) (by decide) hr) ?_
          obtain ⟨T525, h525, X525, e525, E525, A525, D525, -, st525⟩ := newO X524 hx hZ522 hown522 (tw hw 11 rfl) (tw hw 12 rfl) (tw hw 13 rfl) rfl (g := (mkF m 183 (lw1 q1 q2 p1 q3 q4 q5 1 0 0 1 u15 uo ue uf un em nw w524) [])) rfl (hb hby at_183) (by decide) (by decide)
          obtain ⟨b525, g525⟩ : ∃ z, z = T524.heap.size := ⟨_, rfl⟩
          rw [← g525] at A525 D525 st525
          have sz_b525 : h0.size ≤ b525 := Nat.le_trans K524.1 (Nat.le_of_eq g525.symm)
          have ge_b525 : n0 ≤ b525 := Nat.le_trans Z0 sz_b525
          have E_nw_525 : Exa Z h525 nw cOL := E_nw_524.ext E525
          have F_nw_isPresent_525 : Fld Z h525 nw cOL nIP "Z" (.int (1 : Int32)) := F_nw_isPresent_524.ext E525
          have F_nw_value_525 : Fld Z h525 nw cOL "value" "J" (.long un) := F_nw_value_524.ext E525
          have E_b520_525 : Exa Z h525 b520 cRR := E_b520_524.ext E525
          have F_b520_onlyMarkersLeft_525 : Fld Z h525 b520 cRR nOM "Z" (.int (0 : Int32)) := F_b520_onlyMarkersLeft_524.ext E525
          have F_b520_firstUnreadTimestamp_525 : Fld Z h525 b520 cRR nLT dOL (.ref em) := F_b520_firstUnreadTimestamp_524.ext E525
          have F_b520_newestTimestamp_525 : Fld Z h525 b520 cRR nNT dOL (.ref nw) := F_b520_newestTimestamp_524.ext E525
          have E_w524_525 : Exa Z h525 w524 cOP := E_w524_524c.ext E525
          have F_w524_value_525 : Fld Z h525 w524 cOP "value" dOB (.ref b520) := F_w524_value_524c.ext E525
          have K525 : Keep h0 h525 [] := K524.ext E525
          have kle525 : T522.heap.size ≤ h525.size := Nat.le_trans kle524 E525.1
          have F_b525_offset_525 : Fld Z h525 b525 cPL "offset" "J" (.long (0 : Int64)) := D525 (Or.inr (tw hw 38 rfl)) (ty := .long) (by decide)
          have F_b525_end_525 : Fld Z h525 b525 cPL "end" "J" (.long (0 : Int64)) := D525 (Or.inr (tw hw 40 rfl)) (ty := .long) (by decide)
          have F_b525_records_525 : Fld Z h525 b525 cPL "records" dOP .null := D525 (Or.inr (tw hw 42 rfl)) (ty := (.object cOP)) (by decide)
          refine gsW T525 (mkF m 186 (lw1 q1 q2 p1 q3 q4 q5 1 0 0 1 u15 uo ue uf un em nw w524) [(.ref b525)]) st525 ?_
          refine gsW T525 (mkF m 187 (lw1 q1 q2 p1 q3 q4 q5 1 0 0 1 u15 uo ue uf un em nw w524) [(.ref b525), (.ref b525)]) (fun _ hr => XS.dup X525.here hx rfl (hb hby at_186) rfl rfl hr) ?_
          refine gsW T525 (mkF m 189 (lw1 q1 q2 p1 q3 q4 q5 1 0 0 1 u15 uo ue uf un em nw w524) [(.long uo), (.ref b525), (.ref b525)]) (fun _ hr => XT.lload X525.here hx rfl (hb hby at_187) rfl hr) ?_
          refine gsW T525 (mkF m 191 (lw1 q1 q2 p1 q3 q4 q5 1 0 0 1 u15 uo ue uf un em nw w524) [(.long ue), (.long uo), (.ref b525), (.ref b525)]) (fun _ hr => XT.lload X525.here hx rfl (hb hby at_189) rfl hr) ?_
          refine gsW T525 (mkF m 193 (lw1 q1 q2 p1 q3 q4 q5 1 0 0 1 u15 uo ue uf un em nw w524) [(.ref w524), (.long ue), (.long uo), (.ref b525), (.ref b525)]) (fun _ hr => XS.aload X525.here hx rfl (hb hby at_191) rfl rfl hr) ?_
          have Zs526 : n0 ≤ h525.size := Nat.le_trans Z0 K525.1
          obtain ⟨_, _, ⟨T527, L527, k527, n527⟩, -, X527, Sc527, gr527, ⟨Lc527, hQ527, l527, y527, z527⟩, st527⟩ := X525.specialBackS hx (y := Y31) rfl hown522 (mvT hZ522 (tw hw 14 rfl)) (mvT hZ522 (tw hw 15 rfl)) (mvT hZ522 (tw hw 16 rfl)) (by decide) (backOfS (W := 1) (rm_pinit l Z a0 hw [] b525 uo ue w524 h525 n0 Zs526 (Old.keep O0 K525 hws) A525 F_b525_offset_525 F_b525_end_525 F_b525_records_525 ge_b525) hZ522 (tw hw 16 rfl) (tw hw 13 rfl) (by decide) (by decide)) (g := (mkF m 193 (lw1 q1 q2 p1 q3 q4 q5 1 0 0 1 u15 uo ue uf un em nw w524) [(.ref w524), (.long ue), (.long uo), (.ref b525), (.ref b525)])) rfl (by rw [hml]; rfl) (Steps.refl _) (a := b525) (argsL := [(.long uo), (.long ue), (.ref w524)]) (rest := [(.ref b525)]) (lenOf pd_19 rfl) rfl (wle rfl) (hb hby at_193) (fun _ _ => ⟨rfl, e525, (by decide : 9 + 2 ≤ _), (by decide : 160 + 32 ≤ _)⟩)
          dsimp only [Pt.U, Pt.locs, Pt.cells, Pt.slots] at X527 l527 y527 z527 st527 hQ527 Sc527 gr527
          subst l527 y527 z527
          have Sn527 := Sn522.trans Sc527 (Nat.le_trans (show T522.heap.size ≤ T525.heap.size by rw [(e525 : T525.heap = h525)]; exact kle525) gr527)
          have hZ527 : Z.Warmed39 (s.setVm T527.vm).vm := State.Warmed39.trans (t := s.setVm T522.vm) hZ522 Sc527.1
          have hown527 : (s.setVm T527.vm).vm.findClass "com/example/log_lag_gauge/loglaggauge/model/PositionLagTimeLagMsPinLaw" = some m.cls := by rw [show (s.setVm T527.vm).vm = T527.vm from rfl, Sc527.1.alike.findClass]; exact hown522
          have kle527 : T527.heap.size ≤ T527.heap.size := Nat.le_refl _
          obtain ⟨rfl, N527q, Kc527, P527_0, P527_1, P527_2⟩ := hQ527
          have N527 := Fr.app N524 N527q
          have E_nw_527 : Exa Z T527.heap nw cOL := E_nw_525.keep Kc527
          have F_nw_isPresent_527 : Fld Z T527.heap nw cOL nIP "Z" (.int (1 : Int32)) := F_nw_isPresent_525.keep Kc527 (ninS (Nat.ne_of_lt (Nat.lt_of_lt_of_le E_nw_524.lt (Nat.le_of_eq g525.symm))) nin0)
          have F_nw_value_527 : Fld Z T527.heap nw cOL "value" "J" (.long un) := F_nw_value_525.keep Kc527 (ninS (Nat.ne_of_lt (Nat.lt_of_lt_of_le E_nw_524.lt (Nat.le_of_eq g525.symm))) nin0)
          have E_b520_527 : Exa Z T527.heap b520 cRR := E_b520_525.keep Kc527
          have F_b520_onlyMarkersLeft_527 : Fld Z T527.heap b520 cRR nOM "Z" (.int (0 : Int32)) := F_b520_onlyMarkersLeft_525.keep Kc527 (ninS (Nat.ne_of_lt (Nat.lt_of_lt_of_le E_b520_524.lt (Nat.le_of_eq g525.symm))) nin0)
          have F_b520_firstUnreadTimestamp_527 : Fld Z T527.heap b520 cRR nLT dOL (.ref em) := F_b520_firstUnreadTimestamp_525.keep Kc527 (ninS (Nat.ne_of_lt (Nat.lt_of_lt_of_le E_b520_524.lt (Nat.le_of_eq g525.symm))) nin0)
          have F_b520_newestTimestamp_527 : Fld Z T527.heap b520 cRR nNT dOL (.ref nw) := F_b520_newestTimestamp_525.keep Kc527 (ninS (Nat.ne_of_lt (Nat.lt_of_lt_of_le E_b520_524.lt (Nat.le_of_eq g525.symm))) nin0)
          have E_w524_527 : Exa Z T527.heap w524 cOP := E_w524_525.keep Kc527
          have F_w524_value_527 : Fld Z T527.heap w524 cOP "value" dOB (.ref b520) := F_w524_value_525.keep Kc527 (ninS (Nat.ne_of_lt (Nat.lt_of_lt_of_le E_w524_524c.lt (Nat.le_of_eq g525.symm))) nin0)
          have E_b525_527 : Exa Z T527.heap b525 cPL := A525.keep Kc527
          have K527 : Keep h0 T527.heap [] := K525.trans Kc527 (allS (Or.inr sz_b525) all0)
          have F_b525_offset_527c : Fld Z T527.heap b525 cPL "offset" "J" (.long uo) := P527_0
          have F_b525_end_527c : Fld Z T527.heap b525 cPL "end" "J" (.long ue) := P527_1
          have F_b525_records_527c : Fld Z T527.heap b525 cPL "records" dOP (.ref w524) := P527_2
          refine gsW T527 (mkF m 196 (lw1 q1 q2 p1 q3 q4 q5 1 0 0 1 u15 uo ue uf un em nw w524) [(.ref b525)]) (fun _ hr => st527.trans hr) ?_
          refine gsW T527 (mkF m 198 (lw2 q1 q2 p1 q3 q4 q5 1 0 0 1 u15 uo ue uf un em nw w524 b525) []) (fun _ hr => XS.astore X527.here hx rfl (hb hby at_196) rfl rfl (l' := (lw2 q1 q2 p1 q3 q4 q5 1 0 0 1 u15 uo ue uf un em nw w524 b525)) rfl hr) ?_
          refine gsW T527 (mkF m 200 (lw2 q1 q2 p1 q3 q4 q5 1 0 0 1 u15 uo ue uf un em nw w524 b525) [(.ref b525)]) (fun _ hr => XS.aload X527.here hx rfl (hb hby at_198) rfl rfl hr) ?_
          have Zs528 : n0 ≤ T527.heap.size := Nat.le_trans Z0 K527.1
          obtain ⟨cq529, kq529, q529a, q529b, q529c⟩ := isOf hZ527 rfl E_b525_527
          obtain ⟨_, _, ⟨T529, L529, k529, n529⟩, -, X529, ⟨Lc529, hQ529, l529, y529, z529⟩, st529⟩ := X527.virtualBack hx (y := Y30) (z := Y30) hown527 (mvT hZ527 (tw hw 43 rfl)) (mvT hZ527 (tw hw 44 rfl)) (notFace_of_selects (args := #[]) (mvT hZ527 (tw hw 46 rfl))) (mvT hZ527 (tw hw 46 rfl)) (mvT hZ527 (tw hw 45 rfl)) (by decide) (backOf (W := 0) (rm_age_p1em l Z a0 hw [] b525 b520 em uo ue w524 eo nw un T527.heap n0 Zs528 (Old.keep O0 K527 hws) E_b525_527 F_b525_offset_527c F_b525_end_527c F_b525_records_527c E_w524_527 F_w524_value_527 E_b520_527 F_b520_onlyMarkersLeft_527 F_b520_firstUnreadTimestamp_527 E_nw_527 F_nw_isPresent_527 F_nw_value_527 F_b520_newestTimestamp_527 S_OptionalLong_EMPTY_old E_em_old F_em_isPresent_old F_em_value_old S_Optional_EMPTY_old E_eo_old F_eo_value_old hle hpp) hZ527 (tw hw 47 rfl) (tw hw 13 rfl) (by decide) (by decide)) q529a q529c (g := (mkF m 200 (lw2 q1 q2 p1 q3 q4 q5 1 0 0 1 u15 uo ue uf un em nw w524 b525) [(.ref b525)])) rfl (by rw [hml]; rfl) (Steps.refl _) (argsL := []) (rest := []) (lenOf pd_6 rfl) rfl (wle rfl) (hb hby at_200) (fun _ _ => ⟨rfl, rfl, (by decide : 11 + 6 ≤ _), (by decide : 192 + 10 ≤ _)⟩)
          dsimp only [Pt.U, Pt.locs, Pt.cells, Pt.slots] at X529 l529 y529 z529 st529 hQ529
          subst l529 y529 z529
          obtain ⟨w529, rfl, N529q, Kc529, P529_0, P529_1, P529_2, P529_3⟩ := hQ529
          have N529 := Fr.app N527 N529q
          have K529 : Keep h0 T529.heap [] := K527.trans Kc529 all0
          have kle529 : T527.heap.size ≤ T529.heap.size := Nat.le_trans kle527 Kc529.1
          have E_w529_529c : Exa Z T529.heap w529 cOL := P529_1
          have F_w529_isPresent_529c : Fld Z T529.heap w529 cOL nIP "Z" (.int (1 : Int32)) := P529_2
          have F_w529_value_529c : Fld Z T529.heap w529 cOL "value" "J" (.long (0 : Int64)) := P529_3
          refine gsW T529 (mkF m 203 (lw2 q1 q2 p1 q3 q4 q5 1 0 0 1 u15 uo ue uf un em nw w524 b525) [(.ref w529)]) (fun _ hr => st529.trans hr) ?_
          refine gsW T529 (mkF m 205 (lw3 q1 q2 p1 q3 q4 q5 1 0 0 1 u15 uo ue uf un em nw w524 b525 w529) []) (fun _ hr => XS.astore X529.here hx rfl (hb hby at_203) rfl rfl (l' := (lw3 q1 q2 p1 q3 q4 q5 1 0 0 1 u15 uo ue uf un em nw w524 b525 w529)) rfl hr) ?_
          refine gsW T529 (mkF m 206 (lw3 q1 q2 p1 q3 q4 q5 1 0 0 1 u15 uo ue uf un em nw w524 b525 w529) [(.long (0 : Int64))]) (fun _ hr => XT.lconst X529.here hx rfl (hb hby at_205) hr) ?_
          refine gsW T529 (mkF m 208 (lw4 q1 q2 p1 q3 q4 q5 1 0 0 1 u15 uo ue uf un em nw w524 b525 w529 (0 : Int64)) []) (fun _ hr => XT.lstore X529.here hx rfl (hb hby at_206) rfl (l' := (lw4 q1 q2 p1 q3 q4 q5 1 0 0 1 u15 uo ue uf un em nw w524 b525 w529 (0 : Int64))) rfl hr) ?_
          refine gsW T529 (mkF m 210 (lw4 q1 q2 p1 q3 q4 q5 1 0 0 1 u15 uo ue uf un em nw w524 b525 w529 (0 : Int64)) [(.int (1 : Int32))]) (fun _ hr => XS.iload X529.here hx rfl (hb hby at_208) rfl  hr) ?_
          refine gsW T529 (mkF m 213 (lw4 q1 q2 p1 q3 q4 q5 1 0 0 1 u15 uo ue uf un em nw w524 b525 w529 (0 : Int64)) []) (fun _ hr => XS.ifNo X529.here hx rfl (hb hby at_210) rfl ((if0 _ _).trans (feq (by decide : ¬ ((1 : Int32) = (0 : Int32)))).1) hr) ?_
          refine gsW T529 (mkF m 215 (lw4 q1 q2 p1 q3 q4 q5 1 0 0 1 u15 uo ue uf un em nw w524 b525 w529 (0 : Int64)) [(.long uo)]) (fun _ hr => XT.lload X529.here hx rfl (hb hby at_213) rfl hr) ?_
          refine gsW T529 (mkF m 217 (lw4 q1 q2 p1 q3 q4 q5 1 0 0 1 u15 uo ue uf un em nw w524 b525 w529 (0 : Int64)) [(.long ue), (.long uo)]) (fun _ hr => XT.lload X529.here hx rfl (hb hby at_215) rfl hr) ?_
          refine gsW T529 (mkF m 218 (lw4 q1 q2 p1 q3 q4 q5 1 0 0 1 u15 uo ue uf un em nw w524 b525 w529 (0 : Int64)) [(.int (XT.cmpL uo ue))]) (fun _ hr => XT.lcmp X529.here hx rfl (hb hby at_217) rfl hr) ?_
          refine gsW T529 (mkF m 227 (lw4 q1 q2 p1 q3 q4 q5 1 0 0 1 u15 uo ue uf un em nw w524 b525 w529 (0 : Int64)) []) (fun _ hr => XS.ifYes X529.here hx rfl (pc0 := 218) (pc' := 227) rfl (hb hby at_218) rfl ((if0 _ _).trans (flt (hle : ¬ ((0 : Int32) < (XT.cmpL uo ue)))).2.2.2) (by decide) (by decide) hr) ?_
          refine gsW T529 (mkF m 228 (lw4 q1 q2 p1 q3 q4 q5 1 0 0 1 u15 uo ue uf un em nw w524 b525 w529 (0 : Int64)) [(.int (0 : Int32))]) (fun _ hr => XS.iconst X529.here hx rfl (hb hby at_227) hr) ?_
          refine gsW T529 (mkF m 230 (lw5 q1 q2 p1 q3 q4 q5 1 0 0 1 u15 uo ue uf un em nw w524 b525 w529 0 (0 : Int64)) []) (fun _ hr => XS.istore X529.here hx rfl (hb hby at_228) rfl (l' := (lw5 q1 q2 p1 q3 q4 q5 1 0 0 1 u15 uo ue uf un em nw w524 b525 w529 0 (0 : Int64))) rfl hr) ?_
          refine gsW T529 (mkF m 232 (lw5 q1 q2 p1 q3 q4 q5 1 0 0 1 u15 uo ue uf un em nw w524 b525 w529 0 (0 : Int64)) [(.long uo)]) (fun _ hr => XT.lload X529.here hx rfl (hb hby at_230) rfl hr) ?_
          refine gsW T529 (mkF m 234 (lw5 q1 q2 p1 q3 q4 q5 1 0 0 1 u15 uo ue uf un em nw w524 b525 w529 0 (0 : Int64)) [(.long ue), (.long uo)]) (fun _ hr => XT.lload X529.here hx rfl (hb hby at_232) rfl hr) ?_
          refine gsW T529 (mkF m 235 (lw5 q1 q2 p1 q3 q4 q5 1 0 0 1 u15 uo ue uf un em nw w524 b525 w529 0 (0 : Int64)) [(.int (XT.cmpL uo ue))]) (fun _ hr => XT.lcmp X529.here hx rfl (hb hby at_234) rfl hr) ?_
          refine gsW T529 (mkF m 238 (lw5 q1 q2 p1 q3 q4 q5 1 0 0 1 u15 uo ue uf un em nw w524 b525 w529 0 (0 : Int64)) []) (fun _ hr => XS.ifNo X529.here hx rfl (hb hby at_235) rfl ((if0 _ _).trans (tlt ((own_lt0 hle hne) : (XT.cmpL uo ue) < (0 : Int32))).2.1) hr) ?_
          refine gsW T529 (mkF m 240 (lw5 q1 q2 p1 q3 q4 q5 1 0 0 1 u15 uo ue uf un em nw w524 b525 w529 0 (0 : Int64)) [(.int (0 : Int32))]) (fun _ hr => XS.iload X529.here hx rfl (hb hby at_238) rfl  hr) ?_
          refine gsW T529 (mkF m 243 (lw5 q1 q2 p1 q3 q4 q5 1 0 0 1 u15 uo ue uf un em nw w524 b525 w529 0 (0 : Int64)) []) (fun _ hr => XS.ifNo X529.here hx rfl (hb hby at_240) rfl ((if0 _ _).trans (teq (by decide : (0 : Int32) = (0 : Int32))).2) hr) ?_
          refine gsW T529 (mkF m 245 (lw5 q1 q2 p1 q3 q4 q5 1 0 0 1 u15 uo ue uf un em nw w524 b525 w529 0 (0 : Int64)) [(.int (0 : Int32))]) (fun _ hr => XS.iload X529.here hx rfl (hb hby at_243) rfl  hr) ?_
          refine gsW T529 (mkF m 268 (lw5 q1 q2 p1 q3 q4 q5 1 0 0 1 u15 uo ue uf un em nw w524 b525 w529 0 (0 : Int64)) []) (fun _ hr => XS.ifYes X529.here hx rfl (pc0 := 245) (pc' := 268) rfl (hb hby at_245) rfl ((if0 _ _).trans (teq (by decide : (0 : Int32) = (0 : Int32))).1) (by decide) (by decide) hr) ?_
          refine gsW T529 (mkF m 270 (lw5 q1 q2 p1 q3 q4 q5 1 0 0 1 u15 uo ue uf un em nw w524 b525 w529 0 (0 : Int64)) [(.int (0 : Int32))]) (fun _ hr => XS.iload X529.here hx rfl (hb hby at_268) rfl  hr) ?_
          refine gsW T529 (mkF m 279 (lw5 q1 q2 p1 q3 q4 q5 1 0 0 1 u15 uo ue uf un em nw w524 b525 w529 0 (0 : Int64)) []) (fun _ hr => XS.ifYes X529.here hx rfl (pc0 := 270) (pc' := 279) rfl (hb hby at_270) rfl ((if0 _ _).trans (teq (by decide : (0 : Int32) = (0 : Int32))).1) (by decide) (by decide) hr) ?_
          refine gsW T529 (mkF m 281 (lw5 q1 q2 p1 q3 q4 q5 1 0 0 1 u15 uo ue uf un em nw w524 b525 w529 0 (0 : Int64)) [(.ref w529)]) (fun _ hr => XS.aload X529.here hx rfl (hb hby at_279) rfl rfl hr) ?_
          have Zs530 : n0 ≤ T529.heap.size := Nat.le_trans Z0 K529.1
          obtain ⟨cq531, kq531, q531a, q531b, q531c⟩ := isOf hZ527 rfl E_w529_529c
          obtain ⟨_, _, ⟨T531, L531, k531, n531⟩, -, X531, ⟨Lc531, hQ531, l531, y531, z531⟩, st531⟩ := X529.virtualBack hx (y := Y5) (z := Y5) hown527 (mvT hZ527 (tw hw 185 rfl)) (mvT hZ527 (tw hw 156 rfl)) (notFace_of_selects (args := #[]) (mvT hZ527 (tw hw 158 rfl))) (mvT hZ527 (tw hw 158 rfl)) (mvT hZ527 (tw hw 157 rfl)) (by decide) (backOf (W := 0) (rm_olp1 l Z a0 hw [] w529 T529.heap n0 Zs530 (Old.keep O0 K529 hws) F_w529_isPresent_529c) hZ527 (tw hw 159 rfl) (tw hw 3 rfl) (by decide) (by decide)) q531a q531c (g := (mkF m 281 (lw5 q1 q2 p1 q3 q4 q5 1 0 0 1 u15 uo ue uf un em nw w524 b525 w529 0 (0 : Int64)) [(.ref w529)])) rfl (by rw [hml]; rfl) (Steps.refl _) (argsL := []) (rest := []) (lenOf pd_1 rfl) rfl (wle rfl) (hb hby at_281) (fun _ _ => ⟨rfl, rfl, (by decide : 17 + 0 ≤ _), (by decide : 202 + 0 ≤ _)⟩)
          dsimp only [Pt.U, Pt.locs, Pt.cells, Pt.slots] at X531 l531 y531 z531 st531 hQ531
          subst l531 y531 z531
          obtain ⟨rfl, N531q, e531⟩ := hQ531
          have N531 := Fr.app N529 N531q
          refine gsW T531 (mkF m 284 (lw5 q1 q2 p1 q3 q4 q5 1 0 0 1 u15 uo ue uf un em nw w524 b525 w529 0 (0 : Int64)) [(.int (1 : Int32))]) (fun _ hr => st531.trans hr) ?_
          refine gsW T531 (mkF m 287 (lw5 q1 q2 p1 q3 q4 q5 1 0 0 1 u15 uo ue uf un em nw w524 b525 w529 0 (0 : Int64)) []) (fun _ hr => XS.ifNo X531.here hx rfl (hb hby at_284) rfl ((if0 _ _).trans (feq (by decide : ¬ ((1 : Int32) = (0 : Int32)))).1) hr) ?_
          refine gsW T531 (mkF m 289 (lw5 q1 q2 p1 q3 q4 q5 1 0 0 1 u15 uo ue uf un em nw w524 b525 w529 0 (0 : Int64)) [(.ref w529)]) (fun _ hr => XS.aload X531.here hx rfl (hb hby at_287) rfl rfl hr) ?_
          have Zs532 : n0 ≤ T529.heap.size := Nat.le_trans Z0 K529.1
          obtain ⟨cq533, kq533, q533a, q533b, q533c⟩ := isOf hZ527 e531 E_w529_529c
          obtain ⟨_, _, ⟨T533, L533, k533, n533⟩, -, X533, ⟨Lc533, hQ533, l533, y533, z533⟩, st533⟩ := X531.virtualBack hx (y := Y7) (z := Y7) hown527 (mvT hZ527 (tw hw 186 rfl)) (mvT hZ527 (tw hw 150 rfl)) (notFace_of_selects (args := #[]) (mvT hZ527 (tw hw 152 rfl))) (mvT hZ527 (tw hw 152 rfl)) (mvT hZ527 (tw hw 151 rfl)) (by decide) (backOf (W := 0) (rm_olg l Z a0 hw [] w529 (0 : Int64) T529.heap n0 Zs532 (Old.keep O0 K529 hws) F_w529_isPresent_529c F_w529_value_529c) hZ527 (tw hw 153 rfl) (tw hw 3 rfl) (by decide) (by decide)) q533a q533c (g := (mkF m 289 (lw5 q1 q2 p1 q3 q4 q5 1 0 0 1 u15 uo ue uf un em nw w524 b525 w529 0 (0 : Int64)) [(.ref w529)])) rfl (by rw [hml]; rfl) (Steps.refl _) (argsL := []) (rest := []) (lenOf pd_5 rfl) rfl (wle rfl) (hb hby at_289) (fun _ _ => ⟨rfl, e531, (by decide : 17 + 0 ≤ _), (by decide : 202 + 0 ≤ _)⟩)
          dsimp only [Pt.U, Pt.locs, Pt.cells, Pt.slots] at X533 l533 y533 z533 st533 hQ533
          subst l533 y533 z533
          obtain ⟨rfl, N533q, e533⟩ := hQ533
          have N533 := Fr.app N531 N533q
          refine gsW T533 (mkF m 292 (lw5 q1 q2 p1 q3 q4 q5 1 0 0 1 u15 uo ue uf un em nw w524 b525 w529 0 (0 : Int64)) [(.long (0 : Int64))]) (fun _ hr => st533.trans hr) ?_
          refine gsW T533 (mkF m 294 (lw5 q1 q2 p1 q3 q4 q5 1 0 0 1 u15 uo ue uf un em nw w524 b525 w529 0 (0 : Int64)) [(.long (0 : Int64)), (.long (0 : Int64))]) (fun _ hr => XT.lload X533.here hx rfl (hb hby at_292) rfl hr) ?_
          refine gsW T533 (mkF m 295 (lw5 q1 q2 p1 q3 q4 q5 1 0 0 1 u15 uo ue uf un em nw w524 b525 w529 0 (0 : Int64)) [(.int (XT.cmpL (0 : Int64) (0 : Int64)))]) (fun _ hr => XT.lcmp X533.here hx rfl (hb hby at_294) rfl hr) ?_
          rw [cmpL_self]
          refine gsW T533 (mkF m 298 (lw5 q1 q2 p1 q3 q4 q5 1 0 0 1 u15 uo ue uf un em nw w524 b525 w529 0 (0 : Int64)) []) (fun _ hr => XS.ifNo X533.here hx rfl (hb hby at_295) rfl ((if0 _ _).trans (teq (by decide : (0 : Int32) = (0 : Int32))).2) hr) ?_
          refine gsW T533 (mkF m 299 (lw5 q1 q2 p1 q3 q4 q5 1 0 0 1 u15 uo ue uf un em nw w524 b525 w529 0 (0 : Int64)) [(.int (1 : Int32))]) (fun _ hr => XS.iconst X533.here hx rfl (hb hby at_298) hr) ?_
          refine gsW T533 (mkF m 303 (lw5 q1 q2 p1 q3 q4 q5 1 0 0 1 u15 uo ue uf un em nw w524 b525 w529 0 (0 : Int64)) [(.int (1 : Int32))]) (fun _ hr => XS.goto X533.here hx rfl (pc0 := 299) (pc' := 303) rfl (hb hby at_299) (by decide) (by decide) hr) ?_
          exact GoesW.ret (v := some (.int (1 : Int32))) X533 Sn527 (by rw [e533]; exact kle529) (by decide) (by decide) (fun h => by rw [Bd.returns] at h; cases h) ⟨rfl, N533⟩ (fun fs hr => retN X533 hx (t := .boolean) Bd.returns (by simp) (hb hby at_303) hr)
        · obtain ⟨T534, h534, X534, e534, E534, A534, D534, -, st534⟩ := newO Xg hx hZ hown (tw hw 94 rfl) (tw hw 95 rfl) (tw hw 96 rfl) eg (g := (mkF m 155 (lw0 q1 q2 p1 q3 q4 q5 1 0 1 0 u15 uo ue uf un fu em) [])) rfl (hb hby at_155) (by decide) (by decide)
          obtain ⟨b534, g534⟩ : ∃ z, z = hg.size := ⟨_, rfl⟩
          rw [← g534] at A534 D534 st534
          have sz_b534 : h0.size ≤ b534 := Nat.le_trans Kg.1 (Nat.le_of_eq g534.symm)
          have ge_b534 : n0 ≤ b534 := Nat.le_trans Z0 sz_b534
          have K534 : Keep h0 h534 [] := Kg.ext E534
          have kle534 : 0 ≤ h534.size := Nat.le_trans kleg E534.1
          have F_b534_onlyMarkersLeft_534 : Fld Z h534 b534 cRR nOM "Z" (.int (0 : Int32)) := D534 (Or.inr (tw hw 105 rfl)) (ty := .boolean) (by decide)
          have F_b534_firstUnreadTimestamp_534 : Fld Z h534 b534 cRR nLT dOL .null := D534 (Or.inr (tw hw 107 rfl)) (ty := (.object cOL)) (by decide)
          have F_b534_newestTimestamp_534 : Fld Z h534 b534 cRR nNT dOL .null := D534 (Or.inr (tw hw 109 rfl)) (ty := (.object cOL)) (by decide)
          have F_b534_lookedAt_534 : Fld Z h534 b534 cRR "lookedAt" "J" (.long (0 : Int64)) := D534 (Or.inr (tw hw 111 rfl)) (ty := .long) (by decide)
          refine gsW T534 (mkF m 158 (lw0 q1 q2 p1 q3 q4 q5 1 0 1 0 u15 uo ue uf un fu em) [(.ref b534)]) st534 ?_
          refine gsW T534 (mkF m 159 (lw0 q1 q2 p1 q3 q4 q5 1 0 1 0 u15 uo ue uf un fu em) [(.ref b534), (.ref b534)]) (fun _ hr => XS.dup X534.here hx rfl (hb hby at_158) rfl rfl hr) ?_
          refine gsW T534 (mkF m 161 (lw0 q1 q2 p1 q3 q4 q5 1 0 1 0 u15 uo ue uf un fu em) [(.int (0 : Int32)), (.ref b534), (.ref b534)]) (fun _ hr => XS.iload X534.here hx rfl (hb hby at_159) rfl  hr) ?_
          refine gsW T534 (mkF m 163 (lw0 q1 q2 p1 q3 q4 q5 1 0 1 0 u15 uo ue uf un fu em) [(.ref fu), (.int (0 : Int32)), (.ref b534), (.ref b534)]) (fun _ hr => XS.aload X534.here hx rfl (hb hby at_161) rfl rfl hr) ?_
          refine gsW T534 (mkF m 165 (lw0 q1 q2 p1 q3 q4 q5 1 0 1 0 u15 uo ue uf un fu em) [(.ref em), (.ref fu), (.int (0 : Int32)), (.ref b534), (.ref b534)]) (fun _ hr => XS.aload X534.here hx rfl (hb hby at_163) rfl rfl hr) ?_
          refine gsW T534 (mkF m 167 (lw0 q1 q2 p1 q3 q4 q5 1 0 1 0 u15 uo ue uf un fu em) [(.long q5), (.ref em), (.ref fu), (.int (0 : Int32)), (.ref b534), (.ref b534)]) (fun _ hr => XT.lload X534.here hx rfl (hb hby at_165) rfl hr) ?_
          have Zs535 : n0 ≤ h534.size := Nat.le_trans Z0 K534.1
          obtain ⟨_, _, ⟨T536, L536, k536, n536⟩, -, X536, Sc536, gr536, ⟨Lc536, hQ536, l536, y536, z536⟩, st536⟩ := X534.specialBackS hx (y := Y32) rfl hown (mvT hZ (tw hw 97 rfl)) (mvT hZ (tw hw 98 rfl)) (mvT hZ (tw hw 99 rfl)) (by decide) (backOfS (W := 1) (rm_rinit0 l Z a0 hw [] b534 fu em q5 h534 n0 Zs535 (Old.keep O0 K534 hws) A534 F_b534_onlyMarkersLeft_534 F_b534_firstUnreadTimestamp_534 F_b534_newestTimestamp_534 F_b534_lookedAt_534 ge_b534) hZ (tw hw 99 rfl) (tw hw 96 rfl) (by decide) (by decide)) (g := (mkF m 167 (lw0 q1 q2 p1 q3 q4 q5 1 0 1 0 u15 uo ue uf un fu em) [(.long q5), (.ref em), (.ref fu), (.int (0 : Int32)), (.ref b534), (.ref b534)])) rfl (by rw [hml]; rfl) (Steps.refl _) (a := b534) (argsL := [(.int (0 : Int32)), (.ref fu), (.ref em), (.long q5)]) (rest := [(.ref b534)]) (lenOf pd_20 rfl) rfl (wle rfl) (hb hby at_167) (fun _ _ => ⟨rfl, e534, (by decide : 3 + 4 ≤ _), (by decide : 8 + 148 ≤ _)⟩)
          dsimp only [Pt.U, Pt.locs, Pt.cells, Pt.slots] at X536 l536 y536 z536 st536 hQ536 Sc536 gr536
          subst l536 y536 z536
          have Sn536 := Sn0.trans Sc536 (Nat.le_trans (show 0 ≤ T534.heap.size by rw [(e534 : T534.heap = h534)]; exact kle534) gr536)
          have hZ536 : Z.Warmed39 (s.setVm T536.vm).vm := State.Warmed39.trans (t := s.setVm s.vm) hZ Sc536.1
          have hown536 : (s.setVm T536.vm).vm.findClass "com/example/log_lag_gauge/loglaggauge/model/PositionLagTimeLagMsPinLaw" = some m.cls := by rw [show (s.setVm T536.vm).vm = T536.vm from rfl, Sc536.1.alike.findClass]; exact hown
          have kle536 : T536.heap.size ≤ T536.heap.size := Nat.le_refl _
          obtain ⟨rfl, N536q, Kc536, P536_0, P536_1, P536_2, P536_3⟩ := hQ536
          have N536 := Fr.app Ng N536q
          have E_b534_536 : Exa Z T536.heap b534 cRR := A534.keep Kc536
          have K536 : Keep h0 T536.heap [] := K534.trans Kc536 (allS (Or.inr sz_b534) all0)
          have F_b534_onlyMarkersLeft_536c : Fld Z T536.heap b534 cRR nOM "Z" (.int (0 : Int32)) := P536_0
          have F_b534_firstUnreadTimestamp_536c : Fld Z T536.heap b534 cRR nLT dOL (.ref fu) := P536_1
          have F_b534_newestTimestamp_536c : Fld Z T536.heap b534 cRR nNT dOL (.ref em) := P536_2
          refine gsW T536 (mkF m 170 (lw0 q1 q2 p1 q3 q4 q5 1 0 1 0 u15 uo ue uf un fu em) [(.ref b534)]) (fun _ hr => st536.trans hr) ?_
          have Zs537 : n0 ≤ T536.heap.size := Nat.le_trans Z0 K536.1
          obtain ⟨_, _, ⟨T538, L538, k538, n538⟩, -, X538, ⟨Lc538, hQ538, l538, y538, z538⟩, st538⟩ := LawKit.callS X536 hx (y := Y15) hown536 (mvT hZ536 (tw hw 112 rfl)) (mvT hZ536 (tw hw 113 rfl)) (mvT hZ536 (tw hw 8 rfl)) (mvT hZ536 (tw hw 114 rfl)) (by decide) (backOf (W := 0) (rm_oof l Z a0 hw [] b534 T536.heap n0 Zs537 (Old.keep O0 K536 hws)) hZ536 (tw hw 114 rfl) (tw hw 8 rfl) (by decide) (by decide)) (g := (mkF m 170 (lw0 q1 q2 p1 q3 q4 q5 1 0 1 0 u15 uo ue uf un fu em) [(.ref b534)])) rfl (by rw [hml]; rfl) (argsL := [(.ref b534)]) (rest := []) (lenOf pd_15 rfl) rfl (wle rfl) (hb hby at_170) (fun _ _ => ⟨rfl, rfl, (by decide : 7 + 1 ≤ _), (by decide : 156 + 1 ≤ _)⟩)
          dsimp only [Pt.U, Pt.locs, Pt.cells, Pt.slots] at X538 l538 y538 z538 st538 hQ538
          subst l538 y538 z538
          obtain ⟨w538, rfl, N538q, Kc538, P538_0, P538_1, P538_2⟩ := hQ538
          have N538 := Fr.app N536 N538q
          have E_b534_538 : Exa Z T538.heap b534 cRR := E_b534_536.keep Kc538
          have F_b534_onlyMarkersLeft_538 : Fld Z T538.heap b534 cRR nOM "Z" (.int (0 : Int32)) := F_b534_onlyMarkersLeft_536c.keep Kc538 nin0
          have F_b534_firstUnreadTimestamp_538 : Fld Z T538.heap b534 cRR nLT dOL (.ref fu) := F_b534_firstUnreadTimestamp_536c.keep Kc538 nin0
          have F_b534_newestTimestamp_538 : Fld Z T538.heap b534 cRR nNT dOL (.ref em) := F_b534_newestTimestamp_536c.keep Kc538 nin0
          have K538 : Keep h0 T538.heap [] := K536.trans Kc538 all0
          have kle538 : T536.heap.size ≤ T538.heap.size := Nat.le_trans kle536 Kc538.1
          have E_w538_538c : Exa Z T538.heap w538 cOP := P538_1
          have F_w538_value_538c : Fld Z T538.heap w538 cOP "value" dOB (.ref b534) := P538_2
          refine gsW T538 (mkF m 173 (lw0 q1 q2 p1 q3 q4 q5 1 0 1 0 u15 uo ue uf un fu em) [(.ref w538)]) st538 ?_
          refine gsW T538 (mkF m 175 (lw1 q1 q2 p1 q3 q4 q5 1 0 1 0 u15 uo ue uf un fu em w538) []) (fun _ hr => XS.astore X538.here hx rfl (hb hby at_173) rfl rfl (l' := (lw1 q1 q2 p1 q3 q4 q5 1 0 1 0 u15 uo ue uf un fu em w538)) rfl hr) ?_
          refine gsW T538 (mkF m 183 (lw1 q1 q2 p1 q3 q4 q5 1 0 1 0 u15 uo ue uf un fu em w538) []) (fun _ hr => XS.goto X538.here hx rfl (pc0 := 175) (pc' := 183) rfl (hb hby at_175) (by decide) (by decide) hr) ?_
          obtain ⟨T539, h539, X539, e539, E539, A539, D539, -, st539⟩ := newO X538 hx hZ536 hown536 (tw hw 11 rfl) (tw hw 12 rfl) (tw hw 13 rfl) rfl (g := (mkF m 183 (lw1 q1 q2 p1 q3 q4 q5 1 0 1 0 u15 uo ue uf un fu em w538) [])) rfl (hb hby at_183) (by decide) (by decide)
          obtain ⟨b539, g539⟩ : ∃ z, z = T538.heap.size := ⟨_, rfl⟩
          rw [← g539] at A539 D539 st539
          have sz_b539 : h0.size ≤ b539 := Nat.le_trans K538.1 (Nat.le_of_eq g539.symm)
          have ge_b539 : n0 ≤ b539 := Nat.le_trans Z0 sz_b539
          have E_b534_539 : Exa Z h539 b534 cRR := E_b534_538.ext E539
          have F_b534_onlyMarkersLeft_539 : Fld Z h539 b534 cRR nOM "Z" (.int (0 : Int32)) := F_b534_onlyMarkersLeft_538.ext E539
          have F_b534_firstUnreadTimestamp_539 : Fld Z h539 b534 cRR nLT dOL (.ref fu) := F_b534_firstUnreadTimestamp_538.ext E539
          have F_b534_newestTimestamp_539 : Fld Z h539 b534 cRR nNT dOL (.ref em) := F_b534_newestTimestamp_538.ext E539
          have E_w538_539 : Exa Z h539 w538 cOP := E_w538_538c.ext E539
          have F_w538_value_539 : Fld Z h539 w538 cOP "value" dOB (.ref b534) := F_w538_value_538c.ext E539
          have K539 : Keep h0 h539 [] := K538.ext E539
          have kle539 : T536.heap.size ≤ h539.size := Nat.le_trans kle538 E539.1
          have F_b539_offset_539 : Fld Z h539 b539 cPL "offset" "J" (.long (0 : Int64)) := D539 (Or.inr (tw hw 38 rfl)) (ty := .long) (by decide)
          have F_b539_end_539 : Fld Z h539 b539 cPL "end" "J" (.long (0 : Int64)) := D539 (Or.inr (tw hw 40 rfl)) (ty := .long) (by decide)
          have F_b539_records_539 : Fld Z h539 b539 cPL "records" dOP .null := D539 (Or.inr (tw hw 42 rfl)) (ty := (.object cOP)) (by decide)
          refine gsW T539 (mkF m 186 (lw1 q1 q2 p1 q3 q4 q5 1 0 1 0 u15 uo ue uf un fu em w538) [(.ref b539)]) st539 ?_
          refine gsW T539 (mkF m 187 (lw1 q1 q2 p1 q3 q4 q5 1 0 1 0 u15 uo ue uf un fu em w538) [(.ref b539), (.ref b539)]) (fun _ hr => XS.dup X539.here hx rfl (hb hby at_186) rfl rfl hr) ?_
          refine gsW T539 (mkF m 189 (lw1 q1 q2 p1 q3 q4 q5 1 0 1 0 u15 uo ue uf un fu em w538) [(.long uo), (.ref b539), (.ref b539)]) (fun _ hr => XT.lload X539.here hx rfl (hb hby at_187) rfl hr) ?_
          refine gsW T539 (mkF m 191 (lw1 q1 q2 p1 q3 q4 q5 1 0 1 0 u15 uo ue uf un fu em w538) [(.long ue), (.long uo), (.ref b539), (.ref b539)]) (fun _ hr => XT.lload X539.here hx rfl (hb hby at_189) rfl hr) ?_
          refine gsW T539 (mkF m 193 (lw1 q1 q2 p1 q3 q4 q5 1 0 1 0 u15 uo ue uf un fu em w538) [(.ref w538), (.long ue), (.long uo), (.ref b539), (.ref b539)]) (fun _ hr => XS.aload X539.here hx rfl (hb hby at_191) rfl rfl hr) ?_
          have Zs540 : n0 ≤ h539.size := Nat.le_trans Z0 K539.1
          obtain ⟨_, _, ⟨T541, L541, k541, n541⟩, -, X541, Sc541, gr541, ⟨Lc541, hQ541, l541, y541, z541⟩, st541⟩ := X539.specialBackS hx (y := Y31) rfl hown536 (mvT hZ536 (tw hw 14 rfl)) (mvT hZ536 (tw hw 15 rfl)) (mvT hZ536 (tw hw 16 rfl)) (by decide) (backOfS (W := 1) (rm_pinit l Z a0 hw [] b539 uo ue w538 h539 n0 Zs540 (Old.keep O0 K539 hws) A539 F_b539_offset_539 F_b539_end_539 F_b539_records_539 ge_b539) hZ536 (tw hw 16 rfl) (tw hw 13 rfl) (by decide) (by decide)) (g := (mkF m 193 (lw1 q1 q2 p1 q3 q4 q5 1 0 1 0 u15 uo ue uf un fu em w538) [(.ref w538), (.long ue), (.long uo), (.ref b539), (.ref b539)])) rfl (by rw [hml]; rfl) (Steps.refl _) (a := b539) (argsL := [(.long uo), (.long ue), (.ref w538)]) (rest := [(.ref b539)]) (lenOf pd_19 rfl) rfl (wle rfl) (hb hby at_193) (fun _ _ => ⟨rfl, e539, (by decide : 9 + 2 ≤ _), (by decide : 160 + 32 ≤ _)⟩)
          dsimp only [Pt.U, Pt.locs, Pt.cells, Pt.slots] at X541 l541 y541 z541 st541 hQ541 Sc541 gr541
          subst l541 y541 z541
          have Sn541 := Sn536.trans Sc541 (Nat.le_trans (show T536.heap.size ≤ T539.heap.size by rw [(e539 : T539.heap = h539)]; exact kle539) gr541)
          have hZ541 : Z.Warmed39 (s.setVm T541.vm).vm := State.Warmed39.trans (t := s.setVm T536.vm) hZ536 Sc541.1
          have hown541 : (s.setVm T541.vm).vm.findClass "com/example/log_lag_gauge/loglaggauge/model/PositionLagTimeLagMsPinLaw" = some m.cls := by rw [show (s.setVm T541.vm).vm = T541.vm from rfl, Sc541.1.alike.findClass]; exact hown536
          have kle541 : T541.heap.size ≤ T541.heap.size := Nat.le_refl _
          obtain ⟨rfl, N541q, Kc541, P541_0, P541_1, P541_2⟩ := hQ541
          have N541 := Fr.app N538 N541q
          have E_b534_541 : Exa Z T541.heap b534 cRR := E_b534_539.keep Kc541
          have F_b534_onlyMarkersLeft_541 : Fld Z T541.heap b534 cRR nOM "Z" (.int (0 : Int32)) := F_b534_onlyMarkersLeft_539.keep Kc541 (ninS (Nat.ne_of_lt (Nat.lt_of_lt_of_le E_b534_538.lt (Nat.le_of_eq g539.symm))) nin0)
          have F_b534_firstUnreadTimestamp_541 : Fld Z T541.heap b534 cRR nLT dOL (.ref fu) := F_b534_firstUnreadTimestamp_539.keep Kc541 (ninS (Nat.ne_of_lt (Nat.lt_of_lt_of_le E_b534_538.lt (Nat.le_of_eq g539.symm))) nin0)
          have F_b534_newestTimestamp_541 : Fld Z T541.heap b534 cRR nNT dOL (.ref em) := F_b534_newestTimestamp_539.keep Kc541 (ninS (Nat.ne_of_lt (Nat.lt_of_lt_of_le E_b534_538.lt (Nat.le_of_eq g539.symm))) nin0)
          have E_w538_541 : Exa Z T541.heap w538 cOP := E_w538_539.keep Kc541
          have F_w538_value_541 : Fld Z T541.heap w538 cOP "value" dOB (.ref b534) := F_w538_value_539.keep Kc541 (ninS (Nat.ne_of_lt (Nat.lt_of_lt_of_le E_w538_538c.lt (Nat.le_of_eq g539.symm))) nin0)
          have E_b539_541 : Exa Z T541.heap b539 cPL := A539.keep Kc541
          have K541 : Keep h0 T541.heap [] := K539.trans Kc541 (allS (Or.inr sz_b539) all0)
          have F_b539_offset_541c : Fld Z T541.heap b539 cPL "offset" "J" (.long uo) := P541_0
          have F_b539_end_541c : Fld Z T541.heap b539 cPL "end" "J" (.long ue) := P541_1
          have F_b539_records_541c : Fld Z T541.heap b539 cPL "records" dOP (.ref w538) := P541_2
          refine gsW T541 (mkF m 196 (lw1 q1 q2 p1 q3 q4 q5 1 0 1 0 u15 uo ue uf un fu em w538) [(.ref b539)]) (fun _ hr => st541.trans hr) ?_
          refine gsW T541 (mkF m 198 (lw2 q1 q2 p1 q3 q4 q5 1 0 1 0 u15 uo ue uf un fu em w538 b539) []) (fun _ hr => XS.astore X541.here hx rfl (hb hby at_196) rfl rfl (l' := (lw2 q1 q2 p1 q3 q4 q5 1 0 1 0 u15 uo ue uf un fu em w538 b539)) rfl hr) ?_
          refine gsW T541 (mkF m 200 (lw2 q1 q2 p1 q3 q4 q5 1 0 1 0 u15 uo ue uf un fu em w538 b539) [(.ref b539)]) (fun _ hr => XS.aload X541.here hx rfl (hb hby at_198) rfl rfl hr) ?_
          have Zs542 : n0 ≤ T541.heap.size := Nat.le_trans Z0 K541.1
          obtain ⟨cq543, kq543, q543a, q543b, q543c⟩ := isOf hZ541 rfl E_b539_541
          obtain ⟨_, _, ⟨T543, L543, k543, n543⟩, -, X543, ⟨Lc543, hQ543, l543, y543, z543⟩, st543⟩ := X541.virtualBack hx (y := Y30) (z := Y30) hown541 (mvT hZ541 (tw hw 43 rfl)) (mvT hZ541 (tw hw 44 rfl)) (notFace_of_selects (args := #[]) (mvT hZ541 (tw hw 46 rfl))) (mvT hZ541 (tw hw 46 rfl)) (mvT hZ541 (tw hw 45 rfl)) (by decide) (backOf (W := 0) (rm_age_pem l Z a0 hw [] b539 b534 em uo ue w538 eo fu T541.heap n0 Zs542 (Old.keep O0 K541 hws) E_b539_541 F_b539_offset_541c F_b539_end_541c F_b539_records_541c E_w538_541 F_w538_value_541 E_b534_541 F_b534_onlyMarkersLeft_541 F_b534_firstUnreadTimestamp_541 F_b534_newestTimestamp_541 S_OptionalLong_EMPTY_old E_em_old F_em_isPresent_old F_em_value_old S_Optional_EMPTY_old E_eo_old F_eo_value_old hle hpp) hZ541 (tw hw 47 rfl) (tw hw 13 rfl) (by decide) (by decide)) q543a q543c (g := (mkF m 200 (lw2 q1 q2 p1 q3 q4 q5 1 0 1 0 u15 uo ue uf un fu em w538 b539) [(.ref b539)])) rfl (by rw [hml]; rfl) (Steps.refl _) (argsL := []) (rest := []) (lenOf pd_6 rfl) rfl (wle rfl) (hb hby at_200) (fun _ _ => ⟨rfl, rfl, (by decide : 11 + 6 ≤ _), (by decide : 192 + 10 ≤ _)⟩)
          dsimp only [Pt.U, Pt.locs, Pt.cells, Pt.slots] at X543 l543 y543 z543 st543 hQ543
          subst l543 y543 z543
          obtain ⟨w543, rfl, N543q, Kc543, P543_0, P543_1, P543_2, P543_3⟩ := hQ543
          have N543 := Fr.app N541 N543q
          have K543 : Keep h0 T543.heap [] := K541.trans Kc543 all0
          have kle543 : T541.heap.size ≤ T543.heap.size := Nat.le_trans kle541 Kc543.1
          have E_w543_543c : Exa Z T543.heap w543 cOL := P543_1
          have F_w543_isPresent_543c : Fld Z T543.heap w543 cOL nIP "Z" (.int (1 : Int32)) := P543_2
          have F_w543_value_543c : Fld Z T543.heap w543 cOL "value" "J" (.long (0 : Int64)) := P543_3
          refine gsW T543 (mkF m 203 (lw2 q1 q2 p1 q3 q4 q5 1 0 1 0 u15 uo ue uf un fu em w538 b539) [(.ref w543)]) (fun _ hr => st543.trans hr) ?_
          refine gsW T543 (mkF m 205 (lw3 q1 q2 p1 q3 q4 q5 1 0 1 0 u15 uo ue uf un fu em w538 b539 w543) []) (fun _ hr => XS.astore X543.here hx rfl (hb hby at_203) rfl rfl (l' := (lw3 q1 q2 p1 q3 q4 q5 1 0 1 0 u15 uo ue uf un fu em w538 b539 w543)) rfl hr) ?_
          refine gsW T543 (mkF m 206 (lw3 q1 q2 p1 q3 q4 q5 1 0 1 0 u15 uo ue uf un fu em w538 b539 w543) [(.long (0 : Int64))]) (fun _ hr => XT.lconst X543.here hx rfl (hb hby at_205) hr) ?_
          refine gsW T543 (mkF m 208 (lw4 q1 q2 p1 q3 q4 q5 1 0 1 0 u15 uo ue uf un fu em w538 b539 w543 (0 : Int64)) []) (fun _ hr => XT.lstore X543.here hx rfl (hb hby at_206) rfl (l' := (lw4 q1 q2 p1 q3 q4 q5 1 0 1 0 u15 uo ue uf un fu em w538 b539 w543 (0 : Int64))) rfl hr) ?_
          refine gsW T543 (mkF m 210 (lw4 q1 q2 p1 q3 q4 q5 1 0 1 0 u15 uo ue uf un fu em w538 b539 w543 (0 : Int64)) [(.int (1 : Int32))]) (fun _ hr => XS.iload X543.here hx rfl (hb hby at_208) rfl  hr) ?_
          refine gsW T543 (mkF m 213 (lw4 q1 q2 p1 q3 q4 q5 1 0 1 0 u15 uo ue uf un fu em w538 b539 w543 (0 : Int64)) []) (fun _ hr => XS.ifNo X543.here hx rfl (hb hby at_210) rfl ((if0 _ _).trans (feq (by decide : ¬ ((1 : Int32) = (0 : Int32)))).1) hr) ?_
          refine gsW T543 (mkF m 215 (lw4 q1 q2 p1 q3 q4 q5 1 0 1 0 u15 uo ue uf un fu em w538 b539 w543 (0 : Int64)) [(.long uo)]) (fun _ hr => XT.lload X543.here hx rfl (hb hby at_213) rfl hr) ?_
          refine gsW T543 (mkF m 217 (lw4 q1 q2 p1 q3 q4 q5 1 0 1 0 u15 uo ue uf un fu em w538 b539 w543 (0 : Int64)) [(.long ue), (.long uo)]) (fun _ hr => XT.lload X543.here hx rfl (hb hby at_215) rfl hr) ?_
          refine gsW T543 (mkF m 218 (lw4 q1 q2 p1 q3 q4 q5 1 0 1 0 u15 uo ue uf un fu em w538 b539 w543 (0 : Int64)) [(.int (XT.cmpL uo ue))]) (fun _ hr => XT.lcmp X543.here hx rfl (hb hby at_217) rfl hr) ?_
          refine gsW T543 (mkF m 227 (lw4 q1 q2 p1 q3 q4 q5 1 0 1 0 u15 uo ue uf un fu em w538 b539 w543 (0 : Int64)) []) (fun _ hr => XS.ifYes X543.here hx rfl (pc0 := 218) (pc' := 227) rfl (hb hby at_218) rfl ((if0 _ _).trans (flt (hle : ¬ ((0 : Int32) < (XT.cmpL uo ue)))).2.2.2) (by decide) (by decide) hr) ?_
          refine gsW T543 (mkF m 228 (lw4 q1 q2 p1 q3 q4 q5 1 0 1 0 u15 uo ue uf un fu em w538 b539 w543 (0 : Int64)) [(.int (0 : Int32))]) (fun _ hr => XS.iconst X543.here hx rfl (hb hby at_227) hr) ?_
          refine gsW T543 (mkF m 230 (lw5 q1 q2 p1 q3 q4 q5 1 0 1 0 u15 uo ue uf un fu em w538 b539 w543 0 (0 : Int64)) []) (fun _ hr => XS.istore X543.here hx rfl (hb hby at_228) rfl (l' := (lw5 q1 q2 p1 q3 q4 q5 1 0 1 0 u15 uo ue uf un fu em w538 b539 w543 0 (0 : Int64))) rfl hr) ?_
          refine gsW T543 (mkF m 232 (lw5 q1 q2 p1 q3 q4 q5 1 0 1 0 u15 uo ue uf un fu em w538 b539 w543 0 (0 : Int64)) [(.long uo)]) (fun _ hr => XT.lload X543.here hx rfl (hb hby at_230) rfl hr) ?_
          refine gsW T543 (mkF m 234 (lw5 q1 q2 p1 q3 q4 q5 1 0 1 0 u15 uo ue uf un fu em w538 b539 w543 0 (0 : Int64)) [(.long ue), (.long uo)]) (fun _ hr => XT.lload X543.here hx rfl (hb hby at_232) rfl hr) ?_
          refine gsW T543 (mkF m 235 (lw5 q1 q2 p1 q3 q4 q5 1 0 1 0 u15 uo ue uf un fu em w538 b539 w543 0 (0 : Int64)) [(.int (XT.cmpL uo ue))]) (fun _ hr => XT.lcmp X543.here hx rfl (hb hby at_234) rfl hr) ?_
          refine gsW T543 (mkF m 238 (lw5 q1 q2 p1 q3 q4 q5 1 0 1 0 u15 uo ue uf un fu em w538 b539 w543 0 (0 : Int64)) []) (fun _ hr => XS.ifNo X543.here hx rfl (hb hby at_235) rfl ((if0 _ _).trans (tlt ((own_lt0 hle hne) : (XT.cmpL uo ue) < (0 : Int32))).2.1) hr) ?_
          refine gsW T543 (mkF m 240 (lw5 q1 q2 p1 q3 q4 q5 1 0 1 0 u15 uo ue uf un fu em w538 b539 w543 0 (0 : Int64)) [(.int (0 : Int32))]) (fun _ hr => XS.iload X543.here hx rfl (hb hby at_238) rfl  hr) ?_
          refine gsW T543 (mkF m 243 (lw5 q1 q2 p1 q3 q4 q5 1 0 1 0 u15 uo ue uf un fu em w538 b539 w543 0 (0 : Int64)) []) (fun _ hr => XS.ifNo X543.here hx rfl (hb hby at_240) rfl ((if0 _ _).trans (teq (by decide : (0 : Int32) = (0 : Int32))).2) hr) ?_
          refine gsW T543 (mkF m 245 (lw5 q1 q2 p1 q3 q4 q5 1 0 1 0 u15 uo ue uf un fu em w538 b539 w543 0 (0 : Int64)) [(.int (1 : Int32))]) (fun _ hr => XS.iload X543.here hx rfl (hb hby at_243) rfl  hr) ?_
          refine gsW T543 (mkF m 248 (lw5 q1 q2 p1 q3 q4 q5 1 0 1 0 u15 uo ue uf un fu em w538 b539 w543 0 (0 : Int64)) []) (fun _ hr => XS.ifNo X543.here hx rfl (hb hby at_245) rfl ((if0 _ _).trans (feq (by decide : ¬ ((1 : Int32) = (0 : Int32)))).1) hr) ?_
          refine gsW T543 (mkF m 250 (lw5 q1 q2 p1 q3 q4 q5 1 0 1 0 u15 uo ue uf un fu em w538 b539 w543 0 (0 : Int64)) [(.int (0 : Int32))]) (fun _ hr => XS.iload X543.here hx rfl (hb hby at_248) rfl  hr) ?_
          refine gsW T543 (mkF m 268 (lw5 q1 q2 p1 q3 q4 q5 1 0 1 0 u15 uo ue uf un fu em w538 b539 w543 0 (0 : Int64)) []) (fun _ hr => XS.ifYes X543.here hx rfl (pc0 := 250) (pc' := 268) rfl (hb hby at_250) rfl ((if0 _ _).trans (teq (by decide : (0 : Int32) = (0 : Int32))).1) (by decide) (by decide) hr) ?_
          refine gsW T543 (mkF m 270 (lw5 q1 q2 p1 q3 q4 q5 1 0 1 0 u15 uo ue uf un fu em w538 b539 w543 0 (0 : Int64)) [(.int (0 : Int32))]) (fun _ hr => XS.iload X543.here hx rfl (hb hby at_268) rfl  hr) ?_
          refine gsW T543 (mkF m 279 (lw5 q1 q2 p1 q3 q4 q5 1 0 1 0 u15 uo ue uf un fu em w538 b539 w543 0 (0 : Int64)) []) (fun _ hr => XS.ifYes X543.here hx rfl (pc0 := 270) (pc' := 279) rfl (hb hby at_270) rfl ((if0 _ _).trans (teq (by decide : (0 : Int32) = (0 : Int32))).1) (by decide) (by decide) hr) ?_
          refine gsW T543 (mkF m 281 (lw5 q1 q2 p1 q3 q4 q5 1 0 1 0 u15 uo ue uf un fu em w538 b539 w543 0 (0 : Int64)) [(.ref w543)]) (fun _ hr => XS.aload X543.here hx rfl (hb hby at_279) rfl rfl hr) ?_
          have Zs544 : n0 ≤ T543.heap.size := Nat.le_trans Z0 K543.1
          obtain ⟨cq545, kq545, q545a, q545b, q545c⟩ := isOf hZ541 rfl E_w543_543c
          obtain ⟨_, _, ⟨T545, L545, k545, n545⟩, -, X545, ⟨Lc545, hQ545, l545, y545, z545⟩, st545⟩ := X543.virtualBack hx (y := Y5) (z := Y5) hown541 (mvT hZ541 (tw hw 185 rfl)) (mvT hZ541 (tw hw 156 rfl)) (notFace_of_selects (args := #[]) (mvT hZ541 (tw hw 158 rfl))) (mvT hZ541 (tw hw 158 rfl)) (mvT hZ541 (tw hw 157 rfl)) (by decide) (backOf (W := 0) (rm_olp1 l Z a0 hw [] w543 T543.heap n0 Zs544 (Old.keep O0 K543 hws) F_w543_isPresent_543c) hZ541 (tw hw 159 rfl) (tw hw 3 rfl) (by decide) (by decide)) q545a q545c (g := (mkF m 281 (lw5 q1 q2 p1 q3 q4 q5 1 0 1 0 u15 uo ue uf un fu em w538 b539 w543 0 (0 : Int64)) [(.ref w543)])) rfl (by rw [hml]; rfl) (Steps.refl _) (argsL := []) (rest := []) (lenOf pd_1 rfl) rfl (wle rfl) (hb hby at_281) (fun _ _ => ⟨rfl, rfl, (by decide : 17 + 0 ≤ _), (by decide : 202 + 0 ≤ _)⟩)
          dsimp only [Pt.U, Pt.locs, Pt.cells, Pt.slots] at X545 l545 y545 z545 st545 hQ545
          subst l545 y545 z545
          obtain ⟨rfl, N545q, e545⟩ := hQ545
          have N545 := Fr.app N543 N545q
          refine gsW T545 (mkF m 284 (lw5 q1 q2 p1 q3 q4 q5 1 0 1 0 u15 uo ue uf un fu em w538 b539 w543 0 (0 : Int64)) [(.int (1 : Int32))]) (fun _ hr => st545.trans hr) ?_
          refine gsW T545 (mkF m 287 (lw5 q1 q2 p1 q3 q4 q5 1 0 1 0 u15 uo ue uf un fu em w538 b539 w543 0 (0 : Int64)) []) (fun _ hr => XS.ifNo X545.here hx rfl (hb hby at_284) rfl ((if0 _ _).trans (feq (by decide : ¬ ((1 : Int32) = (0 : Int32)))).1) hr) ?_
          refine gsW T545 (mkF m 289 (lw5 q1 q2 p1 q3 q4 q5 1 0 1 0 u15 uo ue uf un fu em w538 b539 w543 0 (0 : Int64)) [(.ref w543)]) (fun _ hr => XS.aload X545.here hx rfl (hb hby at_287) rfl rfl hr) ?_
          have Zs546 : n0 ≤ T543.heap.size := Nat.le_trans Z0 K543.1
          obtain ⟨cq547, kq547, q547a, q547b, q547c⟩ := isOf hZ541 e545 E_w543_543c
          obtain ⟨_, _, ⟨T547, L547, k547, n547⟩, -, X547, ⟨Lc547, hQ547, l547, y547, z547⟩, st547⟩ := X545.virtualBack hx (y := Y7) (z := Y7) hown541 (mvT hZ541 (tw hw 186 rfl)) (mvT hZ541 (tw hw 150 rfl)) (notFace_of_selects (args := #[]) (mvT hZ541 (tw hw 152 rfl))) (mvT hZ541 (tw hw 152 rfl)) (mvT hZ541 (tw hw 151 rfl)) (by decide) (backOf (W := 0) (rm_olg l Z a0 hw [] w543 (0 : Int64) T543.heap n0 Zs546 (Old.keep O0 K543 hws) F_w543_isPresent_543c F_w543_value_543c) hZ541 (tw hw 153 rfl) (tw hw 3 rfl) (by decide) (by decide)) q547a q547c (g := (mkF m 289 (lw5 q1 q2 p1 q3 q4 q5 1 0 1 0 u15 uo ue uf un fu em w538 b539 w543 0 (0 : Int64)) [(.ref w543)])) rfl (by rw [hml]; rfl) (Steps.refl _) (argsL := []) (rest := []) (lenOf pd_5 rfl) rfl (wle rfl) (hb hby at_289) (fun _ _ => ⟨rfl, e545, (by decide : 17 + 0 ≤ _), (by decide : 202 + 0 ≤ _)⟩)
          dsimp only [Pt.U, Pt.locs, Pt.cells, Pt.slots] at X547 l547 y547 z547 st547 hQ547
          subst l547 y547 z547
          obtain ⟨rfl, N547q, e547⟩ := hQ547
          have N547 := Fr.app N545 N547q
          refine gsW T547 (mkF m 292 (lw5 q1 q2 p1 q3 q4 q5 1 0 1 0 u15 uo ue uf un fu em w538 b539 w543 0 (0 : Int64)) [(.long (0 : Int64))]) (fun _ hr => st547.trans hr) ?_
          refine gsW T547 (mkF m 294 (lw5 q1 q2 p1 q3 q4 q5 1 0 1 0 u15 uo ue uf un fu em w538 b539 w543 0 (0 : Int64)) [(.long (0 : Int64)), (.long (0 : Int64))]) (fun _ hr => XT.lload X547.here hx rfl (hb hby at_292) rfl hr) ?_
          refine gsW T547 (mkF m 295 (lw5 q1 q2 p1 q3 q4 q5 1 0 1 0 u15 uo ue uf un fu em w538 b539 w543 0 (0 : Int64)) [(.int (XT.cmpL (0 : Int64) (0 : Int64)))]) (fun _ hr => XT.lcmp X547.here hx rfl (hb hby at_294) rfl hr) ?_
          rw [cmpL_self]
          refine gsW T547 (mkF m 298 (lw5 q1 q2 p1 q3 q4 q5 1 0 1 0 u15 uo ue uf un fu em w538 b539 w543 0 (0 : Int64)) []) (fun _ hr => XS.ifNo X547.here hx rfl (hb hby at_295) rfl ((if0 _ _).trans (teq (by decide : (0 : Int32) = (0 : Int32))).2) hr) ?_
          refine gsW T547 (mkF m 299 (lw5 q1 q2 p1 q3 q4 q5 1 0 1 0 u15 uo ue uf un fu em w538 b539 w543 0 (0 : Int64)) [(.int (1 : Int32))]) (fun _ hr => XS.iconst X547.here hx rfl (hb hby at_298) hr) ?_
          refine gsW T547 (mkF m 303 (lw5 q1 q2 p1 q3 q4 q5 1 0 1 0 u15 uo ue uf un fu em w538 b539 w543 0 (0 : Int64)) [(.int (1 : Int32))]) (fun _ hr => XS.goto X547.here hx rfl (pc0 := 299) (pc' := 303) rfl (hb hby at_299) (by decide) (by decide) hr) ?_
          exact GoesW.ret (v := some (.int (1 : Int32))) X547 Sn541 (by rw [e547]; exact kle543) (by decide) (by decide) (fun h => by rw [Bd.returns] at h; cases h) ⟨rfl, N547⟩ (fun fs hr => retN X547 hx (t := .boolean) Bd.returns (by simp) (hb hby at_303) hr)
        · obtain ⟨T548, h548, X548, e548, E548, A548, D548, -, st548⟩ := newO Xg hx hZ hown (tw hw 94 rfl) (tw hw 95 rfl) (tw hw 96 rfl) eg (g := (mkF m 155 (lw0 q1 q2 p1 q3 q4 q5 1 0 1 1 u15 uo ue uf un fu nw) [])) rfl (hb hby at_155) (by decide) (by decide)
          obtain ⟨b548, g548⟩ : ∃ z, z = hg.size := ⟨_, rfl⟩
          rw [← g548] at A548 D548 st548
          have sz_b548 : h0.size ≤ b548 := Nat.le_trans Kg.1 (Nat.le_of_eq g548.symm)
          have ge_b548 : n0 ≤ b548 := Nat.le_trans Z0 sz_b548
          have E_fu_548 : Exa Z h548 fu cOL := E_fu_g.ext E548
          have F_fu_isPresent_548 : Fld Z h548 fu cOL nIP "Z" (.int (1 : Int32)) := F_fu_isPresent_g.ext E548
          have F_fu_value_548 : Fld Z h548 fu cOL "value" "J" (.long uf) := F_fu_value_g.ext E548
          have E_nw_548 : Exa Z h548 nw cOL := E_nw_g.ext E548
          have F_nw_isPresent_548 : Fld Z h548 nw cOL nIP "Z" (.int (1 : Int32)) := F_nw_isPresent_g.ext E548
          have F_nw_value_548 : Fld Z h548 nw cOL "value" "J" (.long un) := F_nw_value_g.ext E548
          have K548 : Keep h0 h548 [] := Kg.ext E548
          have kle548 : 0 ≤ h548.size := Nat.le_trans kleg E548.1
          have F_b548_onlyMarkersLeft_548 : Fld Z h548 b548 cRR nOM "Z" (.int (0 : Int32)) := D548 (Or.inr (tw hw 105 rfl)) (ty := .boolean) (by decide)
          have F_b548_firstUnreadTimestamp_548 : Fld Z h548 b548 cRR nLT dOL .null := D548 (Or.inr (tw hw 107 rfl)) (ty := (.object cOL)) (by decide)
          have F_b548_newestTimestamp_548 : Fld Z h548 b548 cRR nNT dOL .null := D548 (Or.inr (tw hw 109 rfl)) (ty := (.object cOL)) (by decide)
          have F_b548_lookedAt_548 : Fld Z h548 b548 cRR "lookedAt" "J" (.long (0 : Int64)) := D548 (Or.inr (tw hw 111 rfl)) (ty := .long) (by decide)
          refine gsW T548 (mkF m 158 (lw0 q1 q2 p1 q3 q4 q5 1 0 1 1 u15 uo ue uf un fu nw) [(.ref b548)]) st548 ?_
          refine gsW T548 (mkF m 159 (lw0 q1 q2 p1 q3 q4 q5 1 0 1 1 u15 uo ue uf un fu nw) [(.ref b548), (.ref b548)]) (fun _ hr => XS.dup X548.here hx rfl (hb hby at_158) rfl rfl hr) ?_
          refine gsW T548 (mkF m 161 (lw0 q1 q2 p1 q3 q4 q5 1 0 1 1 u15 uo ue uf un fu nw) [(.int (0 : Int32)), (.ref b548), (.ref b548)]) (fun _ hr => XS.iload X548.here hx rfl (hb hby at_159) rfl  hr) ?_
          refine gsW T548 (mkF m 163 (lw0 q1 q2 p1 q3 q4 q5 1 0 1 1 u15 uo ue uf un fu nw) [(.ref fu), (.int (0 : Int32)), (.ref b548), (.ref b548)]) (fun _ hr => XS.aload X548.here hx rfl (hb hby at_161) rfl rfl hr) ?_
          refine gsW T548 (mkF m 165 (lw0 q1 q2 p1 q3 q4 q5 1 0 1 1 u15 uo ue uf un fu nw) [(.ref nw), (.ref fu), (.int (0 : Int32)), (.ref b548), (.ref b548)]) (fun _ hr => XS.aload X548.here hx rfl (hb hby at_163) rfl rfl hr) ?_
          refine gsW T548 (mkF m 167 (lw0 q1 q2 p1 q3 q4 q5 1 0 1 1 u15 uo ue uf un fu nw) [(.long q5), (.ref nw), (.ref fu), (.int (0 : Int32)), (.ref b548), (.ref b548)]) (fun _ hr => XT.lload X548.here hx rfl (hb hby at_165) rfl hr) ?_
          have Zs549 : n0 ≤ h548.size := Nat.le_trans Z0 K548.1
          obtain ⟨_, _, ⟨T550, L550, k550, n550⟩, -, X550, Sc550, gr550, ⟨Lc550, hQ550, l550, y550, z550⟩, st550⟩ := X548.specialBackS hx (y := Y32) rfl hown (mvT hZ (tw hw 97 rfl)) (mvT hZ (tw hw 98 rfl)) (mvT hZ (tw hw 99 rfl)) (by decide) (backOfS (W := 1) (rm_rinit0 l Z a0 hw [] b548 fu nw q5 h548 n0 Zs549 (Old.keep O0 K548 hws) A548 F_b548_onlyMarkersLeft_548 F_b548_firstUnreadTimestamp_548 F_b548_newestTimestamp_548 F_b548_lookedAt_548 ge_b548) hZ (tw hw 99 rfl) (tw hw 96 rfl) (by decide) (by decide)) (g := (mkF m 167 (lw0 q1 q2 p1 q3 q4 q5 1 0 1 1 u15 uo ue uf un fu nw) [(.long q5), (.ref nw), (.ref fu), (.int (0 : Int32)), (.ref b548), (.ref b548)])) rfl (by rw [hml]; rfl) (Steps.refl _) (a := b548) (argsL := [(.int (0 : Int32)), (.ref fu), (.ref nw), (.long q5)]) (rest := [(.ref b548)]) (lenOf pd_20 rfl) rfl (wle rfl) (hb hby at_167) (fun _ _ => ⟨rfl, e548, (by decide : 3 + 4 ≤ _), (by decide : 8 + 148 ≤ _)⟩)
          dsimp only [Pt.U, Pt.locs, Pt.cells, Pt.slots] at X550 l550 y550 z550 st550 hQ550 Sc550 gr550
          subst l550 y550 z550
          have Sn550 := Sn0.trans Sc550 (Nat.le_trans (show 0 ≤ T548.heap.size by rw [(e548 : T548.heap = h548)]; exact kle548) gr550)
          have hZ550 : Z.Warmed39 (s.setVm T550.vm).vm := State.Warmed39.trans (t := s.setVm s.vm) hZ Sc550.1
          have hown550 : (s.setVm T550.vm).vm.findClass "com/example/log_lag_gauge/loglaggauge/model/PositionLagTimeLagMsPinLaw" = some m.cls := by rw [show (s.setVm T550.vm).vm = T550.vm from rfl, Sc550.1.alike.findClass]; exact hown
          have kle550 : T550.heap.size ≤ T550.heap.size := Nat.le_refl _
          obtain ⟨rfl, N550q, Kc550, P550_0, P550_1, P550_2, P550_3⟩ := hQ550
          have N550 := Fr.app Ng N550q
          have E_fu_550 : Exa Z T550.heap fu cOL := E_fu_548.keep Kc550
          have F_fu_isPresent_550 : Fld Z T550.heap fu cOL nIP "Z" (.int (1 : Int32)) := F_fu_isPresent_548.keep Kc550 (ninS (Nat.ne_of_lt (Nat.lt_of_lt_of_le E_fu_g.lt (Nat.le_of_eq g548.symm))) nin0)
          have F_fu_value_550 : Fld Z T550.heap fu cOL "value" "J" (.long uf) := F_fu_value_548.keep Kc550 (ninS (Nat.ne_of_lt (Nat.lt_of_lt_of_le E_fu_g.lt (Nat.le_of_eq g548.symm))) nin0)
          have E_nw_550 : Exa Z T550.heap nw cOL := E_nw_548.keep Kc550
          have F_nw_isPresent_550 : Fld Z T550.heap nw cOL nIP "Z" (.int (1 : Int32)) := F_nw_isPresent_548.keep Kc550 (ninS (Nat.ne_of_lt (Nat.lt_of_lt_of_le E_nw_g.lt (Nat.le_of_eq g548.symm))) nin0)
          have F_nw_value_550 : Fld Z T550.heap nw cOL "value" "J" (.long un) := F_nw_value_548.keep Kc550 (ninS (Nat.ne_of_lt (Nat.lt_of_lt_of_le E_nw_g.lt (Nat.le_of_eq g548.symm))) nin0)
          have E_b548_550 : Exa Z T550.heap b548 cRR := A548.keep Kc550
          have K550 : Keep h0 T550.heap [] := K548.trans Kc550 (allS (Or.inr sz_b548) all0)
          have F_b548_onlyMarkersLeft_550c : Fld Z T550.heap b548 cRR nOM "Z" (.int (0 : Int32)) := P550_0
          have F_b548_firstUnreadTimestamp_550c : Fld Z T550.heap b548 cRR nLT dOL (.ref fu) := P550_1
          have F_b548_newestTimestamp_550c : Fld Z T550.heap b548 cRR nNT dOL (.ref nw) := P550_2
          refine gsW T550 (mkF m 170 (lw0 q1 q2 p1 q3 q4 q5 1 0 1 1 u15 uo ue uf un fu nw) [(.ref b548)]) (fun _ hr => st550.trans hr) ?_
          have Zs551 : n0 ≤ T550.heap.size := Nat.le_trans Z0 K550.1
          obtain ⟨_, _, ⟨T552, L552, k552, n552⟩, -, X552, ⟨Lc552, hQ552, l552, y552, z552⟩, st552⟩ := LawKit.callS X550 hx (y := Y15) hown550 (mvT hZ550 (tw hw 112 rfl)) (mvT hZ550 (tw hw 113 rfl)) (mvT hZ550 (tw hw 8 rfl)) (mvT hZ550 (tw hw 114 rfl)) (by decide) (backOf (W := 0) (rm_oof l Z a0 hw [] b548 T550.heap n0 Zs551 (Old.keep O0 K550 hws)) hZ550 (tw hw 114 rfl) (tw hw 8 rfl) (by decide) (by decide)) (g := (mkF m 170 (lw0 q1 q2 p1 q3 q4 q5 1 0 1 1 u15 uo ue uf un fu nw) [(.ref b548)])) rfl (by rw [hml]; rfl) (argsL := [(.ref b548)]) (rest := []) (lenOf pd_15 rfl) rfl (wle rfl) (hb hby at_170) (fun _ _ => ⟨rfl, rfl, (by decide : 7 + 1 ≤ _), (by decide : 156 + 1 ≤ _)⟩)
          dsimp only [Pt.U, Pt.locs, Pt.cells, Pt.slots] at X552 l552 y552 z552 st552 hQ552
          subst l552 y552 z552
          obtain ⟨w552, rfl, N552q, Kc552, P552_0, P552_1, P552_2⟩ := hQ552
          have N552 := Fr.app N550 N552q
          have E_fu_552 : Exa Z T552.heap fu cOL := E_fu_550.keep Kc552
          have F_fu_isPresent_552 : Fld Z T552.heap fu cOL nIP "Z" (.int (1 : Int32)) := F_fu_isPresent_550.keep Kc552 nin0
          have F_fu_value_552 : Fld Z T552.heap fu cOL "value" "J" (.long uf) := F_fu_value_550.keep Kc552 nin0
          have E_nw_552 : Exa Z T552.heap nw cOL := E_nw_550.keep Kc552
          have F_nw_isPresent_552 : Fld Z T552.heap nw cOL nIP "Z" (.int (1 : Int32)) := F_nw_isPresent_550.keep Kc552 nin0
          have F_nw_value_552 : Fld Z T552.heap nw cOL "value" "J" (.long un) := F_nw_value_550.keep Kc552 nin0
          have E_b548_552 : Exa Z T552.heap b548 cRR := E_b548_550.keep Kc552
          have F_b548_onlyMarkersLeft_552 : Fld Z T552.heap b548 cRR nOM "Z" (.int (0 : Int32)) := F_b548_onlyMarkersLeft_550c.keep Kc552 nin0
          have F_b548_firstUnreadTimestamp_552 : Fld Z T552.heap b548 cRR nLT dOL (.ref fu) := F_b548_firstUnreadTimestamp_550c.keep Kc552 nin0
          have F_b548_newestTimestamp_552 : Fld Z T552.heap b548 cRR nNT dOL (.ref nw) := F_b548_newestTimestamp_550c.keep Kc552 nin0
          have K552 : Keep h0 T552.heap [] := K550.trans Kc552 all0
          have kle552 : T550.heap.size ≤ T552.heap.size := Nat.le_trans kle550 Kc552.1
          have E_w552_552c : Exa Z T552.heap w552 cOP := P552_1
          have F_w552_value_552c : Fld Z T552.heap w552 cOP "value" dOB (.ref b548) := P552_2
          refine gsW T552 (mkF m 173 (lw0 q1 q2 p1 q3 q4 q5 1 0 1 1 u15 uo ue uf un fu nw) [(.ref w552)]) st552 ?_
          refine gsW T552 (mkF m 175 (lw1 q1 q2 p1 q3 q4 q5 1 0 1 1 u15 uo ue uf un fu nw w552) []) (fun _ hr => XS.astore X552.here hx rfl (hb hby at_173) rfl rfl (l' := (lw1 q1 q2 p1 q3 q4 q5 1 0 1 1 u15 uo ue uf un fu nw w552)) rfl hr) ?_
          refine gsW T552 (mkF m 183 (lw1 q1 q2 p1 q3 q4 q5 1 0 1 1 u15 uo ue uf un fu nw w552) []) (fun _ hr => XS.goto X552.here hx rfl (pc0 := 175) (pc' := 183) rfl (hb hby at_175) (by decide) (by decide) hr) ?_
          obtain ⟨T553, h553, X553, e553, E553, A553, D553, -, st553⟩ := newO X552 hx hZ550 hown550 (tw hw 11 rfl) (tw hw 12 rfl) (tw hw 13 rfl) rfl (g := (mkF m 183 (lw1 q1 q2 p1 q3 q4 q5 1 0 1 1 u15 uo ue uf un fu nw w552) [])) rfl (hb hby at_183) (by decide) (by decide)
          obtain ⟨b553, g553⟩ : ∃ z, z = T552.heap.size := ⟨_, rfl⟩
          rw [← g553] at A553 D553 st553
          have sz_b553 : h0.size ≤ b553 := Nat.le_trans K552.1 (Nat.le_of_eq g553.symm)
          have ge_b553 : n0 ≤ b553 := Nat.le_trans Z0 sz_b553
          have E_fu_553 : Exa Z h553 fu cOL := E_fu_552.ext E553
          have F_fu_isPresent_553 : Fld Z h553 fu cOL nIP "Z" (.int (1 : Int32)) := F_fu_isPresent_552.ext E553
          have F_fu_value_553 : Fld Z h553 fu cOL "value" "J" (.long uf) := F_fu_value_552.ext E553
          have E_nw_553 : Exa Z h553 nw cOL := E_nw_552.ext E553
          have F_nw_isPresent_553 : Fld Z h553 nw cOL nIP "Z" (.int (1 : Int32)) := F_nw_isPresent_552.ext E553
          have F_nw_value_553 : Fld Z h553 nw cOL "value" "J" (.long un) := F_nw_value_552.ext E553
          have E_b548_553 : Exa Z h553 b548 cRR := E_b548_552.ext E553
          have F_b548_onlyMarkersLeft_553 : Fld Z h553 b548 cRR nOM "Z" (.int (0 : Int32)) := F_b548_onlyMarkersLeft_552.ext E553
          have F_b548_firstUnreadTimestamp_553 : Fld Z h553 b548 cRR nLT dOL (.ref fu) := F_b548_firstUnreadTimestamp_552.ext E553
          have F_b548_newestTimestamp_553 : Fld Z h553 b548 cRR nNT dOL (.ref nw) := F_b548_newestTimestamp_552.ext E553
          have E_w552_553 : Exa Z h553 w552 cOP := E_w552_552c.ext E553
          have F_w552_value_553 : Fld Z h553 w552 cOP "value" dOB (.ref b548) := F_w552_value_552c.ext E553
          have K553 : Keep h0 h553 [] := K552.ext E553
          have kle553 : T550.heap.size ≤ h553.size := Nat.le_trans kle552 E553.1
          have F_b553_offset_553 : Fld Z h553 b553 cPL "offset" "J" (.long (0 : Int64)) := D553 (Or.inr (tw hw 38 rfl)) (ty := .long) (by decide)
          have F_b553_end_553 : Fld Z h553 b553 cPL "end" "J" (.long (0 : Int64)) := D553 (Or.inr (tw hw 40 rfl)) (ty := .long) (by decide)
          have F_b553_records_553 : Fld Z h553 b553 cPL "records" dOP .null := D553 (Or.inr (tw hw 42 rfl)) (ty := (.object cOP)) (by decide)
          refine gsW T553 (mkF m 186 (lw1 q1 q2 p1 q3 q4 q5 1 0 1 1 u15 uo ue uf un fu nw w552) [(.ref b553)]) st553 ?_
          refine gsW T553 (mkF m 187 (lw1 q1 q2 p1 q3 q4 q5 1 0 1 1 u15 uo ue uf un fu nw w552) [(.ref b553), (.ref b553)]) (fun _ hr => XS.dup X553.here hx rfl (hb hby at_186) rfl rfl hr) ?_
          refine gsW T553 (mkF m 189 (lw1 q1 q2 p1 q3 q4 q5 1 0 1 1 u15 uo ue uf un fu nw w552) [(.long uo), (.ref b553), (.ref b553)]) (fun _ hr => XT.lload X553.here hx rfl (hb hby at_187) rfl hr) ?_
          refine gsW T553 (mkF m 191 (lw1 q1 q2 p1 q3 q4 q5 1 0 1 1 u15 uo ue uf un fu nw w552) [(.long ue), (.long uo), (.ref b553), (.ref b553)]) (fun _ hr => XT.lload X553.here hx rfl (hb hby at_189) rfl hr) ?_
          refine gsW T553 (mkF m 193 (lw1 q1 q2 p1 q3 q4 q5 1 0 1 1 u15 uo ue uf un fu nw w552) [(.ref w552), (.long ue), (.long uo), (.ref b553), (.ref b553)]) (fun _ hr => XS.aload X553.here hx rfl (hb hby at_191) rfl rfl hr) ?_
          have Zs554 : n0 ≤ h553.size := Nat.le_trans Z0 K553.1
          obtain ⟨_, _, ⟨T555, L555, k555, n555⟩, -, X555, Sc555, gr555, ⟨Lc555, hQ555, l555, y555, z555⟩, st555⟩ := X553.specialBackS hx (y := Y31) rfl hown550 (mvT hZ550 (tw hw 14 rfl)) (mvT hZ550 (tw hw 15 rfl)) (mvT hZ550 (tw hw 16 rfl)) (by decide) (backOfS (W := 1) (rm_pinit l Z a0 hw [] b553 uo ue w552 h553 n0 Zs554 (Old.keep O0 K553 hws) A553 F_b553_offset_553 F_b553_end_553 F_b553_records_553 ge_b553) hZ550 (tw hw 16 rfl) (tw hw 13 rfl) (by decide) (by decide)) (g := (mkF m 193 (lw1 q1 q2 p1 q3 q4 q5 1 0 1 1 u15 uo ue uf un fu nw w552) [(.ref w552), (.long ue), (.long uo), (.ref b553), (.ref b553)])) rfl (by rw [hml]; rfl) (Steps.refl _) (a := b553) (argsL := [(.long uo), (.long ue), (.ref w552)]) (rest := [(.ref b553)]) (lenOf pd_19 rfl) rfl (wle rfl) (hb hby at_193) (fun _ _ => ⟨rfl, e553, (by decide : 9 + 2 ≤ _), (by decide : 160 + 32 ≤ _)⟩)
          dsimp only [Pt.U, Pt.locs, Pt.cells, Pt.slots] at X555 l555 y555 z555 st555 hQ555 Sc555 gr555
          subst l555 y555 z555
          have Sn555 := Sn550.trans Sc555 (Nat.le_trans (show T550.heap.size ≤ T553.heap.size by rw [(e553 : T553.heap = h553)]; exact kle553) gr555)
          have hZ555 : Z.Warmed39 (s.setVm T555.vm).vm := State.Warmed39.trans (t := s.setVm T550.vm) hZ550 Sc555.1
          have hown555 : (s.setVm T555.vm).vm.findClass "com/example/log_lag_gauge/loglaggauge/model/PositionLagTimeLagMsPinLaw" = some m.cls := by rw [show (s.setVm T555.vm).vm = T555.vm from rfl, Sc555.1.alike.findClass]; exact hown550
          have kle555 : T555.heap.size ≤ T555.heap.size := Nat.le_refl _
          obtain ⟨rfl, N555q, Kc555, P555_0, P555_1, P555_2⟩ := hQ555
          have N555 := Fr.app N552 N555q
          have E_fu_555 : Exa Z T555.heap fu cOL := E_fu_553.keep Kc555
          have F_fu_isPresent_555 : Fld Z T555.heap fu cOL nIP "Z" (.int (1 : Int32)) := F_fu_isPresent_553.keep Kc555 (ninS (Nat.ne_of_lt (Nat.lt_of_lt_of_le E_fu_552.lt (Nat.le_of_eq g553.symm))) nin0)
          have F_fu_value_555 : Fld Z T555.heap fu cOL "value" "J" (.long uf) := F_fu_value_553.keep Kc555 (ninS (Nat.ne_of_lt (Nat.lt_of_lt_of_le E_fu_552.lt (Nat.le_of_eq g553.symm))) nin0)
          have E_nw_555 : Exa Z T555.heap nw cOL := E_nw_553.keep Kc555
          have F_nw_isPresent_555 : Fld Z T555.heap nw cOL nIP "Z" (.int (1 : Int32)) := F_nw_isPresent_553.keep Kc555 (ninS (Nat.ne_of_lt (Nat.lt_of_lt_of_le E_nw_552.lt (Nat.le_of_eq g553.symm))) nin0)
          have F_nw_value_555 : Fld Z T555.heap nw cOL "value" "J" (.long un) := F_nw_value_553.keep Kc555 (ninS (Nat.ne_of_lt (Nat.lt_of_lt_of_le E_nw_552.lt (Nat.le_of_eq g553.symm))) nin0)
          have E_b548_555 : Exa Z T555.heap b548 cRR := E_b548_553.keep Kc555
          have F_b548_onlyMarkersLeft_555 : Fld Z T555.heap b548 cRR nOM "Z" (.int (0 : Int32)) := F_b548_onlyMarkersLeft_553.keep Kc555 (ninS (Nat.ne_of_lt (Nat.lt_of_lt_of_le E_b548_552.lt (Nat.le_of_eq g553.symm))) nin0)
          have F_b548_firstUnreadTimestamp_555 : Fld Z T555.heap b548 cRR nLT dOL (.ref fu) := F_b548_firstUnreadTimestamp_553.keep Kc555 (ninS (Nat.ne_of_lt (Nat.lt_of_lt_of_le E_b548_552.lt (Nat.le_of_eq g553.symm))) nin0)
          have F_b548_newestTimestamp_555 : Fld Z T555.heap b548 cRR nNT dOL (.ref nw) := F_b548_newestTimestamp_553.keep Kc555 (ninS (Nat.ne_of_lt (Nat.lt_of_lt_of_le E_b548_552.lt (Nat.le_of_eq g553.symm))) nin0)
          have E_w552_555 : Exa Z T555.heap w552 cOP := E_w552_553.keep Kc555
          have F_w552_value_555 : Fld Z T555.heap w552 cOP "value" dOB (.ref b548) := F_w552_value_553.keep Kc555 (ninS (Nat.ne_of_lt (Nat.lt_of_lt_of_le E_w552_552c.lt (Nat.le_of_eq g553.symm))) nin0)
          have E_b553_555 : Exa Z T555.heap b553 cPL := A553.keep Kc555
          have K555 : Keep h0 T555.heap [] := K553.trans Kc555 (allS (Or.inr sz_b553) all0)
          have F_b553_offset_555c : Fld Z T555.heap b553 cPL "offset" "J" (.long uo) := P555_0
          have F_b553_end_555c : Fld Z T555.heap b553 cPL "end" "J" (.long ue) := P555_1
          have F_b553_records_555c : Fld Z T555.heap b553 cPL "records" dOP (.ref w552) := P555_2
          refine gsW T555 (mkF m 196 (lw1 q1 q2 p1 q3 q4 q5 1 0 1 1 u15 uo ue uf un fu nw w552) [(.ref b553)]) (fun _ hr => st555.trans hr) ?_
          refine gsW T555 (mkF m 198 (lw2 q1 q2 p1 q3 q4 q5 1 0 1 1 u15 uo ue uf un fu nw w552 b553) []) (fun _ hr => XS.astore X555.here hx rfl (hb hby at_196) rfl rfl (l' := (lw2 q1 q2 p1 q3 q4 q5 1 0 1 1 u15 uo ue uf un fu nw w552 b553)) rfl hr) ?_
          refine gsW T555 (mkF m 200 (lw2 q1 q2 p1 q3 q4 q5 1 0 1 1 u15 uo ue uf un fu nw w552 b553) [(.ref b553)]) (fun _ hr => XS.aload X555.here hx rfl (hb hby at_198) rfl rfl hr) ?_
          have hmq := own_max (t := un) (f := uf) (by omega) (by omega)
          rcases Classical.em ((0 : Int32) < XT.cmpL un uf) with htf | htf
          · have hmx := hmq.mp htf
            have Zs556 : n0 ≤ T555.heap.size := Nat.le_trans Z0 K555.1
            obtain ⟨cq557, kq557, q557a, q557b, q557c⟩ := isOf hZ555 rfl E_b553_555
            obtain ⟨_, _, ⟨T557, L557, k557, n557⟩, -, X557, ⟨Lc557, hQ557, l557, y557, z557⟩, st557⟩ := X555.virtualBack hx (y := Y30) (z := Y30) hown555 (mvT hZ555 (tw hw 43 rfl)) (mvT hZ555 (tw hw 44 rfl)) (notFace_of_selects (args := #[]) (mvT hZ555 (tw hw 46 rfl))) (mvT hZ555 (tw hw 46 rfl)) (mvT hZ555 (tw hw 45 rfl)) (by decide) (backOf (W := 0) (rm_age_p1 l Z a0 hw [] b553 b548 em uo ue w552 eo nw fu uf un T555.heap n0 Zs556 (Old.keep O0 K555 hws) E_b553_555 F_b553_offset_555c F_b553_end_555c F_b553_records_555c E_w552_555 F_w552_value_555 E_b548_555 F_b548_onlyMarkersLeft_555 F_b548_firstUnreadTimestamp_555 E_fu_555 F_fu_isPresent_555 F_fu_value_555 E_nw_555 F_nw_isPresent_555 F_nw_value_555 F_b548_newestTimestamp_555 S_OptionalLong_EMPTY_old E_em_old F_em_isPresent_old F_em_value_old S_Optional_EMPTY_old E_eo_old F_eo_value_old hle hpp hmx) hZ555 (tw hw 47 rfl) (tw hw 13 rfl) (by decide) (by decide)) q557a q557c (g := (mkF m 200 (lw2 q1 q2 p1 q3 q4 q5 1 0 1 1 u15 uo ue uf un fu nw w552 b553) [(.ref b553)])) rfl (by rw [hml]; rfl) (Steps.refl _) (argsL := []) (rest := []) (lenOf pd_6 rfl) rfl (wle rfl) (hb hby at_200) (fun _ _ => ⟨rfl, rfl, (by decide : 11 + 7 ≤ _), (by decide : 192 + 12 ≤ _)⟩)
            dsimp only [Pt.U, Pt.locs, Pt.cells, Pt.slots] at X557 l557 y557 z557 st557 hQ557
            subst l557 y557 z557
            obtain ⟨w557, rfl, N557q, Kc557, P557_0, P557_1, P557_2, P557_3⟩ := hQ557
            have N557 := Fr.app N555 N557q
            have K557 : Keep h0 T557.heap [] := K555.trans Kc557 all0
            have kle557 : T555.heap.size ≤ T557.heap.size := Nat.le_trans kle555 Kc557.1
            have E_w557_557c : Exa Z T557.heap w557 cOL := P557_1
            have F_w557_isPresent_557c : Fld Z T557.heap w557 cOL nIP "Z" (.int (1 : Int32)) := P557_2
            have F_w557_value_557c : Fld Z T557.heap w557 cOL "value" "J" (.long (un - uf)) := P557_3
            refine gsW T557 (mkF m 203 (lw2 q1 q2 p1 q3 q4 q5 1 0 1 1 u15 uo ue uf un fu nw w552 b553) [(.ref w557)]) (fun _ hr => st557.trans hr) ?_
            refine gsW T557 (mkF m 205 (lw3 q1 q2 p1 q3 q4 q5 1 0 1 1 u15 uo ue uf un fu nw w552 b553 w557) []) (fun _ hr => XS.astore X557.here hx rfl (hb hby at_203) rfl rfl (l' := (lw3 q1 q2 p1 q3 q4 q5 1 0 1 1 u15 uo ue uf un fu nw w552 b553 w557)) rfl hr) ?_
            refine gsW T557 (mkF m 206 (lw3 q1 q2 p1 q3 q4 q5 1 0 1 1 u15 uo ue uf un fu nw w552 b553 w557) [(.long (0 : Int64))]) (fun _ hr => XT.lconst X557.here hx rfl (hb hby at_205) hr) ?_
            refine gsW T557 (mkF m 208 (lw4 q1 q2 p1 q3 q4 q5 1 0 1 1 u15 uo ue uf un fu nw w552 b553 w557 (0 : Int64)) []) (fun _ hr => XT.lstore X557.here hx rfl (hb hby at_206) rfl (l' := (lw4 q1 q2 p1 q3 q4 q5 1 0 1 1 u15 uo ue uf un fu nw w552 b553 w557 (0 : Int64))) rfl hr) ?_
            refine gsW T557 (mkF m 210 (lw4 q1 q2 p1 q3 q4 q5 1 0 1 1 u15 uo ue uf un fu nw w552 b553 w557 (0 : Int64)) [(.int (1 : Int32))]) (fun _ hr => XS.iload X557.here hx rfl (hb hby at_208) rfl  hr) ?_
            refine gsW T557 (mkF m 213 (lw4 q1 q2 p1 q3 q4 q5 1 0 1 1 u15 uo ue uf un fu nw w552 b553 w557 (0 : Int64)) []) (fun _ hr => XS.ifNo X557.here hx rfl (hb hby at_210) rfl ((if0 _ _).trans (feq (by decide : ¬ ((1 : Int32) = (0 : Int32)))).1) hr) ?_
            refine gsW T557 (mkF m 215 (lw4 q1 q2 p1 q3 q4 q5 1 0 1 1 u15 uo ue uf un fu nw w552 b553 w557 (0 : Int64)) [(.long uo)]) (fun _ hr => XT.lload X557.here hx rfl (hb hby at_213) rfl hr) ?_
            refine gsW T557 (mkF m 217 (lw4 q1 q2 p1 q3 q4 q5 1 0 1 1 u15 uo ue uf un fu nw w552 b553 w557 (0 : Int64)) [(.long ue), (.long uo)]) (fun _ hr => XT.lload X557.here hx rfl (hb hby at_215) rfl hr) ?_
            refine gsW T557 (mkF m 218 (lw4 q1 q2 p1 q3 q4 q5 1 0 1 1 u15 uo ue uf un fu nw w552 b553 w557 (0 : Int64)) [(.int (XT.cmpL uo ue))]) (fun _ hr => XT.lcmp X557.here hx rfl (hb hby at_217) rfl hr) ?_
            refine gsW T557 (mkF m 227 (lw4 q1 q2 p1 q3 q4 q5 1 0 1 1 u15 uo ue uf un fu nw w552 b553 w557 (0 : Int64)) []) (fun _ hr => XS.ifYes X557.here hx rfl (pc0 := 218) (pc' := 227) rfl (hb hby at_218) rfl ((if0 _ _).trans (flt (hle : ¬ ((0 : Int32) < (XT.cmpL uo ue)))).2.2.2) (by decide) (by decide) hr) ?_
            refine gsW T557 (mkF m 228 (lw4 q1 q2 p1 q3 q4 q5 1 0 1 1 u15 uo ue uf un fu nw w552 b553 w557 (0 : Int64)) [(.int (0 : Int32))]) (fun _ hr => XS.iconst X557.here hx rfl (hb hby at_227) hr) ?_
            refine gsW T557 (mkF m 230 (lw5 q1 q2 p1 q3 q4 q5 1 0 1 1 u15 uo ue uf un fu nw w552 b553 w557 0 (0 : Int64)) []) (fun _ hr => XS.istore X557.here hx rfl (hb hby at_228) rfl (l' := (lw5 q1 q2 p1 q3 q4 q5 1 0 1 1 u15 uo ue uf un fu nw w552 b553 w557 0 (0 : Int64))) rfl hr) ?_
            refine gsW T557 (mkF m 232 (lw5 q1 q2 p1 q3 q4 q5 1 0 1 1 u15 uo ue uf un fu nw w552 b553 w557 0 (0 : Int64)) [(.long uo)]) (fun _ hr => XT.lload X557.here hx rfl (hb hby at_230) rfl hr) ?_
            refine gsW T557 (mkF m 234 (lw5 q1 q2 p1 q3 q4 q5 1 0 1 1 u15 uo ue uf un fu nw w552 b553 w557 0 (0 : Int64)) [(.long ue), (.long uo)]) (fun _ hr => XT.lload X557.here hx rfl (hb hby at_232) rfl hr) ?_
            refine gsW T557 (mkF m 235 (lw5 q1 q2 p1 q3 q4 q5 1 0 1 1 u15 uo ue uf un fu nw w552 b553 w557 0 (0 : Int64)) [(.int (XT.cmpL uo ue))]) (fun _ hr => XT.lcmp X557.here hx rfl (hb hby at_234) rfl hr) ?_
            refine gsW T557 (mkF m 238 (lw5 q1 q2 p1 q3 q4 q5 1 0 1 1 u15 uo ue uf un fu nw w552 b553 w557 0 (0 : Int64)) []) (fun _ hr => XS.ifNo X557.here hx rfl (hb hby at_235) rfl ((if0 _ _).trans (tlt ((own_lt0 hle hne) : (XT.cmpL uo ue) < (0 : Int32))).2.1) hr) ?_
            refine gsW T557 (mkF m 240 (lw5 q1 q2 p1 q3 q4 q5 1 0 1 1 u15 uo ue uf un fu nw w552 b553 w557 0 (0 : Int64)) [(.int (0 : Int32))]) (fun _ hr => XS.iload X557.here hx rfl (hb hby at_238) rfl  hr) ?_
            refine gsW T557 (mkF m 243 (lw5 q1 q2 p1 q3 q4 q5 1 0 1 1 u15 uo ue uf un fu nw w552 b553 w557 0 (0 : Int64)) []) (fun _ hr => XS.ifNo X557.here hx rfl (hb hby at_240) rfl ((if0 _ _).trans (teq (by decide : (0 : Int32) = (0 : Int32))).2) hr) ?_
            refine gsW T557 (mkF m 245 (lw5 q1 q2 p1 q3 q4 q5 1 0 1 1 u15 uo ue uf un fu nw w552 b553 w557 0 (0 : Int64)) [(.int (1 : Int32))]) (fun _ hr => XS.iload X557.here hx rfl (hb hby at_243) rfl  hr) ?_
            refine gsW T557 (mkF m 248 (lw5 q1 q2 p1 q3 q4 q5 1 0 1 1 u15 uo ue uf un fu nw w552 b553 w557 0 (0 : Int64)) []) (fun _ hr => XS.ifNo X557.here hx rfl (hb hby at_245) rfl ((if0 _ _).trans (feq (by decide : ¬ ((1 : Int32) = (0 : Int32)))).1) hr) ?_
            refine gsW T557 (mkF m 250 (lw5 q1 q2 p1 q3 q4 q5 1 0 1 1 u15 uo ue uf un fu nw w552 b553 w557 0 (0 : Int64)) [(.int (1 : Int32))]) (fun _ hr => XS.iload X557.here hx rfl (hb hby at_248) rfl  hr) ?_
            refine gsW T557 (mkF m 253 (lw5 q1 q2 p1 q3 q4 q5 1 0 1 1 u15 uo ue uf un fu nw w552 b553 w557 0 (0 : Int64)) []) (fun _ hr => XS.ifNo X557.here hx rfl (hb hby at_250) rfl ((if0 _ _).trans (feq (by decide : ¬ ((1 : Int32) = (0 : Int32)))).1) hr) ?_
            refine gsW T557 (mkF m 255 (lw5 q1 q2 p1 q3 q4 q5 1 0 1 1 u15 uo ue uf un fu nw w552 b553 w557 0 (0 : Int64)) [(.long un)]) (fun _ hr => XT.lload X557.here hx rfl (hb hby at_253) rfl hr) ?_
            refine gsW T557 (mkF m 257 (lw5 q1 q2 p1 q3 q4 q5 1 0 1 1 u15 uo ue uf un fu nw w552 b553 w557 0 (0 : Int64)) [(.long uf), (.long un)]) (fun _ hr => XT.lload X557.here hx rfl (hb hby at_255) rfl hr) ?_
            refine gsW T557 (mkF m 258 (lw5 q1 q2 p1 q3 q4 q5 1 0 1 1 u15 uo ue uf un fu nw w552 b553 w557 0 (0 : Int64)) [(.int (XT.cmpL un uf))]) (fun _ hr => XT.lcmp X557.here hx rfl (hb hby at_257) rfl hr) ?_
            refine gsW T557 (mkF m 261 (lw5 q1 q2 p1 q3 q4 q5 1 0 1 1 u15 uo ue uf un fu nw w552 b553 w557 0 (0 : Int64)) []) (fun _ hr => XS.ifNo X557.here hx rfl (hb hby at_258) rfl ((if0 _ _).trans (tlt (htf : (0 : Int32) < (XT.cmpL un uf))).2.2.2) hr) ?_
            refine gsW T557 (mkF m 263 (lw5 q1 q2 p1 q3 q4 q5 1 0 1 1 u15 uo ue uf un fu nw w552 b553 w557 0 (0 : Int64)) [(.long un)]) (fun _ hr => XT.lload X557.here hx rfl (hb hby at_261) rfl hr) ?_
            refine gsW T557 (mkF m 265 (lw5 q1 q2 p1 q3 q4 q5 1 0 1 1 u15 uo ue uf un fu nw w552 b553 w557 0 (0 : Int64)) [(.long uf), (.long un)]) (fun _ hr => XT.lload X557.here hx rfl (hb hby at_263) rfl hr) ?_
            refine gsW T557 (mkF m 266 (lw5 q1 q2 p1 q3 q4 q5 1 0 1 1 u15 uo ue uf un fu nw w552 b553 w557 0 (0 : Int64)) [(.long (un - uf))]) (fun _ hr => XT.lsub X557.here hx rfl (hb hby at_265) rfl hr) ?_
            refine gsW T557 (mkF m 268 (lw5 q1 q2 p1 q3 q4 q5 1 0 1 1 u15 uo ue uf un fu nw w552 b553 w557 0 (un - uf)) []) (fun _ hr => XT.lstore X557.here hx rfl (hb hby at_266) rfl (l' := (lw5 q1 q2 p1 q3 q4 q5 1 0 1 1 u15 uo ue uf un fu nw w552 b553 w557 0 (un - uf))) rfl hr) ?_
            refine gsW T557 (mkF m 270 (lw5 q1 q2 p1 q3 q4 q5 1 0 1 1 u15 uo ue uf un fu nw w552 b553 w557 0 (un - uf)) [(.int (0 : Int32))]) (fun _ hr => XS.iload X557.here hx rfl (hb hby at_268) rfl  hr) ?_
            refine gsW T557 (mkF m 279 (lw5 q1 q2 p1 q3 q4 q5 1 0 1 1 u15 uo ue uf un fu nw w552 b553 w557 0 (un - uf)) []) (fun _ hr => XS.ifYes X557.here hx rfl (pc0 := 270) (pc' := 279) rfl (hb hby at_270) rfl ((if0 _ _).trans (teq (by decide : (0 : Int32) = (0 : Int32))).1) (by decide) (by decide) hr) ?_
            refine gsW T557 (mkF m 281 (lw5 q1 q2 p1 q3 q4 q5 1 0 1 1 u15 uo ue uf un fu nw w552 b553 w557 0 (un - uf)) [(.ref w557)]) (fun _ hr => XS.aload X557.here hx rfl (hb hby at_279) rfl rfl hr) ?_
            have Zs558 : n0 ≤ T557.heap.size := Nat.le_trans Z0 K557.1
            obtain ⟨cq559, kq559, q559a, q559b, q559c⟩ := isOf hZ555 rfl E_w557_557c
            obtain ⟨_, _, ⟨T559, L559, k559, n559⟩, -, X559, ⟨Lc559, hQ559, l559, y559, z559⟩, st559⟩ := X557.virtualBack hx (y := Y5) (z := Y5) hown555 (mvT hZ555 (tw hw 185 rfl)) (mvT hZ555 (tw hw 156 rfl)) (notFace_of_selects (args := #[]) (mvT hZ555 (tw hw 158 rfl))) (mvT hZ555 (tw hw 158 rfl)) (mvT hZ555 (tw hw 157 rfl)) (by decide) (backOf (W := 0) (rm_olp1 l Z a0 hw [] w557 T557.heap n0 Zs558 (Old.keep O0 K557 hws) F_w557_isPresent_557c) hZ555 (tw hw 159 rfl) (tw hw 3 rfl) (by decide) (by decide)) q559a q559c (g := (mkF m 281 (lw5 q1 q2 p1 q3 q4 q5 1 0 1 1 u15 uo ue uf un fu nw w552 b553 w557 0 (un - uf)) [(.ref w557)])) rfl (by rw [hml]; rfl) (Steps.refl _) (argsL := []) (rest := []) (lenOf pd_1 rfl) rfl (wle rfl) (hb hby at_281) (fun _ _ => ⟨rfl, rfl, (by decide : 18 + 0 ≤ _), (by decide : 204 + 0 ≤ _)⟩)
            dsimp only [Pt.U, Pt.locs, Pt.cells, Pt.slots] at X559 l559 y559 z559 st559 hQ559
            subst l559 y559 z559
            obtain ⟨rfl, N559q, e559⟩ := hQ559
            have N559 := Fr.app N557 N559q
            refine gsW T559 (mkF m 284 (lw5 q1 q2 p1 q3 q4 q5 1 0 1 1 u15 uo ue uf un fu nw w552 b553 w557 0 (un - uf)) [(.int (1 : Int32))]) (fun _ hr => st559.trans hr) ?_
            refine gsW T559 (mkF m 287 (lw5 q1 q2 p1 q3 q4 q5 1 0 1 1 u15 uo ue uf un fu nw w552 b553 w557 0 (un - uf)) []) (fun _ hr => XS.ifNo X559.here hx rfl (hb hby at_284) rfl ((if0 _ _).trans (feq (by decide : ¬ ((1 : Int32) = (0 : Int32)))).1) hr) ?_
            refine gsW T559 (mkF m 289 (lw5 q1 q2 p1 q3 q4 q5 1 0 1 1 u15 uo ue uf un fu nw w552 b553 w557 0 (un - uf)) [(.ref w557)]) (fun _ hr => XS.aload X559.here hx rfl (hb hby at_287) rfl rfl hr) ?_
            have Zs560 : n0 ≤ T557.heap.size := Nat.le_trans Z0 K557.1
            obtain ⟨cq561, kq561, q561a, q561b, q561c⟩ := isOf hZ555 e559 E_w557_557c
            obtain ⟨_, _, ⟨T561, L561, k561, n561⟩, -, X561, ⟨Lc561, hQ561, l561, y561, z561⟩, st561⟩ := X559.virtualBack hx (y := Y7) (z := Y7) hown555 (mvT hZ555 (tw hw 186 rfl)) (mvT hZ555 (tw hw 150 rfl)) (notFace_of_selects (args := #[]) (mvT hZ555 (tw hw 152 rfl))) (mvT hZ555 (tw hw 152 rfl)) (mvT hZ555 (tw hw 151 rfl)) (by decide) (backOf (W := 0) (rm_olg l Z a0 hw [] w557 (un - uf) T557.heap n0 Zs560 (Old.keep O0 K557 hws) F_w557_isPresent_557c F_w557_value_557c) hZ555 (tw hw 153 rfl) (tw hw 3 rfl) (by decide) (by decide)) q561a q561c (g := (mkF m 289 (lw5 q1 q2 p1 q3 q4 q5 1 0 1 1 u15 uo ue uf un fu nw w552 b553 w557 0 (un - uf)) [(.ref w557)])) rfl (by rw [hml]; rfl) (Steps.refl _) (argsL := []) (rest := []) (lenOf pd_5 rfl) rfl (wle rfl) (hb hby at_289) (fun _ _ => ⟨rfl, e559, (by decide : 18 + 0 ≤ _), (by decide : 204 + 0 ≤ _)⟩)
            dsimp only [Pt.U, Pt.locs, Pt.cells, Pt.slots] at X561 l561 y561 z561 st561 hQ561
            subst l561 y561 z561
            obtain ⟨rfl, N561q, e561⟩ := hQ561
            have N561 := Fr.app N559 N561q
            refine gsW T561 (mkF m 292 (lw5 q1 q2 p1 q3 q4 q5 1 0 1 1 u15 uo ue uf un fu nw w552 b553 w557 0 (un - uf)) [(.long (un - uf))]) (fun _ hr => st561.trans hr) ?_
            refine gsW T561 (mkF m 294 (lw5 q1 q2 p1 q3 q4 q5 1 0 1 1 u15 uo ue uf un fu nw w552 b553 w557 0 (un - uf)) [(.long (un - uf)), (.long (un - uf))]) (fun _ hr => XT.lload X561.here hx rfl (hb hby at_292) rfl hr) ?_
            refine gsW T561 (mkF m 295 (lw5 q1 q2 p1 q3 q4 q5 1 0 1 1 u15 uo ue uf un fu nw w552 b553 w557 0 (un - uf)) [(.int (XT.cmpL (un - uf) (un - uf)))]) (fun _ hr => XT.lcmp X561.here hx rfl (hb hby at_294) rfl hr) ?_
            rw [cmpL_self]
            refine gsW T561 (mkF m 298 (lw5 q1 q2 p1 q3 q4 q5 1 0 1 1 u15 uo ue uf un fu nw w552 b553 w557 0 (un - uf)) []) (fun _ hr => XS.ifNo X561.here hx rfl (hb hby at_295) rfl ((if0 _ _).trans (teq (by decide : (0 : Int32) = (0 : Int32))).2) hr) ?_
            refine gsW T561 (mkF m 299 (lw5 q1 q2 p1 q3 q4 q5 1 0 1 1 u15 uo ue uf un fu nw w552 b553 w557 0 (un - uf)) [(.int (1 : Int32))]) (fun _ hr => XS.iconst X561.here hx rfl (hb hby at_298) hr) ?_
            refine gsW T561 (mkF m 303 (lw5 q1 q2 p1 q3 q4 q5 1 0 1 1 u15 uo ue uf un fu nw w552 b553 w557 0 (un - uf)) [(.int (1 : Int32))]) (fun _ hr => XS.goto X561.here hx rfl (pc0 := 299) (pc' := 303) rfl (hb hby at_299) (by decide) (by decide) hr) ?_
            exact GoesW.ret (v := some (.int (1 : Int32))) X561 Sn555 (by rw [e561]; exact kle557) (by decide) (by decide) (fun h => by rw [Bd.returns] at h; cases h) ⟨rfl, N561⟩ (fun fs hr => retN X561 hx (t := .boolean) Bd.returns (by simp) (hb hby at_303) hr)
          · have hmn := fun q => htf (hmq.mpr q)
            have Zs562 : n0 ≤ T555.heap.size := Nat.le_trans Z0 K555.1
            obtain ⟨cq563, kq563, q563a, q563b, q563c⟩ := isOf hZ555 rfl E_b553_555
            obtain ⟨_, _, ⟨T563, L563, k563, n563⟩, -, X563, ⟨Lc563, hQ563, l563, y563, z563⟩, st563⟩ := X555.virtualBack hx (y := Y30) (z := Y30) hown555 (mvT hZ555 (tw hw 43 rfl)) (mvT hZ555 (tw hw 44 rfl)) (notFace_of_selects (args := #[]) (mvT hZ555 (tw hw 46 rfl))) (mvT hZ555 (tw hw 46 rfl)) (mvT hZ555 (tw hw 45 rfl)) (by decide) (backOf (W := 0) (rm_age_p0 l Z a0 hw [] b553 b548 em uo ue w552 eo nw fu uf un T555.heap n0 Zs562 (Old.keep O0 K555 hws) E_b553_555 F_b553_offset_555c F_b553_end_555c F_b553_records_555c E_w552_555 F_w552_value_555 E_b548_555 F_b548_onlyMarkersLeft_555 F_b548_firstUnreadTimestamp_555 E_fu_555 F_fu_isPresent_555 F_fu_value_555 E_nw_555 F_nw_isPresent_555 F_nw_value_555 F_b548_newestTimestamp_555 S_OptionalLong_EMPTY_old E_em_old F_em_isPresent_old F_em_value_old S_Optional_EMPTY_old E_eo_old F_eo_value_old hle hpp hmn) hZ555 (tw hw 47 rfl) (tw hw 13 rfl) (by decide) (by decide)) q563a q563c (g := (mkF m 200 (lw2 q1 q2 p1 q3 q4 q5 1 0 1 1 u15 uo ue uf un fu nw w552 b553) [(.ref b553)])) rfl (by rw [hml]; rfl) (Steps.refl _) (argsL := []) (rest := []) (lenOf pd_6 rfl) rfl (wle rfl) (hb hby at_200) (fun _ _ => ⟨rfl, rfl, (by decide : 11 + 7 ≤ _), (by decide : 192 + 12 ≤ _)⟩)
            dsimp only [Pt.U, Pt.locs, Pt.cells, Pt.slots] at X563 l563 y563 z563 st563 hQ563
            subst l563 y563 z563
            obtain ⟨w563, rfl, N563q, Kc563, P563_0, P563_1, P563_2, P563_3⟩ := hQ563
            have N563 := Fr.app N555 N563q
            have K563 : Keep h0 T563.heap [] := K555.trans Kc563 all0
            have kle563 : T555.heap.size ≤ T563.heap.size := Nat.le_trans kle555 Kc563.1
            have E_w563_563c : Exa Z T563.heap w563 cOL := P563_1
            have F_w563_isPresent_563c : Fld Z T563.heap w563 cOL nIP "Z" (.int (1 : Int32)) := P563_2
            have F_w563_value_563c : Fld Z T563.heap w563 cOL "value" "J" (.long (0 : Int64)) := P563_3
            refine gsW T563 (mkF m 203 (lw2 q1 q2 p1 q3 q4 q5 1 0 1 1 u15 uo ue uf un fu nw w552 b553) [(.ref w563)]) (fun _ hr => st563.trans hr) ?_
            refine gsW T563 (mkF m 205 (lw3 q1 q2 p1 q3 q4 q5 1 0 1 1 u15 uo ue uf un fu nw w552 b553 w563) []) (fun _ hr => XS.astore X563.here hx rfl (hb hby at_203) rfl rfl (l' := (lw3 q1 q2 p1 q3 q4 q5 1 0 1 1 u15 uo ue uf un fu nw w552 b553 w563)) rfl hr) ?_
            refine gsW T563 (mkF m 206 (lw3 q1 q2 p1 q3 q4 q5 1 0 1 1 u15 uo ue uf un fu nw w552 b553 w563) [(.long (0 : Int64))]) (fun _ hr => XT.lconst X563.here hx rfl (hb hby at_205) hr) ?_
            refine gsW T563 (mkF m 208 (lw4 q1 q2 p1 q3 q4 q5 1 0 1 1 u15 uo ue uf un fu nw w552 b553 w563 (0 : Int64)) []) (fun _ hr => XT.lstore X563.here hx rfl (hb hby at_206) rfl (l' := (lw4 q1 q2 p1 q3 q4 q5 1 0 1 1 u15 uo ue uf un fu nw w552 b553 w563 (0 : Int64))) rfl hr) ?_
            refine gsW T563 (mkF m 210 (lw4 q1 q2 p1 q3 q4 q5 1 0 1 1 u15 uo ue uf un fu nw w552 b553 w563 (0 : Int64)) [(.int (1 : Int32))]) (fun _ hr => XS.iload X563.here hx rfl (hb hby at_208) rfl  hr) ?_
            refine gsW T563 (mkF m 213 (lw4 q1 q2 p1 q3 q4 q5 1 0 1 1 u15 uo ue uf un fu nw w552 b553 w563 (0 : Int64)) []) (fun _ hr => XS.ifNo X563.here hx rfl (hb hby at_210) rfl ((if0 _ _).trans (feq (by decide : ¬ ((1 : Int32) = (0 : Int32)))).1) hr) ?_
            refine gsW T563 (mkF m 215 (lw4 q1 q2 p1 q3 q4 q5 1 0 1 1 u15 uo ue uf un fu nw w552 b553 w563 (0 : Int64)) [(.long uo)]) (fun _ hr => XT.lload X563.here hx rfl (hb hby at_213) rfl hr) ?_
            refine gsW T563 (mkF m 217 (lw4 q1 q2 p1 q3 q4 q5 1 0 1 1 u15 uo ue uf un fu nw w552 b553 w563 (0 : Int64)) [(.long ue), (.long uo)]) (fun _ hr => XT.lload X563.here hx rfl (hb hby at_215) rfl hr) ?_
            refine gsW T563 (mkF m 218 (lw4 q1 q2 p1 q3 q4 q5 1 0 1 1 u15 uo ue uf un fu nw w552 b553 w563 (0 : Int64)) [(.int (XT.cmpL uo ue))]) (fun _ hr => XT.lcmp X563.here hx rfl (hb hby at_217) rfl hr) ?_
            refine gsW T563 (mkF m 227 (lw4 q1 q2 p1 q3 q4 q5 1 0 1 1 u15 uo ue uf un fu nw w552 b553 w563 (0 : Int64)) []) (fun _ hr => XS.ifYes X563.here hx rfl (pc0 := 218) (pc' := 227) rfl (hb hby at_218) rfl ((if0 _ _).trans (flt (hle : ¬ ((0 : Int32) < (XT.cmpL uo ue)))).2.2.2) (by decide) (by decide) hr) ?_
            refine gsW T563 (mkF m 228 (lw4 q1 q2 p1 q3 q4 q5 1 0 1 1 u15 uo ue uf un fu nw w552 b553 w563 (0 : Int64)) [(.int (0 : Int32))]) (fun _ hr => XS.iconst X563.here hx rfl (hb hby at_227) hr) ?_
            refine gsW T563 (mkF m 230 (lw5 q1 q2 p1 q3 q4 q5 1 0 1 1 u15 uo ue uf un fu nw w552 b553 w563 0 (0 : Int64)) []) (fun _ hr => XS.istore X563.here hx rfl (hb hby at_228) rfl (l' := (lw5 q1 q2 p1 q3 q4 q5 1 0 1 1 u15 uo ue uf un fu nw w552 b553 w563 0 (0 : Int64))) rfl hr) ?_
            refine gsW T563 (mkF m 232 (lw5 q1 q2 p1 q3 q4 q5 1 0 1 1 u15 uo ue uf un fu nw w552 b553 w563 0 (0 : Int64)) [(.long uo)]) (fun _ hr => XT.lload X563.here hx rfl (hb hby at_230) rfl hr) ?_
            refine gsW T563 (mkF m 234 (lw5 q1 q2 p1 q3 q4 q5 1 0 1 1 u15 uo ue uf un fu nw w552 b553 w563 0 (0 : Int64)) [(.long ue), (.long uo)]) (fun _ hr => XT.lload X563.here hx rfl (hb hby at_232) rfl hr) ?_
            refine gsW T563 (mkF m 235 (lw5 q1 q2 p1 q3 q4 q5 1 0 1 1 u15 uo ue uf un fu nw w552 b553 w563 0 (0 : Int64)) [(.int (XT.cmpL uo ue))]) (fun _ hr => XT.lcmp X563.here hx rfl (hb hby at_234) rfl hr) ?_
            refine gsW T563 (mkF m 238 (lw5 q1 q2 p1 q3 q4 q5 1 0 1 1 u15 uo ue uf un fu nw w552 b553 w563 0 (0 : Int64)) []) (fun _ hr => XS.ifNo X563.here hx rfl (hb hby at_235) rfl ((if0 _ _).trans (tlt ((own_lt0 hle hne) : (XT.cmpL uo ue) < (0 : Int32))).2.1) hr) ?_
            refine gsW T563 (mkF m 240 (lw5 q1 q2 p1 q3 q4 q5 1 0 1 1 u15 uo ue uf un fu nw w552 b553 w563 0 (0 : Int64)) [(.int (0 : Int32))]) (fun _ hr => XS.iload X563.here hx rfl (hb hby at_238) rfl  hr) ?_
            refine gsW T563 (mkF m 243 (lw5 q1 q2 p1 q3 q4 q5 1 0 1 1 u15 uo ue uf un fu nw w552 b553 w563 0 (0 : Int64)) []) (fun _ hr => XS.ifNo X563.here hx rfl (hb hby at_240) rfl ((if0 _ _).trans (teq (by decide : (0 : Int32) = (0 : Int32))).2) hr) ?_
            refine gsW T563 (mkF m 245 (lw5 q1 q2 p1 q3 q4 q5 1 0 1 1 u15 uo ue uf un fu nw w552 b553 w563 0 (0 : Int64)) [(.int (1 : Int32))]) (fun _ hr => XS.iload X563.here hx rfl (hb hby at_243) rfl  hr) ?_
            refine gsW T563 (mkF m 248 (lw5 q1 q2 p1 q3 q4 q5 1 0 1 1 u15 uo ue uf un fu nw w552 b553 w563 0 (0 : Int64)) []) (fun _ hr => XS.ifNo X563.here hx rfl (hb hby at_245) rfl ((if0 _ _).trans (feq (by decide : ¬ ((1 : Int32) = (0 : Int32)))).1) hr) ?_
            refine gsW T563 (mkF m 250 (lw5 q1 q2 p1 q3 q4 q5 1 0 1 1 u15 uo ue uf un fu nw w552 b553 w563 0 (0 : Int64)) [(.int (1 : Int32))]) (fun _ hr => XS.iload X563.here hx rfl (hb hby at_248) rfl  hr) ?_
            refine gsW T563 (mkF m 253 (lw5 q1 q2 p1 q3 q4 q5 1 0 1 1 u15 uo ue uf un fu nw w552 b553 w563 0 (0 : Int64)) []) (fun _ hr => XS.ifNo X563.here hx rfl (hb hby at_250) rfl ((if0 _ _).trans (feq (by decide : ¬ ((1 : Int32) = (0 : Int32)))).1) hr) ?_
            refine gsW T563 (mkF m 255 (lw5 q1 q2 p1 q3 q4 q5 1 0 1 1 u15 uo ue uf un fu nw w552 b553 w563 0 (0 : Int64)) [(.long un)]) (fun _ hr => XT.lload X563.here hx rfl (hb hby at_253) rfl hr) ?_
            refine gsW T563 (mkF m 257 (lw5 q1 q2 p1 q3 q4 q5 1 0 1 1 u15 uo ue uf un fu nw w552 b553 w563 0 (0 : Int64)) [(.long uf), (.long un)]) (fun _ hr => XT.lload X563.here hx rfl (hb hby at_255) rfl hr) ?_
            refine gsW T563 (mkF m 258 (lw5 q1 q2 p1 q3 q4 q5 1 0 1 1 u15 uo ue uf un fu nw w552 b553 w563 0 (0 : Int64)) [(.int (XT.cmpL un uf))]) (fun _ hr => XT.lcmp X563.here hx rfl (hb hby at_257) rfl hr) ?_
            refine gsW T563 (mkF m 268 (lw5 q1 q2 p1 q3 q4 q5 1 0 1 1 u15 uo ue uf un fu nw w552 b553 w563 0 (0 : Int64)) []) (fun _ hr => XS.ifYes X563.here hx rfl (pc0 := 258) (pc' := 268) rfl (hb hby at_258) rfl ((if0 _ _).trans (flt (htf : ¬ ((0 : Int32) < (XT.cmpL un uf)))).2.2.2) (by decide) (by decide) hr) ?_
            refine gsW T563 (mkF m 270 (lw5 q1 q2 p1 q3 q4 q5 1 0 1 1 u15 uo ue uf un fu nw w552 b553 w563 0 (0 : Int64)) [(.int (0 : Int32))]) (fun _ hr => XS.iload X563.here hx rfl (hb hby at_268) rfl  hr) ?_
            refine gsW T563 (mkF m 279 (lw5 q1 q2 p1 q3 q4 q5 1 0 1 1 u15 uo ue uf un fu nw w552 b553 w563 0 (0 : Int64)) []) (fun _ hr => XS.ifYes X563.here hx rfl (pc0 := 270) (pc' := 279) rfl (hb hby at_270) rfl ((if0 _ _).trans (teq (by decide : (0 : Int32) = (0 : Int32))).1) (by decide) (by decide) hr) ?_
            refine gsW T563 (mkF m 281 (lw5 q1 q2 p1 q3 q4 q5 1 0 1 1 u15 uo ue uf un fu nw w552 b553 w563 0 (0 : Int64)) [(.ref w563)]) (fun _ hr => XS.aload X563.here hx rfl (hb hby at_279) rfl rfl hr) ?_
            have Zs564 : n0 ≤ T563.heap.size := Nat.le_trans Z0 K563.1
            obtain ⟨cq565, kq565, q565a, q565b, q565c⟩ := isOf hZ555 rfl E_w563_563c
            obtain ⟨_, _, ⟨T565, L565, k565, n565⟩, -, X565, ⟨Lc565, hQ565, l565, y565, z565⟩, st565⟩ := X563.virtualBack hx (y := Y5) (z := Y5) hown555 (mvT hZ555 (tw hw 185 rfl)) (mvT hZ555 (tw hw 156 rfl)) (notFace_of_selects (args := #[]) (mvT hZ555 (tw hw 158 rfl))) (mvT hZ555 (tw hw 158 rfl)) (mvT hZ555 (tw hw 157 rfl)) (by decide) (backOf (W := 0) (rm_olp1 l Z a0 hw [] w563 T563.heap n0 Zs564 (Old.keep O0 K563 hws) F_w563_isPresent_563c) hZ555 (tw hw 159 rfl) (tw hw 3 rfl) (by decide) (by decide)) q565a q565c (g := (mkF m 281 (lw5 q1 q2 p1 q3 q4 q5 1 0 1 1 u15 uo ue uf un fu nw w552 b553 w563 0 (0 : Int64)) [(.ref w563)])) rfl (by rw [hml]; rfl) (Steps.refl _) (argsL := []) (rest := []) (lenOf pd_1 rfl) rfl (wle rfl) (hb hby at_281) (fun _ _ => ⟨rfl, rfl, (by decide : 18 + 0 ≤ _), (by decide : 204 + 0 ≤ _)⟩)
            dsimp only [Pt.U, Pt.locs, Pt.cells, Pt.slots] at X565 l565 y565 z565 st565 hQ565
            subst l565 y565 z565
            obtain ⟨rfl, N565q, e565⟩ := hQ565
            have N565 := Fr.app N563 N565q
            refine gsW T565 (mkF m 284 (lw5 q1 q2 p1 q3 q4 q5 1 0 1 1 u15 uo ue uf un fu nw w552 b553 w563 0 (0 : Int64)) [(.int (1 : Int32))]) (fun _ hr => st565.trans hr) ?_
            refine gsW T565 (mkF m 287 (lw5 q1 q2 p1 q3 q4 q5 1 0 1 1 u15 uo ue uf un fu nw w552 b553 w563 0 (0 : Int64)) []) (fun _ hr => XS.ifNo X565.here hx rfl (hb hby at_284) rfl ((if0 _ _).trans (feq (by decide : ¬ ((1 : Int32) = (0 : Int32)))).1) hr) ?_
            refine gsW T565 (mkF m 289 (lw5 q1 q2 p1 q3 q4 q5 1 0 1 1 u15 uo ue uf un fu nw w552 b553 w563 0 (0 : Int64)) [(.ref w563)]) (fun _ hr => XS.aload X565.here hx rfl (hb hby at_287) rfl rfl hr) ?_
            have Zs566 : n0 ≤ T563.heap.size := Nat.le_trans Z0 K563.1
            obtain ⟨cq567, kq567, q567a, q567b, q567c⟩ := isOf hZ555 e565 E_w563_563c
            obtain ⟨_, _, ⟨T567, L567, k567, n567⟩, -, X567, ⟨Lc567, hQ567, l567, y567, z567⟩, st567⟩ := X565.virtualBack hx (y := Y7) (z := Y7) hown555 (mvT hZ555 (tw hw 186 rfl)) (mvT hZ555 (tw hw 150 rfl)) (notFace_of_selects (args := #[]) (mvT hZ555 (tw hw 152 rfl))) (mvT hZ555 (tw hw 152 rfl)) (mvT hZ555 (tw hw 151 rfl)) (by decide) (backOf (W := 0) (rm_olg l Z a0 hw [] w563 (0 : Int64) T563.heap n0 Zs566 (Old.keep O0 K563 hws) F_w563_isPresent_563c F_w563_value_563c) hZ555 (tw hw 153 rfl) (tw hw 3 rfl) (by decide) (by decide)) q567a q567c (g := (mkF m 289 (lw5 q1 q2 p1 q3 q4 q5 1 0 1 1 u15 uo ue uf un fu nw w552 b553 w563 0 (0 : Int64)) [(.ref w563)])) rfl (by rw [hml]; rfl) (Steps.refl _) (argsL := []) (rest := []) (lenOf pd_5 rfl) rfl (wle rfl) (hb hby at_289) (fun _ _ => ⟨rfl, e565, (by decide : 18 + 0 ≤ _), (by decide : 204 + 0 ≤ _)⟩)
            dsimp only [Pt.U, Pt.locs, Pt.cells, Pt.slots] at X567 l567 y567 z567 st567 hQ567
            subst l567 y567 z567
            obtain ⟨rfl, N567q, e567⟩ := hQ567
            have N567 := Fr.app N565 N567q
            refine gsW T567 (mkF m 292 (lw5 q1 q2 p1 q3 q4 q5 1 0 1 1 u15 uo ue uf un fu nw w552 b553 w563 0 (0 : Int64)) [(.long (0 : Int64))]) (fun _ hr => st567.trans hr) ?_
            refine gsW T567 (mkF m 294 (lw5 q1 q2 p1 q3 q4 q5 1 0 1 1 u15 uo ue uf un fu nw w552 b553 w563 0 (0 : Int64)) [(.long (0 : Int64)), (.long (0 : Int64))]) (fun _ hr => XT.lload X567.here hx rfl (hb hby at_292) rfl hr) ?_
            refine gsW T567 (mkF m 295 (lw5 q1 q2 p1 q3 q4 q5 1 0 1 1 u15 uo ue uf un fu nw w552 b553 w563 0 (0 : Int64)) [(.int (XT.cmpL (0 : Int64) (0 : Int64)))]) (fun _ hr => XT.lcmp X567.here hx rfl (hb hby at_294) rfl hr) ?_
            rw [cmpL_self]
            refine gsW T567 (mkF m 298 (lw5 q1 q2 p1 q3 q4 q5 1 0 1 1 u15 uo ue uf un fu nw w552 b553 w563 0 (0 : Int64)) []) (fun _ hr => XS.ifNo X567.here hx rfl (hb hby at_295) rfl ((if0 _ _).trans (teq (by decide : (0 : Int32) = (0 : Int32))).2) hr) ?_
            refine gsW T567 (mkF m 299 (lw5 q1 q2 p1 q3 q4 q5 1 0 1 1 u15 uo ue uf un fu nw w552 b553 w563 0 (0 : Int64)) [(.int (1 : Int32))]) (fun _ hr => XS.iconst X567.here hx rfl (hb hby at_298) hr) ?_
            refine gsW T567 (mkF m 303 (lw5 q1 q2 p1 q3 q4 q5 1 0 1 1 u15 uo ue uf un fu nw w552 b553 w563 0 (0 : Int64)) [(.int (1 : Int32))]) (fun _ hr => XS.goto X567.here hx rfl (pc0 := 299) (pc' := 303) rfl (hb hby at_299) (by decide) (by decide) hr) ?_
            exact GoesW.ret (v := some (.int (1 : Int32))) X567 Sn555 (by rw [e567]; exact kle563) (by decide) (by decide) (fun h => by rw [Bd.returns] at h; cases h) ⟨rfl, N567⟩ (fun fs hr => retN X567 hx (t := .boolean) Bd.returns (by simp) (hb hby at_303) hr)
  have SEGa : ∀ (Tg : State) (hg : Heap) (Lg : List Loc) (u11 : Int32) (u12 : Int32) (u13 : Int32) (u14 : Int32) (u15 : Int32) (uo : Int64) (ue : Int64) (uf : Int64) (un : Int64), Stand p l e room_1 s m #[(.long q1), (.long q2), (.int p1), (.long q3), (.long q4), (.long q5)] below meth c Tg Lg 0 0 → Tg.heap = hg → Fr n0 Lg → Keep h0 hg [] → u11 = (0 : Int32) ∨ u11 = (1 : Int32) → u12 = (0 : Int32) ∨ u12 = (1 : Int32) → u13 = (0 : Int32) ∨ u13 = (1 : Int32) → u14 = (0 : Int32) ∨ u14 = (1 : Int32) → u15 = (0 : Int32) ∨ u15 = (1 : Int32) → 0 ≤ uo.toInt → 0 ≤ ue.toInt → - 2 ^ 62 ≤ uf.toInt ∧ uf.toInt < 2 ^ 62 → - 2 ^ 62 ≤ un.toInt ∧ un.toInt < 2 ^ 62 → GoesW p l e room_1 s m #[(.long q1), (.long q2), (.int p1), (.long q3), (.long q4), (.long q5)] below meth c (Q_rm_law Z q1 q2 p1 q3 q4 q5 em eo h0 n0) Tg (mkF m 110 (lw6 q1 q2 p1 q3 q4 q5 u11 u12 u13 u14 u15 uo ue uf un) []) := by
    intro Tg hg Lg u11 u12 u13 u14 u15 uo ue uf un Xg eg Ng Kg h11 h12 h13 h14 h15 ho he hf hn
    rcases h13 with rfl | rfl
    · refine gsW Tg (mkF m 112 (lw6 q1 q2 p1 q3 q4 q5 u11 u12 0 u14 u15 uo ue uf un) [(.int (0 : Int32))]) (fun _ hr => XS.iload Xg.here hx rfl (hb hby at_110) rfl  hr) ?_
      refine gsW Tg (mkF m 125 (lw6 q1 q2 p1 q3 q4 q5 u11 u12 0 u14 u15 uo ue uf un) []) (fun _ hr => XS.ifYes Xg.here hx rfl (pc0 := 112) (pc' := 125) rfl (hb hby at_112) rfl ((if0 _ _).trans (teq (by decide : (0 : Int32) = (0 : Int32))).1) (by decide) (by decide) hr) ?_
      have Zs568 : n0 ≤ hg.size := Nat.le_trans Z0 Kg.1
      obtain ⟨_, _, ⟨T569, L569, k569, n569⟩, -, X569, ⟨Lc569, hQ569, l569, y569, z569⟩, st569⟩ := LawKit.callS Xg hx (y := Y4) hown (mvT hZ (tw hw 1 rfl)) (mvT hZ (tw hw 2 rfl)) (mvT hZ (tw hw 3 rfl)) (mvT hZ (tw hw 4 rfl)) (by decide) (backOf (W := 0) (rm_olem l Z a0 hw [] em hg n0 Zs568 (Old.keep O0 Kg hws) S_OptionalLong_EMPTY_old) hZ (tw hw 4 rfl) (tw hw 3 rfl) (by decide) (by decide)) (g := (mkF m 125 (lw6 q1 q2 p1 q3 q4 q5 u11 u12 0 u14 u15 uo ue uf un) [])) rfl (by rw [hml]; rfl) (argsL := []) (rest := []) (lenOf pd_6 rfl) rfl (wle rfl) (hb hby at_125) (fun _ _ => ⟨rfl, eg, (by decide : 0 + 0 ≤ _), (by decide : 0 + 0 ≤ _)⟩)
      dsimp only [Pt.U, Pt.locs, Pt.cells, Pt.slots] at X569 l569 y569 z569 st569 hQ569
      subst l569 y569 z569
      obtain ⟨rfl, N569q, e569⟩ := hQ569
      have N569 := Fr.app Ng N569q
      refine gsW T569 (mkF m 128 (lw6 q1 q2 p1 q3 q4 q5 u11 u12 0 u14 u15 uo ue uf un) [(.ref em)]) st569 ?_
      refine gsW T569 (mkF m 130 (lw7 q1 q2 p1 q3 q4 q5 u11 u12 0 u14 u15 uo ue uf un em) []) (fun _ hr => XS.astore X569.here hx rfl (hb hby at_128) rfl rfl (l' := (lw7 q1 q2 p1 q3 q4 q5 u11 u12 0 u14 u15 uo ue uf un em)) rfl hr) ?_
      rcases h14 with rfl | rfl
      · refine gsW T569 (mkF m 132 (lw7 q1 q2 p1 q3 q4 q5 u11 u12 0 0 u15 uo ue uf un em) [(.int (0 : Int32))]) (fun _ hr => XS.iload X569.here hx rfl (hb hby at_130) rfl  hr) ?_
        refine gsW T569 (mkF m 145 (lw7 q1 q2 p1 q3 q4 q5 u11 u12 0 0 u15 uo ue uf un em) []) (fun _ hr => XS.ifYes X569.here hx rfl (pc0 := 132) (pc' := 145) rfl (hb hby at_132) rfl ((if0 _ _).trans (teq (by decide : (0 : Int32) = (0 : Int32))).1) (by decide) (by decide) hr) ?_
        have Zs570 : n0 ≤ hg.size := Nat.le_trans Z0 Kg.1
        obtain ⟨_, _, ⟨T571, L571, k571, n571⟩, -, X571, ⟨Lc571, hQ571, l571, y571, z571⟩, st571⟩ := LawKit.callS X569 hx (y := Y4) hown (mvT hZ (tw hw 1 rfl)) (mvT hZ (tw hw 2 rfl)) (mvT hZ (tw hw 3 rfl)) (mvT hZ (tw hw 4 rfl)) (by decide) (backOf (W := 0) (rm_olem l Z a0 hw [] em hg n0 Zs570 (Old.keep O0 Kg hws) S_OptionalLong_EMPTY_old) hZ (tw hw 4 rfl) (tw hw 3 rfl) (by decide) (by decide)) (g := (mkF m 145 (lw7 q1 q2 p1 q3 q4 q5 u11 u12 0 0 u15 uo ue uf un em) [])) rfl (by rw [hml]; rfl) (argsL := []) (rest := []) (lenOf pd_6 rfl) rfl (wle rfl) (hb hby at_145) (fun _ _ => ⟨rfl, e569, (by decide : 0 + 0 ≤ _), (by decide : 0 + 0 ≤ _)⟩)
        dsimp only [Pt.U, Pt.locs, Pt.cells, Pt.slots] at X571 l571 y571 z571 st571 hQ571
        subst l571 y571 z571
        obtain ⟨rfl, N571q, e571⟩ := hQ571
        have N571 := Fr.app N569 N571q
        refine gsW T571 (mkF m 148 (lw7 q1 q2 p1 q3 q4 q5 u11 u12 0 0 u15 uo ue uf un em) [(.ref em)]) st571 ?_
        refine gsW T571 (mkF m 150 (lw0 q1 q2 p1 q3 q4 q5 u11 u12 0 0 u15 uo ue uf un em em) []) (fun _ hr => XS.astore X571.here hx rfl (hb hby at_148) rfl rfl (l' := (lw0 q1 q2 p1 q3 q4 q5 u11 u12 0 0 u15 uo ue uf un em em)) rfl hr) ?_
        exact SEGb T571 hg _ uo ue uf un u11 u12 (0 : Int32) (0 : Int32) u15 em em (X571.more (by decide) (by decide)) e571 N571 Kg h11 h12 ho he hf hn (Or.inl ⟨rfl, rfl, rfl, rfl⟩)
      · refine gsW T569 (mkF m 132 (lw7 q1 q2 p1 q3 q4 q5 u11 u12 0 1 u15 uo ue uf un em) [(.int (1 : Int32))]) (fun _ hr => XS.iload X569.here hx rfl (hb hby at_130) rfl  hr) ?_
        refine gsW T569 (mkF m 135 (lw7 q1 q2 p1 q3 q4 q5 u11 u12 0 1 u15 uo ue uf un em) []) (fun _ hr => XS.ifNo X569.here hx rfl (hb hby at_132) rfl ((if0 _ _).trans (feq (by decide : ¬ ((1 : Int32) = (0 : Int32)))).1) hr) ?_
        refine gsW T569 (mkF m 137 (lw7 q1 q2 p1 q3 q4 q5 u11 u12 0 1 u15 uo ue uf un em) [(.long un)]) (fun _ hr => XT.lload X569.here hx rfl (hb hby at_135) rfl hr) ?_
        have Zs572 : n0 ≤ hg.size := Nat.le_trans Z0 Kg.1
        obtain ⟨_, _, ⟨T573, L573, k573, n573⟩, -, X573, ⟨Lc573, hQ573, l573, y573, z573⟩, st573⟩ := LawKit.callS X569 hx (y := Y3) hown (mvT hZ (tw hw 83 rfl)) (mvT hZ (tw hw 84 rfl)) (mvT hZ (tw hw 3 rfl)) (mvT hZ (tw hw 85 rfl)) (by decide) (backOf (W := 0) (rm_olof l Z a0 hw [] un hg n0 Zs572 (Old.keep O0 Kg hws)) hZ (tw hw 85 rfl) (tw hw 3 rfl) (by decide) (by decide)) (g := (mkF m 137 (lw7 q1 q2 p1 q3 q4 q5 u11 u12 0 1 u15 uo ue uf un em) [(.long un)])) rfl (by rw [hml]; rfl) (argsL := [(.long un)]) (rest := []) (lenOf pd_7 rfl) rfl (wle rfl) (hb hby at_137) (fun _ _ => ⟨rfl, e569, (by decide : 0 + 1 ≤ _), (by decide : 0 + 2 ≤ _)⟩)
        dsimp only [Pt.U, Pt.locs, Pt.cells, Pt.slots] at X573 l573 y573 z573 st573 hQ573
        subst l573 y573 z573
        obtain ⟨w573, rfl, N573q, Kc573, P573_0, P573_1, P573_2, P573_3⟩ := hQ573
        have N573 := Fr.app N569 N573q
        have K573 : Keep h0 T573.heap [] := Kg.trans Kc573 all0
        have E_w573_573c : Exa Z T573.heap w573 cOL := P573_1
        have F_w573_isPresent_573c : Fld Z T573.heap w573 cOL nIP "Z" (.int (1 : Int32)) := P573_2
        have F_w573_value_573c : Fld Z T573.heap w573 cOL "value" "J" (.long un) := P573_3
        refine gsW T573 (mkF m 140 (lw7 q1 q2 p1 q3 q4 q5 u11 u12 0 1 u15 uo ue uf un em) [(.ref w573)]) st573 ?_
        refine gsW T573 (mkF m 142 (lw0 q1 q2 p1 q3 q4 q5 u11 u12 0 1 u15 uo ue uf un em w573) []) (fun _ hr => XS.astore X573.here hx rfl (hb hby at_140) rfl rfl (l' := (lw0 q1 q2 p1 q3 q4 q5 u11 u12 0 1 u15 uo ue uf un em w573)) rfl hr) ?_
        refine gsW T573 (mkF m 150 (lw0 q1 q2 p1 q3 q4 q5 u11 u12 0 1 u15 uo ue uf un em w573) []) (fun _ hr => XS.goto X573.here hx rfl (pc0 := 142) (pc' := 150) rfl (hb hby at_142) (by decide) (by decide) hr) ?_
        exact SEGb T573 T573.heap _ uo ue uf un u11 u12 (0 : Int32) (1 : Int32) u15 em w573 (X573.more (by decide) (by decide)) rfl N573 K573 h11 h12 ho he hf hn (Or.inr (Or.inl ⟨rfl, rfl, rfl, E_w573_573c, F_w573_isPresent_573c, F_w573_value_573c⟩))
    · refine gsW Tg (mkF m 112 (lw6 q1 q2 p1 q3 q4 q5 u11 u12 1 u14 u15 uo ue uf un) [(.int (1 : Int32))]) (fun _ hr => XS.iload Xg.here hx rfl (hb hby at_110) rfl  hr) ?_
      refine gsW Tg (mkF m 115 (lw6 q1 q2 p1 q3 q4 q5 u11 u12 1 u14 u15 uo ue uf un) []) (fun _ hr => XS.ifNo Xg.here hx rfl (hb hby at_112) rfl ((if0 _ _).trans (feq (by decide : ¬ ((1 : Int32) = (0 : Int32)))).1) hr) ?_
      refine gsW Tg (mkF m 117 (lw6 q1 q2 p1 q3 q4 q5 u11 u12 1 u14 u15 uo ue uf un) [(.long uf)]) (fun _ hr => XT.lload Xg.here hx rfl (hb hby at_115) rfl hr) ?_
      have Zs574 : n0 ≤ hg.size := Nat.le_trans Z0 Kg.1
      obtain ⟨_, _, ⟨T575, L575, k575, n575⟩, -, X575, ⟨Lc575, hQ575, l575, y575, z575⟩, st575⟩ := LawKit.callS Xg hx (y := Y3) hown (mvT hZ (tw hw 83 rfl)) (mvT hZ (tw hw 84 rfl)) (mvT hZ (tw hw 3 rfl)) (mvT hZ (tw hw 85 rfl)) (by decide) (backOf (W := 0) (rm_olof l Z a0 hw [] uf hg n0 Zs574 (Old.keep O0 Kg hws)) hZ (tw hw 85 rfl) (tw hw 3 rfl) (by decide) (by decide)) (g := (mkF m 117 (lw6 q1 q2 p1 q3 q4 q5 u11 u12 1 u14 u15 uo ue uf un) [(.long uf)])) rfl (by rw [hml]; rfl) (argsL := [(.long uf)]) (rest := []) (lenOf pd_7 rfl) rfl (wle rfl) (hb hby at_117) (fun _ _ => ⟨rfl, eg, (by decide : 0 + 1 ≤ _), (by decide : 0 + 2 ≤ _)⟩)
      dsimp only [Pt.U, Pt.locs, Pt.cells, Pt.slots] at X575 l575 y575 z575 st575 hQ575
      subst l575 y575 z575
      obtain ⟨w575, rfl, N575q, Kc575, P575_0, P575_1, P575_2, P575_3⟩ := hQ575
      have N575 := Fr.app Ng N575q
      have K575 : Keep h0 T575.heap [] := Kg.trans Kc575 all0
      have E_w575_575c : Exa Z T575.heap w575 cOL := P575_1
      have F_w575_isPresent_575c : Fld Z T575.heap w575 cOL nIP "Z" (.int (1 : Int32)) := P575_2
      have F_w575_value_575c : Fld Z T575.heap w575 cOL "value" "J" (.long uf) := P575_3
      refine gsW T575 (mkF m 120 (lw6 q1 q2 p1 q3 q4 q5 u11 u12 1 u14 u15 uo ue uf un) [(.ref w575)]) st575 ?_
      refine gsW T575 (mkF m 122 (lw7 q1 q2 p1 q3 q4 q5 u11 u12 1 u14 u15 uo ue uf un w575) []) (fun _ hr => XS.astore X575.here hx rfl (hb hby at_120) rfl rfl (l' := (lw7 q1 q2 p1 q3 q4 q5 u11 u12 1 u14 u15 uo ue uf un w575)) rfl hr) ?_
      refine gsW T575 (mkF m 130 (lw7 q1 q2 p1 q3 q4 q5 u11 u12 1 u14 u15 uo ue uf un w575) []) (fun _ hr => XS.goto X575.here hx rfl (pc0 := 122) (pc' := 130) rfl (hb hby at_122) (by decide) (by decide) hr) ?_
      rcases h14 with rfl | rfl
      · refine gsW T575 (mkF m 132 (lw7 q1 q2 p1 q3 q4 q5 u11 u12 1 0 u15 uo ue uf un w575) [(.int (0 : Int32))]) (fun _ hr => XS.iload X575.here hx rfl (hb hby at_130) rfl  hr) ?_
        refine gsW T575 (mkF m 145 (lw7 q1 q2 p1 q3 q4 q5 u11 u12 1 0 u15 uo ue uf un w575) []) (fun _ hr => XS.ifYes X575.here hx rfl (pc0 := 132) (pc' := 145) rfl (hb hby at_132) rfl ((if0 _ _).trans (teq (by decide : (0 : Int32) = (0 : Int32))).1) (by decide) (by decide) hr) ?_
        have Zs576 : n0 ≤ T575.heap.size := Nat.le_trans Z0 K575.1
        obtain ⟨_, _, ⟨T577, L577, k577, n577⟩, -, X577, ⟨Lc577, hQ577, l577, y577, z577⟩, st577⟩ := LawKit.callS X575 hx (y := Y4) hown (mvT hZ (tw hw 1 rfl)) (mvT hZ (tw hw 2 rfl)) (mvT hZ (tw hw 3 rfl)) (mvT hZ (tw hw 4 rfl)) (by decide) (backOf (W := 0) (rm_olem l Z a0 hw [] em T575.heap n0 Zs576 (Old.keep O0 K575 hws) S_OptionalLong_EMPTY_old) hZ (tw hw 4 rfl) (tw hw 3 rfl) (by decide) (by decide)) (g := (mkF m 145 (lw7 q1 q2 p1 q3 q4 q5 u11 u12 1 0 u15 uo ue uf un w575) [])) rfl (by rw [hml]; rfl) (argsL := []) (rest := []) (lenOf pd_6 rfl) rfl (wle rfl) (hb hby at_145) (fun _ _ => ⟨rfl, rfl, (by decide : 1 + 0 ≤ _), (by decide : 2 + 0 ≤ _)⟩)
        dsimp only [Pt.U, Pt.locs, Pt.cells, Pt.slots] at X577 l577 y577 z577 st577 hQ577
        subst l577 y577 z577
        obtain ⟨rfl, N577q, e577⟩ := hQ577
        have N577 := Fr.app N575 N577q
        refine gsW T577 (mkF m 148 (lw7 q1 q2 p1 q3 q4 q5 u11 u12 1 0 u15 uo ue uf un w575) [(.ref em)]) st577 ?_
        refine gsW T577 (mkF m 150 (lw0 q1 q2 p1 q3 q4 q5 u11 u12 1 0 u15 uo ue uf un w575 em) []) (fun _ hr => XS.astore X577.here hx rfl (hb hby at_148) rfl rfl (l' := (lw0 q1 q2 p1 q3 q4 q5 u11 u12 1 0 u15 uo ue uf un w575 em)) rfl hr) ?_
        exact SEGb T577 T575.heap _ uo ue uf un u11 u12 (1 : Int32) (0 : Int32) u15 w575 em (X577.more (by decide) (by decide)) e577 N577 K575 h11 h12 ho he hf hn (Or.inr (Or.inr (Or.inl ⟨rfl, rfl, rfl⟩)))
      · refine gsW T575 (mkF m 132 (lw7 q1 q2 p1 q3 q4 q5 u11 u12 1 1 u15 uo ue uf un w575) [(.int (1 : Int32))]) (fun _ hr => XS.iload X575.here hx rfl (hb hby at_130) rfl  hr) ?_
        refine gsW T575 (mkF m 135 (lw7 q1 q2 p1 q3 q4 q5 u11 u12 1 1 u15 uo ue uf un w575) []) (fun _ hr => XS.ifNo X575.here hx rfl (hb hby at_132) rfl ((if0 _ _).trans (feq (by decide : ¬ ((1 : Int32) = (0 : Int32)))).1) hr) ?_
        refine gsW T575 (mkF m 137 (lw7 q1 q2 p1 q3 q4 q5 u11 u12 1 1 u15 uo ue uf un w575) [(.long un)]) (fun _ hr => XT.lload X575.here hx rfl (hb hby at_135) rfl hr) ?_
        have Zs578 : n0 ≤ T575.heap.size := Nat.le_trans Z0 K575.1
        obtain ⟨_, _, ⟨T579, L579, k579, n579⟩, -, X579, ⟨Lc579, hQ579, l579, y579, z579⟩, st579⟩ := LawKit.callS X575 hx (y := Y3) hown (mvT hZ (tw hw 83 rfl)) (mvT hZ (tw hw 84 rfl)) (mvT hZ (tw hw 3 rfl)) (mvT hZ (tw hw 85 rfl)) (by decide) (backOf (W := 0) (rm_olof l Z a0 hw [] un T575.heap n0 Zs578 (Old.keep O0 K575 hws)) hZ (tw hw 85 rfl) (tw hw 3 rfl) (by decide) (by decide)) (g := (mkF m 137 (lw7 q1 q2 p1 q3 q4 q5 u11 u12 1 1 u15 uo ue uf un w575) [(.long un)])) rfl (by rw [hml]; rfl) (argsL := [(.long un)]) (rest := []) (lenOf pd_7 rfl) rfl (wle rfl) (hb hby at_137) (fun _ _ => ⟨rfl, rfl, (by decide : 1 + 1 ≤ _), (by decide : 2 + 2 ≤ _)⟩)
        dsimp only [Pt.U, Pt.locs, Pt.cells, Pt.slots] at X579 l579 y579 z579 st579 hQ579
        subst l579 y579 z579
        obtain ⟨w579, rfl, N579q, Kc579, P579_0, P579_1, P579_2, P579_3⟩ := hQ579
        have N579 := Fr.app N575 N579q
        have E_w575_579 : Exa Z T579.heap w575 cOL := E_w575_575c.keep Kc579
        have F_w575_isPresent_579 : Fld Z T579.heap w575 cOL nIP "Z" (.int (1 : Int32)) := F_w575_isPresent_575c.keep Kc579 nin0
        have F_w575_value_579 : Fld Z T579.heap w575 cOL "value" "J" (.long uf) := F_w575_value_575c.keep Kc579 nin0
        have K579 : Keep h0 T579.heap [] := K575.trans Kc579 all0
        have E_w579_579c : Exa Z T579.heap w579 cOL := P579_1
        have F_w579_isPresent_579c : Fld Z T579.heap w579 cOL nIP "Z" (.int (1 : Int32)) := P579_2
        have F_w579_value_579c : Fld Z T579.heap w579 cOL "value" "J" (.long un) := P579_3
        refine gsW T579 (mkF m 140 (lw7 q1 q2 p1 q3 q4 q5 u11 u12 1 1 u15 uo ue uf un w575) [(.ref w579)]) st579 ?_
        refine gsW T579 (mkF m 142 (lw0 q1 q2 p1 q3 q4 q5 u11 u12 1 1 u15 uo ue uf un w575 w579) []) (fun _ hr => XS.astore X579.here hx rfl (hb hby at_140) rfl rfl (l' := (lw0 q1 q2 p1 q3 q4 q5 u11 u12 1 1 u15 uo ue uf un w575 w579)) rfl hr) ?_
        refine gsW T579 (mkF m 150 (lw0 q1 q2 p1 q3 q4 q5 u11 u12 1 1 u15 uo ue uf un w575 w579) []) (fun _ hr => XS.goto X579.here hx rfl (pc0 := 142) (pc' := 150) rfl (hb hby at_142) (by decide) (by decide) hr) ?_
        exact SEGb T579 T579.heap _ uo ue uf un u11 u12 (1 : Int32) (1 : Int32) u15 w575 w579 (X579.more (by decide) (by decide)) rfl N579 K579 h11 h12 ho he hf hn (Or.inr (Or.inr (Or.inr ⟨rfl, rfl, E_w575_579, F_w575_isPresent_579, F_w575_value_579, E_w579_579c, F_w579_isPresent_579c, F_w579_value_579c⟩)))
  have SEG98 : ∀ (Tg : State) (hg : Heap) (Lg : List Loc) (u11 : Int32) (u12 : Int32) (u13 : Int32) (u14 : Int32) (u15 : Int32) (uo : Int64) (ue : Int64), Stand p l e room_1 s m #[(.long q1), (.long q2), (.int p1), (.long q3), (.long q4), (.long q5)] below meth c Tg Lg 0 0 → Tg.heap = hg → Fr n0 Lg → Keep h0 hg [] → u11 = (0 : Int32) ∨ u11 = (1 : Int32) → u12 = (0 : Int32) ∨ u12 = (1 : Int32) → u13 = (0 : Int32) ∨ u13 = (1 : Int32) → u14 = (0 : Int32) ∨ u14 = (1 : Int32) → u15 = (0 : Int32) ∨ u15 = (1 : Int32) → 0 ≤ uo.toInt → 0 ≤ ue.toInt → GoesW p l e room_1 s m #[(.long q1), (.long q2), (.int p1), (.long q3), (.long q4), (.long q5)] below meth c (Q_rm_law Z q1 q2 p1 q3 q4 q5 em eo h0 n0) Tg (mkF m 98 (lw8 q1 q2 p1 q3 q4 q5 u11 u12 u13 u14 u15 uo ue) []) := by
    intro Tg hg Lg u11 u12 u13 u14 u15 uo ue Xg eg Ng Kg h11 h12 h13 h14 h15 ho he
    refine gsW Tg (mkF m 100 (lw8 q1 q2 p1 q3 q4 q5 u11 u12 u13 u14 u15 uo ue) [(.long q3)]) (fun _ hr => XT.lload Xg.here hx rfl (hb hby at_98) rfl hr) ?_
    refine gsW Tg (mkF m 101 (lw8 q1 q2 p1 q3 q4 q5 u11 u12 u13 u14 u15 uo ue) [(.int (1 : Int32)), (.long q3)]) (fun _ hr => XS.iconst Xg.here hx rfl (hb hby at_100) hr) ?_
    refine gsW Tg (mkF m 102 (lw8 q1 q2 p1 q3 q4 q5 u11 u12 u13 u14 u15 uo ue) [(.long (q3 >>> ((1 : Int32).toInt64 &&& 63)))]) (fun _ hr => XT.lshr Xg.here hx rfl (hb hby at_101) rfl hr) ?_
    refine gsW Tg (mkF m 104 (lw9 q1 q2 p1 q3 q4 q5 u11 u12 u13 u14 u15 uo ue (q3 >>> ((1 : Int32).toInt64 &&& 63))) []) (fun _ hr => XT.lstore Xg.here hx rfl (hb hby at_102) rfl (l' := (lw9 q1 q2 p1 q3 q4 q5 u11 u12 u13 u14 u15 uo ue (q3 >>> ((1 : Int32).toInt64 &&& 63)))) rfl hr) ?_
    refine gsW Tg (mkF m 106 (lw9 q1 q2 p1 q3 q4 q5 u11 u12 u13 u14 u15 uo ue (q3 >>> ((1 : Int32).toInt64 &&& 63))) [(.long q4)]) (fun _ hr => XT.lload Xg.here hx rfl (hb hby at_104) rfl hr) ?_
    refine gsW Tg (mkF m 107 (lw9 q1 q2 p1 q3 q4 q5 u11 u12 u13 u14 u15 uo ue (q3 >>> ((1 : Int32).toInt64 &&& 63))) [(.int (1 : Int32)), (.long q4)]) (fun _ hr => XS.iconst Xg.here hx rfl (hb hby at_106) hr) ?_
    refine gsW Tg (mkF m 108 (lw9 q1 q2 p1 q3 q4 q5 u11 u12 u13 u14 u15 uo ue (q3 >>> ((1 : Int32).toInt64 &&& 63))) [(.long (q4 >>> ((1 : Int32).toInt64 &&& 63)))]) (fun _ hr => XT.lshr Xg.here hx rfl (hb hby at_107) rfl hr) ?_
    refine gsW Tg (mkF m 110 (lw6 q1 q2 p1 q3 q4 q5 u11 u12 u13 u14 u15 uo ue (q3 >>> ((1 : Int32).toInt64 &&& 63)) (q4 >>> ((1 : Int32).toInt64 &&& 63))) []) (fun _ hr => XT.lstore Xg.here hx rfl (hb hby at_108) rfl (l' := (lw6 q1 q2 p1 q3 q4 q5 u11 u12 u13 u14 u15 uo ue (q3 >>> ((1 : Int32).toInt64 &&& 63)) (q4 >>> ((1 : Int32).toInt64 &&& 63)))) rfl hr) ?_
    exact SEGa Tg hg _ u11 u12 u13 u14 u15 uo ue (q3 >>> ((1 : Int32).toInt64 &&& 63)) (q4 >>> ((1 : Int32).toInt64 &&& 63)) (Xg.more (by decide) (by decide)) eg Ng Kg h11 h12 h13 h14 h15 ho he (own_half q3) (own_half q4)
  have SEG72 : ∀ (Tg : State) (hg : Heap) (Lg : List Loc) (u11 : Int32) (u12 : Int32) (u13 : Int32) (u14 : Int32) (u15 : Int32), Stand p l e room_1 s m #[(.long q1), (.long q2), (.int p1), (.long q3), (.long q4), (.long q5)] below meth c Tg Lg 0 0 → Tg.heap = hg → Fr n0 Lg → Keep h0 hg [] → u11 = (0 : Int32) ∨ u11 = (1 : Int32) → u12 = (0 : Int32) ∨ u12 = (1 : Int32) → u13 = (0 : Int32) ∨ u13 = (1 : Int32) → u14 = (0 : Int32) ∨ u14 = (1 : Int32) → u15 = (0 : Int32) ∨ u15 = (1 : Int32) → GoesW p l e room_1 s m #[(.long q1), (.long q2), (.int p1), (.long q3), (.long q4), (.long q5)] below meth c (Q_rm_law Z q1 q2 p1 q3 q4 q5 em eo h0 n0) Tg (mkF m 72 (lw10 q1 q2 p1 q3 q4 q5 u11 u12 u13 u14 u15) []) := by
    intro Tg hg Lg u11 u12 u13 u14 u15 Xg eg Ng Kg h11 h12 h13 h14 h15
    rcases h15 with rfl | rfl
    · refine gsW Tg (mkF m 73 (lw10 q1 q2 p1 q3 q4 q5 u11 u12 u13 u14 0) [(.long q1)]) (fun _ hr => XT.lloadN Xg.here hx rfl (hb hby at_72) rfl hr) ?_
      refine gsW Tg (mkF m 76 (lw10 q1 q2 p1 q3 q4 q5 u11 u12 u13 u14 0) [(.long cMX), (.long q1)]) (Xg.ldc2Long hx hown (mvT hZ (tw hw 0 rfl)) (g := (mkF m 73 (lw10 q1 q2 p1 q3 q4 q5 u11 u12 u13 u14 0) [(.long q1)])) rfl (hb hby at_73)) ?_
      refine gsW Tg (mkF m 77 (lw10 q1 q2 p1 q3 q4 q5 u11 u12 u13 u14 0) [(.long (q1 &&& cMX))]) (fun _ hr => XT.land Xg.here hx rfl (hb hby at_76) rfl hr) ?_
      refine gsW Tg (mkF m 79 (lw11 q1 q2 p1 q3 q4 q5 u11 u12 u13 u14 0 (q1 &&& cMX)) []) (fun _ hr => XT.lstore Xg.here hx rfl (hb hby at_77) rfl (l' := (lw11 q1 q2 p1 q3 q4 q5 u11 u12 u13 u14 0 (q1 &&& cMX))) rfl hr) ?_
      refine gsW Tg (mkF m 81 (lw11 q1 q2 p1 q3 q4 q5 u11 u12 u13 u14 0 (q1 &&& cMX)) [(.int (0 : Int32))]) (fun _ hr => XS.iload Xg.here hx rfl (hb hby at_79) rfl  hr) ?_
      refine gsW Tg (mkF m 91 (lw11 q1 q2 p1 q3 q4 q5 u11 u12 u13 u14 0 (q1 &&& cMX)) []) (fun _ hr => XS.ifYes Xg.here hx rfl (pc0 := 81) (pc' := 91) rfl (hb hby at_81) rfl ((if0 _ _).trans (teq (by decide : (0 : Int32) = (0 : Int32))).1) (by decide) (by decide) hr) ?_
      refine gsW Tg (mkF m 92 (lw11 q1 q2 p1 q3 q4 q5 u11 u12 u13 u14 0 (q1 &&& cMX)) [(.long q2)]) (fun _ hr => XT.lloadN Xg.here hx rfl (hb hby at_91) rfl hr) ?_
      refine gsW Tg (mkF m 95 (lw11 q1 q2 p1 q3 q4 q5 u11 u12 u13 u14 0 (q1 &&& cMX)) [(.long cMX), (.long q2)]) (Xg.ldc2Long hx hown (mvT hZ (tw hw 0 rfl)) (g := (mkF m 92 (lw11 q1 q2 p1 q3 q4 q5 u11 u12 u13 u14 0 (q1 &&& cMX)) [(.long q2)])) rfl (hb hby at_92)) ?_
      refine gsW Tg (mkF m 96 (lw11 q1 q2 p1 q3 q4 q5 u11 u12 u13 u14 0 (q1 &&& cMX)) [(.long (q2 &&& cMX))]) (fun _ hr => XT.land Xg.here hx rfl (hb hby at_95) rfl hr) ?_
      refine gsW Tg (mkF m 98 (lw8 q1 q2 p1 q3 q4 q5 u11 u12 u13 u14 0 (q1 &&& cMX) (q2 &&& cMX)) []) (fun _ hr => XT.lstore Xg.here hx rfl (hb hby at_96) rfl (l' := (lw8 q1 q2 p1 q3 q4 q5 u11 u12 u13 u14 0 (q1 &&& cMX) (q2 &&& cMX))) rfl hr) ?_
      exact SEG98 Tg hg _ u11 u12 u13 u14 (0 : Int32) (q1 &&& cMX) (q2 &&& cMX) (Xg.more (by decide) (by decide)) eg Ng Kg h11 h12 h13 h14 (Or.inl rfl) (own_pos q1) (own_pos q2)
    · refine gsW Tg (mkF m 73 (lw10 q1 q2 p1 q3 q4 q5 u11 u12 u13 u14 1) [(.long q1)]) (fun _ hr => XT.lloadN Xg.here hx rfl (hb hby at_72) rfl hr) ?_
      refine gsW Tg (mkF m 76 (lw10 q1 q2 p1 q3 q4 q5 u11 u12 u13 u14 1) [(.long cMX), (.long q1)]) (Xg.ldc2Long hx hown (mvT hZ (tw hw 0 rfl)) (g := (mkF m 73 (lw10 q1 q2 p1 q3 q4 q5 u11 u12 u13 u14 1) [(.long q1)])) rfl (hb hby at_73)) ?_
      refine gsW Tg (mkF m 77 (lw10 q1 q2 p1 q3 q4 q5 u11 u12 u13 u14 1) [(.long (q1 &&& cMX))]) (fun _ hr => XT.land Xg.here hx rfl (hb hby at_76) rfl hr) ?_
      refine gsW Tg (mkF m 79 (lw11 q1 q2 p1 q3 q4 q5 u11 u12 u13 u14 1 (q1 &&& cMX)) []) (fun _ hr => XT.lstore Xg.here hx rfl (hb hby at_77) rfl (l' := (lw11 q1 q2 p1 q3 q4 q5 u11 u12 u13 u14 1 (q1 &&& cMX))) rfl hr) ?_
      refine gsW Tg (mkF m 81 (lw11 q1 q2 p1 q3 q4 q5 u11 u12 u13 u14 1 (q1 &&& cMX)) [(.int (1 : Int32))]) (fun _ hr => XS.iload Xg.here hx rfl (hb hby at_79) rfl  hr) ?_
      refine gsW Tg (mkF m 84 (lw11 q1 q2 p1 q3 q4 q5 u11 u12 u13 u14 1 (q1 &&& cMX)) []) (fun _ hr => XS.ifNo Xg.here hx rfl (hb hby at_81) rfl ((if0 _ _).trans (feq (by decide : ¬ ((1 : Int32) = (0 : Int32)))).1) hr) ?_
      refine gsW Tg (mkF m 86 (lw11 q1 q2 p1 q3 q4 q5 u11 u12 u13 u14 1 (q1 &&& cMX)) [(.long (q1 &&& cMX))]) (fun _ hr => XT.lload Xg.here hx rfl (hb hby at_84) rfl hr) ?_
      refine gsW Tg (mkF m 88 (lw8 q1 q2 p1 q3 q4 q5 u11 u12 u13 u14 1 (q1 &&& cMX) (q1 &&& cMX)) []) (fun _ hr => XT.lstore Xg.here hx rfl (hb hby at_86) rfl (l' := (lw8 q1 q2 p1 q3 q4 q5 u11 u12 u13 u14 1 (q1 &&& cMX) (q1 &&& cMX))) rfl hr) ?_
      refine gsW Tg (mkF m 98 (lw8 q1 q2 p1 q3 q4 q5 u11 u12 u13 u14 1 (q1 &&& cMX) (q1 &&& cMX)) []) (fun _ hr => XS.goto Xg.here hx rfl (pc0 := 88) (pc' := 98) rfl (hb hby at_88) (by decide) (by decide) hr) ?_
      exact SEG98 Tg hg _ u11 u12 u13 u14 (1 : Int32) (q1 &&& cMX) (q1 &&& cMX) (Xg.more (by decide) (by decide)) eg Ng Kg h11 h12 h13 h14 (Or.inr rfl) (own_pos q1) (own_pos q1)
  have SEG57 : ∀ (Tg : State) (hg : Heap) (Lg : List Loc) (u11 : Int32) (u12 : Int32) (u13 : Int32) (u14 : Int32), Stand p l e room_1 s m #[(.long q1), (.long q2), (.int p1), (.long q3), (.long q4), (.long q5)] below meth c Tg Lg 0 0 → Tg.heap = hg → Fr n0 Lg → Keep h0 hg [] → u11 = (0 : Int32) ∨ u11 = (1 : Int32) → u12 = (0 : Int32) ∨ u12 = (1 : Int32) → u13 = (0 : Int32) ∨ u13 = (1 : Int32) → u14 = (0 : Int32) ∨ u14 = (1 : Int32) → GoesW p l e room_1 s m #[(.long q1), (.long q2), (.int p1), (.long q3), (.long q4), (.long q5)] below meth c (Q_rm_law Z q1 q2 p1 q3 q4 q5 em eo h0 n0) Tg (mkF m 57 (lw12 q1 q2 p1 q3 q4 q5 u11 u12 u13 u14) []) := by
    intro Tg hg Lg u11 u12 u13 u14 Xg eg Ng Kg h11 h12 h13 h14
    refine gsW Tg (mkF m 59 (lw12 q1 q2 p1 q3 q4 q5 u11 u12 u13 u14) [(.int p1)]) (fun _ hr => XS.iload Xg.here hx rfl (hb hby at_57) rfl  hr) ?_
    refine gsW Tg (mkF m 61 (lw12 q1 q2 p1 q3 q4 q5 u11 u12 u13 u14) [(.int (16 : Int32)), (.int p1)]) (fun _ hr => XS.bipush Xg.here hx rfl (hb hby at_59) hr) ?_
    refine gsW Tg (mkF m 62 (lw12 q1 q2 p1 q3 q4 q5 u11 u12 u13 u14) [(.int (p1 &&& (16 : Int32)))]) (fun _ hr => XS.iand Xg.here hx rfl (hb hby at_61) rfl hr) ?_
    by_cases hc62_580 : (p1 &&& (16 : Int32)) = (0 : Int32)
    · refine gsW Tg (mkF m 69 (lw12 q1 q2 p1 q3 q4 q5 u11 u12 u13 u14) []) (fun _ hr => XS.ifYes Xg.here hx rfl (pc0 := 62) (pc' := 69) rfl (hb hby at_62) rfl ((if0 _ _).trans (teq hc62_580).1) (by decide) (by decide) hr) ?_
      refine gsW Tg (mkF m 70 (lw12 q1 q2 p1 q3 q4 q5 u11 u12 u13 u14) [(.int (0 : Int32))]) (fun _ hr => XS.iconst Xg.here hx rfl (hb hby at_69) hr) ?_
      refine gsW Tg (mkF m 72 (lw10 q1 q2 p1 q3 q4 q5 u11 u12 u13 u14 0) []) (fun _ hr => XS.istore Xg.here hx rfl (hb hby at_70) rfl (l' := (lw10 q1 q2 p1 q3 q4 q5 u11 u12 u13 u14 0)) rfl hr) ?_
      exact SEG72 Tg hg _ u11 u12 u13 u14 (0 : Int32) (Xg.more (by decide) (by decide)) eg Ng Kg h11 h12 h13 h14 (Or.inl rfl)
    · refine gsW Tg (mkF m 65 (lw12 q1 q2 p1 q3 q4 q5 u11 u12 u13 u14) []) (fun _ hr => XS.ifNo Xg.here hx rfl (hb hby at_62) rfl ((if0 _ _).trans (feq hc62_580).1) hr) ?_
      refine gsW Tg (mkF m 66 (lw12 q1 q2 p1 q3 q4 q5 u11 u12 u13 u14) [(.int (1 : Int32))]) (fun _ hr => XS.iconst Xg.here hx rfl (hb hby at_65) hr) ?_
      refine gsW Tg (mkF m 70 (lw12 q1 q2 p1 q3 q4 q5 u11 u12 u13 u14) [(.int (1 : Int32))]) (fun _ hr => XS.goto Xg.here hx rfl (pc0 := 66) (pc' := 70) rfl (hb hby at_66) (by decide) (by decide) hr) ?_
      refine gsW Tg (mkF m 72 (lw10 q1 q2 p1 q3 q4 q5 u11 u12 u13 u14 1) []) (fun _ hr => XS.istore Xg.here hx rfl (hb hby at_70) rfl (l' := (lw10 q1 q2 p1 q3 q4 q5 u11 u12 u13 u14 1)) rfl hr) ?_
      exact SEG72 Tg hg _ u11 u12 u13 u14 (1 : Int32) (Xg.more (by decide) (by decide)) eg Ng Kg h11 h12 h13 h14 (Or.inr rfl)
  have SEG42 : ∀ (Tg : State) (hg : Heap) (Lg : List Loc) (u11 : Int32) (u12 : Int32) (u13 : Int32), Stand p l e room_1 s m #[(.long q1), (.long q2), (.int p1), (.long q3), (.long q4), (.long q5)] below meth c Tg Lg 0 0 → Tg.heap = hg → Fr n0 Lg → Keep h0 hg [] → u11 = (0 : Int32) ∨ u11 = (1 : Int32) → u12 = (0 : Int32) ∨ u12 = (1 : Int32) → u13 = (0 : Int32) ∨ u13 = (1 : Int32) → GoesW p l e room_1 s m #[(.long q1), (.long q2), (.int p1), (.long q3), (.long q4), (.long q5)] below meth c (Q_rm_law Z q1 q2 p1 q3 q4 q5 em eo h0 n0) Tg (mkF m 42 (lw13 q1 q2 p1 q3 q4 q5 u11 u12 u13) []) := by
    intro Tg hg Lg u11 u12 u13 Xg eg Ng Kg h11 h12 h13
    refine gsW Tg (mkF m 44 (lw13 q1 q2 p1 q3 q4 q5 u11 u12 u13) [(.int p1)]) (fun _ hr => XS.iload Xg.here hx rfl (hb hby at_42) rfl  hr) ?_
    refine gsW Tg (mkF m 46 (lw13 q1 q2 p1 q3 q4 q5 u11 u12 u13) [(.int (8 : Int32)), (.int p1)]) (fun _ hr => XS.bipush Xg.here hx rfl (hb hby at_44) hr) ?_
    refine gsW Tg (mkF m 47 (lw13 q1 q2 p1 q3 q4 q5 u11 u12 u13) [(.int (p1 &&& (8 : Int32)))]) (fun _ hr => XS.iand Xg.here hx rfl (hb hby at_46) rfl hr) ?_
    by_cases hc47_581 : (p1 &&& (8 : Int32)) = (0 : Int32)
    · refine gsW Tg (mkF m 54 (lw13 q1 q2 p1 q3 q4 q5 u11 u12 u13) []) (fun _ hr => XS.ifYes Xg.here hx rfl (pc0 := 47) (pc' := 54) rfl (hb hby at_47) rfl ((if0 _ _).trans (teq hc47_581).1) (by decide) (by decide) hr) ?_
      refine gsW Tg (mkF m 55 (lw13 q1 q2 p1 q3 q4 q5 u11 u12 u13) [(.int (0 : Int32))]) (fun _ hr => XS.iconst Xg.here hx rfl (hb hby at_54) hr) ?_
      refine gsW Tg (mkF m 57 (lw12 q1 q2 p1 q3 q4 q5 u11 u12 u13 0) []) (fun _ hr => XS.istore Xg.here hx rfl (hb hby at_55) rfl (l' := (lw12 q1 q2 p1 q3 q4 q5 u11 u12 u13 0)) rfl hr) ?_
      exact SEG57 Tg hg _ u11 u12 u13 (0 : Int32) (Xg.more (by decide) (by decide)) eg Ng Kg h11 h12 h13 (Or.inl rfl)
    · refine gsW Tg (mkF m 50 (lw13 q1 q2 p1 q3 q4 q5 u11 u12 u13) []) (fun _ hr => XS.ifNo Xg.here hx rfl (hb hby at_47) rfl ((if0 _ _).trans (feq hc47_581).1) hr) ?_
      refine gsW Tg (mkF m 51 (lw13 q1 q2 p1 q3 q4 q5 u11 u12 u13) [(.int (1 : Int32))]) (fun _ hr => XS.iconst Xg.here hx rfl (hb hby at_50) hr) ?_
      refine gsW Tg (mkF m 55 (lw13 q1 q2 p1 q3 q4 q5 u11 u12 u13) [(.int (1 : Int32))]) (fun _ hr => XS.goto Xg.here hx rfl (pc0 := 51) (pc' := 55) rfl (hb hby at_51) (by decide) (by decide) hr) ?_
      refine gsW Tg (mkF m 57 (lw12 q1 q2 p1 q3 q4 q5 u11 u12 u13 1) []) (fun _ hr => XS.istore Xg.here hx rfl (hb hby at_55) rfl (l' := (lw12 q1 q2 p1 q3 q4 q5 u11 u12 u13 1)) rfl hr) ?_
      exact SEG57 Tg hg _ u11 u12 u13 (1 : Int32) (Xg.more (by decide) (by decide)) eg Ng Kg h11 h12 h13 (Or.inr rfl)
  have SEG28 : ∀ (Tg : State) (hg : Heap) (Lg : List Loc) (u11 : Int32) (u12 : Int32), Stand p l e room_1 s m #[(.long q1), (.long q2), (.int p1), (.long q3), (.long q4), (.long q5)] below meth c Tg Lg 0 0 → Tg.heap = hg → Fr n0 Lg → Keep h0 hg [] → u11 = (0 : Int32) ∨ u11 = (1 : Int32) → u12 = (0 : Int32) ∨ u12 = (1 : Int32) → GoesW p l e room_1 s m #[(.long q1), (.long q2), (.int p1), (.long q3), (.long q4), (.long q5)] below meth c (Q_rm_law Z q1 q2 p1 q3 q4 q5 em eo h0 n0) Tg (mkF m 28 (lw14 q1 q2 p1 q3 q4 q5 u11 u12) []) := by
    intro Tg hg Lg u11 u12 Xg eg Ng Kg h11 h12
    refine gsW Tg (mkF m 30 (lw14 q1 q2 p1 q3 q4 q5 u11 u12) [(.int p1)]) (fun _ hr => XS.iload Xg.here hx rfl (hb hby at_28) rfl  hr) ?_
    refine gsW Tg (mkF m 31 (lw14 q1 q2 p1 q3 q4 q5 u11 u12) [(.int (4 : Int32)), (.int p1)]) (fun _ hr => XS.iconst Xg.here hx rfl (hb hby at_30) hr) ?_
    refine gsW Tg (mkF m 32 (lw14 q1 q2 p1 q3 q4 q5 u11 u12) [(.int (p1 &&& (4 : Int32)))]) (fun _ hr => XS.iand Xg.here hx rfl (hb hby at_31) rfl hr) ?_
    by_cases hc32_582 : (p1 &&& (4 : Int32)) = (0 : Int32)
    · refine gsW Tg (mkF m 39 (lw14 q1 q2 p1 q3 q4 q5 u11 u12) []) (fun _ hr => XS.ifYes Xg.here hx rfl (pc0 := 32) (pc' := 39) rfl (hb hby at_32) rfl ((if0 _ _).trans (teq hc32_582).1) (by decide) (by decide) hr) ?_
      refine gsW Tg (mkF m 40 (lw14 q1 q2 p1 q3 q4 q5 u11 u12) [(.int (0 : Int32))]) (fun _ hr => XS.iconst Xg.here hx rfl (hb hby at_39) hr) ?_
      refine gsW Tg (mkF m 42 (lw13 q1 q2 p1 q3 q4 q5 u11 u12 0) []) (fun _ hr => XS.istore Xg.here hx rfl (hb hby at_40) rfl (l' := (lw13 q1 q2 p1 q3 q4 q5 u11 u12 0)) rfl hr) ?_
      exact SEG42 Tg hg _ u11 u12 (0 : Int32) (Xg.more (by decide) (by decide)) eg Ng Kg h11 h12 (Or.inl rfl)
    · refine gsW Tg (mkF m 35 (lw14 q1 q2 p1 q3 q4 q5 u11 u12) []) (fun _ hr => XS.ifNo Xg.here hx rfl (hb hby at_32) rfl ((if0 _ _).trans (feq hc32_582).1) hr) ?_
      refine gsW Tg (mkF m 36 (lw14 q1 q2 p1 q3 q4 q5 u11 u12) [(.int (1 : Int32))]) (fun _ hr => XS.iconst Xg.here hx rfl (hb hby at_35) hr) ?_
      refine gsW Tg (mkF m 40 (lw14 q1 q2 p1 q3 q4 q5 u11 u12) [(.int (1 : Int32))]) (fun _ hr => XS.goto Xg.here hx rfl (pc0 := 36) (pc' := 40) rfl (hb hby at_36) (by decide) (by decide) hr) ?_
      refine gsW Tg (mkF m 42 (lw13 q1 q2 p1 q3 q4 q5 u11 u12 1) []) (fun _ hr => XS.istore Xg.here hx rfl (hb hby at_40) rfl (l' := (lw13 q1 q2 p1 q3 q4 q5 u11 u12 1)) rfl hr) ?_
      exact SEG42 Tg hg _ u11 u12 (1 : Int32) (Xg.more (by decide) (by decide)) eg Ng Kg h11 h12 (Or.inr rfl)
  have SEG14 : ∀ (Tg : State) (hg : Heap) (Lg : List Loc) (u11 : Int32), Stand p l e room_1 s m #[(.long q1), (.long q2), (.int p1), (.long q3), (.long q4), (.long q5)] below meth c Tg Lg 0 0 → Tg.heap = hg → Fr n0 Lg → Keep h0 hg [] → u11 = (0 : Int32) ∨ u11 = (1 : Int32) → GoesW p l e room_1 s m #[(.long q1), (.long q2), (.int p1), (.long q3), (.long q4), (.long q5)] below meth c (Q_rm_law Z q1 q2 p1 q3 q4 q5 em eo h0 n0) Tg (mkF m 14 (lw15 q1 q2 p1 q3 q4 q5 u11) []) := by
    intro Tg hg Lg u11 Xg eg Ng Kg h11
    refine gsW Tg (mkF m 16 (lw15 q1 q2 p1 q3 q4 q5 u11) [(.int p1)]) (fun _ hr => XS.iload Xg.here hx rfl (hb hby at_14) rfl  hr) ?_
    refine gsW Tg (mkF m 17 (lw15 q1 q2 p1 q3 q4 q5 u11) [(.int (2 : Int32)), (.int p1)]) (fun _ hr => XS.iconst Xg.here hx rfl (hb hby at_16) hr) ?_
    refine gsW Tg (mkF m 18 (lw15 q1 q2 p1 q3 q4 q5 u11) [(.int (p1 &&& (2 : Int32)))]) (fun _ hr => XS.iand Xg.here hx rfl (hb hby at_17) rfl hr) ?_
    by_cases hc18_583 : (p1 &&& (2 : Int32)) = (0 : Int32)
    · refine gsW Tg (mkF m 25 (lw15 q1 q2 p1 q3 q4 q5 u11) []) (fun _ hr => XS.ifYes Xg.here hx rfl (pc0 := 18) (pc' := 25) rfl (hb hby at_18) rfl ((if0 _ _).trans (teq hc18_583).1) (by decide) (by decide) hr) ?_
      refine gsW Tg (mkF m 26 (lw15 q1 q2 p1 q3 q4 q5 u11) [(.int (0 : Int32))]) (fun _ hr => XS.iconst Xg.here hx rfl (hb hby at_25) hr) ?_
      refine gsW Tg (mkF m 28 (lw14 q1 q2 p1 q3 q4 q5 u11 0) []) (fun _ hr => XS.istore Xg.here hx rfl (hb hby at_26) rfl (l' := (lw14 q1 q2 p1 q3 q4 q5 u11 0)) rfl hr) ?_
      exact SEG28 Tg hg _ u11 (0 : Int32) (Xg.more (by decide) (by decide)) eg Ng Kg h11 (Or.inl rfl)
    · refine gsW Tg (mkF m 21 (lw15 q1 q2 p1 q3 q4 q5 u11) []) (fun _ hr => XS.ifNo Xg.here hx rfl (hb hby at_18) rfl ((if0 _ _).trans (feq hc18_583).1) hr) ?_
      refine gsW Tg (mkF m 22 (lw15 q1 q2 p1 q3 q4 q5 u11) [(.int (1 : Int32))]) (fun _ hr => XS.iconst Xg.here hx rfl (hb hby at_21) hr) ?_
      refine gsW Tg (mkF m 26 (lw15 q1 q2 p1 q3 q4 q5 u11) [(.int (1 : Int32))]) (fun _ hr => XS.goto Xg.here hx rfl (pc0 := 22) (pc' := 26) rfl (hb hby at_22) (by decide) (by decide) hr) ?_
      refine gsW Tg (mkF m 28 (lw14 q1 q2 p1 q3 q4 q5 u11 1) []) (fun _ hr => XS.istore Xg.here hx rfl (hb hby at_26) rfl (l' := (lw14 q1 q2 p1 q3 q4 q5 u11 1)) rfl hr) ?_
      exact SEG28 Tg hg _ u11 (1 : Int32) (Xg.more (by decide) (by decide)) eg Ng Kg h11 (Or.inr rfl)
  refine gsW s₁ (mkF m 2 (lw16 q1 q2 p1 q3 q4 q5) [(.int p1)]) (fun _ hr => XS.iload X0.here hx rfl (hb hby at_0) rfl  hr) ?_
  refine gsW s₁ (mkF m 3 (lw16 q1 q2 p1 q3 q4 q5) [(.int (1 : Int32)), (.int p1)]) (fun _ hr => XS.iconst X0.here hx rfl (hb hby at_2) hr) ?_
  refine gsW s₁ (mkF m 4 (lw16 q1 q2 p1 q3 q4 q5) [(.int (p1 &&& (1 : Int32)))]) (fun _ hr => XS.iand X0.here hx rfl (hb hby at_3) rfl hr) ?_
  by_cases hc4_584 : (p1 &&& (1 : Int32)) = (0 : Int32)
  · refine gsW s₁ (mkF m 11 (lw16 q1 q2 p1 q3 q4 q5) []) (fun _ hr => XS.ifYes X0.here hx rfl (pc0 := 4) (pc' := 11) rfl (hb hby at_4) rfl ((if0 _ _).trans (teq hc4_584).1) (by decide) (by decide) hr) ?_
    refine gsW s₁ (mkF m 12 (lw16 q1 q2 p1 q3 q4 q5) [(.int (0 : Int32))]) (fun _ hr => XS.iconst X0.here hx rfl (hb hby at_11) hr) ?_
    refine gsW s₁ (mkF m 14 (lw15 q1 q2 p1 q3 q4 q5 0) []) (fun _ hr => XS.istore X0.here hx rfl (hb hby at_12) rfl (l' := (lw15 q1 q2 p1 q3 q4 q5 0)) rfl hr) ?_
    exact SEG14 s₁ h0 _ (0 : Int32) (X0.more (by decide) (by decide)) e0 N0 K0 (Or.inl rfl)
  · refine gsW s₁ (mkF m 7 (lw16 q1 q2 p1 q3 q4 q5) []) (fun _ hr => XS.ifNo X0.here hx rfl (hb hby at_4) rfl ((if0 _ _).trans (feq hc4_584).1) hr) ?_
    refine gsW s₁ (mkF m 8 (lw16 q1 q2 p1 q3 q4 q5) [(.int (1 : Int32))]) (fun _ hr => XS.iconst X0.here hx rfl (hb hby at_7) hr) ?_
    refine gsW s₁ (mkF m 12 (lw16 q1 q2 p1 q3 q4 q5) [(.int (1 : Int32))]) (fun _ hr => XS.goto X0.here hx rfl (pc0 := 8) (pc' := 12) rfl (hb hby at_8) (by decide) (by decide) hr) ?_
    refine gsW s₁ (mkF m 14 (lw15 q1 q2 p1 q3 q4 q5 1) []) (fun _ hr => XS.istore X0.here hx rfl (hb hby at_12) rfl (l' := (lw15 q1 q2 p1 q3 q4 q5 1)) rfl hr) ?_
    exact SEG14 s₁ h0 _ (1 : Int32) (X0.more (by decide) (by decide)) e0 N0 K0 (Or.inr rfl)
set_option maxRecDepth 65536 in
set_option maxHeartbeats 40000000 in
theorem comes_1 {Post : Tables → Env → Array Value → State → Outcome → State → Prop} (hpost : ∀ tb e args s v u, (limb_1_1.after args s (.returned v) u = true ∧ limb_1_2.after args s (.returned v) u = true ∧ True) → FramedW s (.returned v) u (Jvm.fieldLocs frame_1_writes args s ++ Jvm.arrayLocs frame_1_arrays args s ++ Jvm.staticLocs frame_1_statics s) 40 3200 → Post tb e args s (.returned v) u) :
    ArmFor flags0 classFile x code maxLocals ret World_1 tables_1 room_1 Calls_1 rest_1 Pre_1 Post := by
  intro l hfl _ _ p e ha hc hk s m args below hf hA hF happ hP
  obtain ⟨hcalls, hrest, hpre⟩ := hP
  obtain ⟨-, -, -, hnamed, -, -, -, hat⟩ := (Spec.applies_iff hf).mp happ
  obtain ⟨hg, hn⟩ := and_e (Cond.before_iff.mp (show (Jvm.Cond.and given_1 narrow_1).before args s = true from hpre))
  obtain ⟨g1, g2⟩ := and_e hg
  obtain ⟨g3, g4⟩ := and_e g2
  obtain ⟨g5, g6⟩ := and_e g4
  obtain ⟨g7, g8⟩ := and_e g6
  obtain ⟨g9, g10⟩ := and_e g8
  obtain ⟨g11, g12⟩ := and_e g10
  obtain ⟨w0, w1, w2, w3, w4, w5, rfl⟩ : ∃ w0 w1 w2 w3 w4 w5 : Value, args = #[w0, w1, w2, w3, w4, w5] := by
    have hs : args.size = 6 := by simpa [Cond.value, given_1] using g1
    obtain ⟨L⟩ := args
    match L, hs with
    | [w0, w1, w2, w3, w4, w5], _ => exact ⟨w0, w1, w2, w3, w4, w5, rfl⟩
  have hw := fun d (hd : d ∈ tables_1) => atoms_spec (ws := Cond.code x code maxLocals ret :: tables_1) hat d (List.mem_cons_of_mem _ hd)
  have hfit : Fit s := fun {y c} hc i hi => by
    obtain ⟨ha, rfl⟩ := Array.getElem?_eq_some_iff.mp hc
    have q := List.all_eq_true.mp ((Array.all_eq_true_iff_forall_mem.mp hF) _ (Array.getElem_mem ha)) i (List.mem_range.mpr hi)
    simpa [Array.getElem?_eq_getElem hi] using q
  obtain ⟨hsets, hown0⟩ := atoms_of _ (rest_1_c_eq ▸ (show rest_1_c.before _ s = true from hrest))
  have hr0 := Cond.before_iff.mp hown0
  obtain ⟨i0, ei0⟩ := isL_v g3
  obtain rfl : w0 = (.long i0) := Option.some.inj ei0
  obtain ⟨i1, ei1⟩ := isL_v g5
  obtain rfl : w1 = (.long i1) := Option.some.inj ei1
  obtain ⟨i2, ei2⟩ := is_v g7
  obtain rfl : w2 = (.int i2) := Option.some.inj ei2
  obtain ⟨i3, ei3⟩ := isL_v g9
  obtain rfl : w3 = (.long i3) := Option.some.inj ei3
  obtain ⟨i4, ei4⟩ := isL_v g11
  obtain rfl : w4 = (.long i4) := Option.some.inj ei4
  obtain ⟨i5, ei5⟩ := isL_v g12
  obtain rfl : w5 = (.long i5) := Option.some.inj ei5
  obtain ⟨em, ev_em⟩ := exa_v (Cond.before_iff.mp (hsets _ (List.mem_of_getElem? (i := 2) rfl)))
  have S_em := Sta.start ev_em (Or.inl (hsets _ (List.mem_of_getElem? (i := 1) rfl)))
  have E_em := Exa.start ev_em (Cond.before_iff.mp (hsets _ (List.mem_of_getElem? (i := 2) rfl)))
  have Fp_em := own_fint ev_em (Cond.before_iff.mp (hsets _ (List.mem_of_getElem? (i := 3) rfl)))
  have Fv_em := own_flong ev_em (Cond.before_iff.mp (hsets _ (List.mem_of_getElem? (i := 4) rfl)))
  obtain ⟨eo, ev_eo⟩ := exa_v (Cond.before_iff.mp (hsets _ (List.mem_of_getElem? (i := 7) rfl)))
  have S_eo := Sta.start ev_eo (Or.inl (hsets _ (List.mem_of_getElem? (i := 6) rfl)))
  have E_eo := Exa.start ev_eo (Cond.before_iff.mp (hsets _ (List.mem_of_getElem? (i := 7) rfl)))
  have Fv_eo := own_fnull ev_eo (Cond.before_iff.mp (hsets _ (List.mem_of_getElem? (i := 8) rfl)))
  obtain ⟨n, o, h1, h2, h3, _, L, rfl, ⟨rfl, N⟩, hq⟩ := rm_law l s _ hw tables_1 i0 i1 i2 i3 i4 i5 em eo s.heap s.heap.size (Nat.le_refl _) (Old.start s) S_em E_em Fp_em Fv_em S_eo E_eo Fv_eo p e ha hc hk s m _ below hf ((Spec.applies_iff_loose hf).mp happ).1 ⟨rfl, State.Warmed39.refl s, rfl⟩ trivial
  refine ⟨n, _, h1, h2, h3, hpost _ _ _ _ _ _ ⟨Cond.after_iff.mpr rfl, Cond.after_iff.mpr (eq_i res_at (Term.int_eval (1)) rfl), trivial⟩ ⟨hq.1, hq.2.1, hq.2.2.1, (hq.2.2.2.sift fun y hy => Or.inr (N y hy)).mono (by decide) (by decide)⟩⟩
theorem main_1_1 : Claimed_1_1 := comes_1 fun _ _ _ _ _ _ h hF => ⟨h.1, hF⟩
theorem main_1_2 : Claimed_1_2 := comes_1 fun _ _ _ _ _ _ h hF => ⟨h.2.1, hF⟩
end Jvm.Pilot.@@N@@
namespace Jvm.Pilot.@@N@@
open Jvm Jvm.ClassFile Sem Op Lib Jvm.Free Jvm.Stand Jvm.Pilot.@@N@@.Jvm.D
/-! MADE BY PROGRAM (witnessworld.py) out of the Statement's table words and the real class files: 25 classes; the members and pool entries that the words name. The judged class is class 1, her method 1. -/
namespace start1
open Jvm.ClassFile
def u (s : String) : CpInfo := .utf8 (stringToUtf16 s)
/-- a pool by its gaps: so many unusable entries, then the entry; so many at the end -/
def gap : Nat → List CpInfo → List CpInfo
  | 0, r => r
  | n + 1, r => .unusable :: gap n r
def poolList (es : List (Nat × CpInfo)) (last : Nat) : List CpInfo := es.foldr (fun e r => gap e.1 (e.2 :: r)) (gap last [])
def pool (es : List (Nat × CpInfo)) (last : Nat) : Array CpInfo := ⟨poolList es last⟩
def fileOf (pool : Array CpInfo) (this : Nat) (attrs : Array Attribute := #[]) (ms : Array MethodInfo := #[]) (fl : Nat := 33) (sup : Nat := 0) (ifs : Array Nat := #[]) (fds : Array FieldInfo := #[]) : ClassFile where
  minorVersion := 0
  majorVersion := 65
  constantPool := pool
  accessFlags := fl
  thisClass := this
  superClass := sup
  interfaces := ifs
  fields := fds
  methods := ms
  attributes := attrs
def plain (name : String) (sup : Option ClassId) : Class where
  name := name
  kind := .ordinary
  loader := none
  accessFlags := 33
  super := sup
  interfaces := #[]
  cf := none
  fields := #[]
  methods := #[]
  instanceTypes := #[]
  staticTypes := #[]
  resolved := #[]
  callSites := []
  init := .initialized
  statics := none
  mirror := none

def pool0 : Array CpInfo := pool [(5, u "<init>"), (0, u "()V"), (1, .class_ 10), (1, u "java/lang/Object")] 113

def k0c0 : Code := { maxStack := 0, maxLocals := 1, code := object_method_1_code, exceptionTable := #[], attributes := #[] }
def k0m0 : Method := { name := "<init>", desc := "()V", sig := { parameters := [], returnType := none }, accessFlags := 1, code := some k0c0 }
/-- java/lang/Object -/
def k0 : Class := { plain "java/lang/Object" none with
  accessFlags := 33
  interfaces := #[]
  cf := some (fileOf pool0 8 #[] #[{ accessFlags := 1, nameIndex := 5, descriptorIndex := 6, attributes := #[] }] 33 0 #[] #[])
  fields := #[]
  methods := #[k0m0]
  instanceTypes := #[]
  staticTypes := #[]
  resolved := Array.replicate 124 none
  statics := none }

def pool1 : Array CpInfo := pool [(2, .class_ 4), (1, u "java/lang/Object"), (0, u "<init>"), (0, u "()V"), (2, .long 9223372036854775807), (1, .methodref 12 13), (0, .class_ 14), (0, .nameAndType 15 16), (0, u "java/util/OptionalLong"), (0, u "of"), (0, u "(J)Ljava/util/OptionalLong;"), (0, .methodref 12 18), (0, .nameAndType 19 20), (0, u "empty"), (0, u "()Ljava/util/OptionalLong;"), (0, .class_ 22), (0, u "com/example/log_lag_gauge/loglaggauge/model/PositionLag$RecordsRead"), (0, .methodref 21 24), (0, .nameAndType 5 25), (0, u "(ZLjava/util/OptionalLong;Ljava/util/OptionalLong;J)V"), (0, .methodref 27 28), (0, .class_ 29), (0, .nameAndType 15 30), (0, u "java/util/Optional"), (0, u "(Ljava/lang/Object;)Ljava/util/Optional;"), (0, .methodref 27 32), (0, .nameAndType 19 33), (0, u "()Ljava/util/Optional;"), (0, .class_ 35), (0, u "com/example/log_lag_gauge/loglaggauge/model/PositionLag"), (0, .methodref 34 37), (0, .nameAndType 5 38), (0, u "(JJLjava/util/Optional;)V"), (0, .methodref 34 40), (0, .nameAndType 41 20), (0, u "timeLagMs"), (0, .methodref 12 43), (0, .nameAndType 44 45), (0, u "isEmpty"), (0, u "()Z"), (0, .methodref 12 47), (0, .nameAndType 48 45), (0, u "isPresent"), (0, .methodref 12 50), (0, .nameAndType 51 52), (0, u "getAsLong"), (0, u "()J"), (0, .class_ 54), (0, u "com/example/log_lag_gauge/loglaggauge/model/PositionLagTimeLagMsPinLaw"), (2, u "law"), (0, u "(JJIJJJ)Z")] 5

def k1m0 : Method := { name := "<init>", desc := "()V", sig := { parameters := [], returnType := none }, accessFlags := 1, code := none }
def k1c1 : Code := { maxStack := 7, maxLocals := 32, code := code, exceptionTable := #[], attributes := #[] }
def k1m1 : Method := { name := "law", desc := "(JJIJJJ)Z", sig := { parameters := [.long, .long, .int, .long, .long, .long], returnType := some .boolean }, accessFlags := 9, code := some k1c1 }
/-- com/example/log_lag_gauge/loglaggauge/model/PositionLagTimeLagMsPinLaw -/
def k1 : Class := { plain "com/example/log_lag_gauge/loglaggauge/model/PositionLagTimeLagMsPinLaw" (some 0) with
  accessFlags := 49
  interfaces := #[]
  cf := some (fileOf pool1 53 #[] #[{ accessFlags := 1, nameIndex := 5, descriptorIndex := 6, attributes := #[] }, { accessFlags := 9, nameIndex := 57, descriptorIndex := 58, attributes := #[] }] 49 2 #[] #[])
  fields := #[]
  methods := #[k1m0, k1m1]
  instanceTypes := #[]
  staticTypes := #[]
  resolved := Array.replicate 64 none
  statics := none }

def pool2 : Array CpInfo := pool [(1, .methodref 2 3), (0, .class_ 4), (0, .nameAndType 5 6), (0, u "java/lang/Object"), (0, u "<init>"), (0, u "()V"), (0, .fieldref 8 9), (0, .class_ 10), (0, .nameAndType 11 12), (0, u "java/util/OptionalLong"), (0, u "isPresent"), (0, u "Z"), (0, .fieldref 8 14), (0, .nameAndType 15 16), (0, u "value"), (0, u "J"), (0, .fieldref 8 18), (0, .nameAndType 19 20), (0, u "EMPTY"), (0, u "Ljava/util/OptionalLong;"), (0, .methodref 8 22), (0, .nameAndType 5 23), (0, u "(J)V"), (21, u "of"), (3, u "empty"), (5, u "getAsLong"), (0, u "()J"), (39, u "()Ljava/util/OptionalLong;"), (0, u "(J)Ljava/util/OptionalLong;"), (1, u "()Z"), (0, u "isEmpty"), (9, u "orElse"), (0, u "(J)J")] 26

def k2m0 : Method := { name := "<init>", desc := "()V", sig := { parameters := [], returnType := none }, accessFlags := 2, code := none }
def k2c1 : Code := { maxStack := 1, maxLocals := 0, code := jdk_2650_method_2_code, exceptionTable := #[], attributes := #[] }
def k2m1 : Method := { name := "empty", desc := "()Ljava/util/OptionalLong;", sig := { parameters := [], returnType := some (.object "java/util/OptionalLong") }, accessFlags := 9, code := some k2c1 }
def k2c2 : Code := { maxStack := 3, maxLocals := 3, code := jdk_2650_method_3_code, exceptionTable := #[], attributes := #[] }
def k2m2 : Method := { name := "<init>", desc := "(J)V", sig := { parameters := [.long], returnType := none }, accessFlags := 2, code := some k2c2 }
def k2c3 : Code := { maxStack := 4, maxLocals := 2, code := jdk_2650_method_4_code, exceptionTable := #[], attributes := #[] }
def k2m3 : Method := { name := "of", desc := "(J)Ljava/util/OptionalLong;", sig := { parameters := [.long], returnType := some (.object "java/util/OptionalLong") }, accessFlags := 9, code := some k2c3 }
def k2c4 : Code := { maxStack := 3, maxLocals := 1, code := jdk_2650_method_5_code, exceptionTable := #[], attributes := #[] }
def k2m4 : Method := { name := "getAsLong", desc := "()J", sig := { parameters := [], returnType := some .long }, accessFlags := 1, code := some k2c4 }
def k2c5 : Code := { maxStack := 1, maxLocals := 1, code := jdk_2650_method_6_code, exceptionTable := #[], attributes := #[] }
def k2m5 : Method := { name := "isPresent", desc := "()Z", sig := { parameters := [], returnType := some .boolean }, accessFlags := 1, code := some k2c5 }
def k2c6 : Code := { maxStack := 1, maxLocals := 1, code := jdk_2650_method_7_code, exceptionTable := #[], attributes := #[] }
def k2m6 : Method := { name := "isEmpty", desc := "()Z", sig := { parameters := [], returnType := some .boolean }, accessFlags := 1, code := some k2c6 }
def k2c7 : Code := { maxStack := 2, maxLocals := 3, code := jdk_2650_method_11_code, exceptionTable := #[], attributes := #[] }
def k2m7 : Method := { name := "orElse", desc := "(J)J", sig := { parameters := [.long], returnType := some .long }, accessFlags := 1, code := some k2c7 }
/-- java/util/OptionalLong -/
def k2 : Class := { plain "java/util/OptionalLong" (some 0) with
  accessFlags := 49
  interfaces := #[]
  cf := some (fileOf pool2 8 #[] #[{ accessFlags := 2, nameIndex := 5, descriptorIndex := 6, attributes := #[] }, { accessFlags := 9, nameIndex := 49, descriptorIndex := 96, attributes := #[] }, { accessFlags := 2, nameIndex := 5, descriptorIndex := 23, attributes := #[] }, { accessFlags := 9, nameIndex := 45, descriptorIndex := 97, attributes := #[] }, { accessFlags := 1, nameIndex := 55, descriptorIndex := 56, attributes := #[] }, { accessFlags := 1, nameIndex := 11, descriptorIndex := 99, attributes := #[] }, { accessFlags := 1, nameIndex := 100, descriptorIndex := 99, attributes := #[] }, { accessFlags := 1, nameIndex := 110, descriptorIndex := 111, attributes := #[] }] 49 2 #[] #[{ accessFlags := 26, nameIndex := 19, descriptorIndex := 20, attributes := #[] }, { accessFlags := 18, nameIndex := 11, descriptorIndex := 12, attributes := #[] }, { accessFlags := 18, nameIndex := 15, descriptorIndex := 16, attributes := #[] }])
  fields := #[{ name := "EMPTY", type := (.object "java/util/OptionalLong"), accessFlags := 26, slot := 0, constantValue := 0 }, { name := "isPresent", type := .boolean, accessFlags := 18, slot := 0, constantValue := 0 }, { name := "value", type := .long, accessFlags := 18, slot := 1, constantValue := 0 }]
  methods := #[k2m0, k2m1, k2m2, k2m3, k2m4, k2m5, k2m6, k2m7]
  instanceTypes := #[.boolean, .long]
  staticTypes := #[(.object "java/util/OptionalLong")]
  resolved := Array.replicate 138 none
  statics := some 0 }

def pool3 : Array CpInfo := pool [(1, .fieldref 2 3), (0, .class_ 4), (0, .nameAndType 5 6), (0, u "java/util/Optional"), (0, u "EMPTY"), (0, u "Ljava/util/Optional;"), (0, .methodref 8 9), (0, .class_ 10), (0, .nameAndType 11 12), (0, u "java/lang/Object"), (0, u "<init>"), (0, u "()V"), (0, .fieldref 2 14), (0, .nameAndType 15 16), (0, u "value"), (0, u "Ljava/lang/Object;"), (0, .methodref 18 19), (0, .class_ 20), (0, .nameAndType 21 22), (0, u "java/util/Objects"), (0, u "requireNonNull"), (0, u "(Ljava/lang/Object;)Ljava/lang/Object;"), (0, .methodref 2 24), (0, .nameAndType 11 25), (0, u "(Ljava/lang/Object;)V"), (17, .methodref 2 44), (0, .nameAndType 45 46), (0, u "isEmpty"), (0, u "()Z"), (0, .interfaceMethodref 48 49), (0, .class_ 50), (0, .nameAndType 51 52), (0, u "java/util/function/Predicate"), (0, u "test"), (0, u "(Ljava/lang/Object;)Z"), (0, .methodref 2 54), (0, .nameAndType 55 56), (0, u "empty"), (0, u "()Ljava/util/Optional;"), (0, .interfaceMethodref 58 59), (0, .class_ 60), (0, .nameAndType 61 22), (0, u "java/util/function/Function"), (0, u "apply"), (0, .methodref 2 63), (0, .nameAndType 64 65), (0, u "ofNullable"), (0, u "(Ljava/lang/Object;)Ljava/util/Optional;"), (2, u "isPresent"), (13, u "of"), (57, u "filter"), (0, u "(Ljava/util/function/Predicate;)Ljava/util/Optional;"), (4, u "map"), (0, u "(Ljava/util/function/Function;)Ljava/util/Optional;"), (17, u "orElse")] 21

def k3c0 : Code := { maxStack := 1, maxLocals := 1, code := jdk_32_method_1_code, exceptionTable := #[], attributes := #[] }
def k3m0 : Method := { name := "empty", desc := "()Ljava/util/Optional;", sig := { parameters := [], returnType := some (.object "java/util/Optional") }, accessFlags := 9, code := some k3c0 }
def k3c1 : Code := { maxStack := 2, maxLocals := 2, code := jdk_32_method_2_code, exceptionTable := #[], attributes := #[] }
def k3m1 : Method := { name := "<init>", desc := "(Ljava/lang/Object;)V", sig := { parameters := [(.object "java/lang/Object")], returnType := none }, accessFlags := 2, code := some k3c1 }
def k3c2 : Code := { maxStack := 3, maxLocals := 1, code := jdk_32_method_3_code, exceptionTable := #[], attributes := #[] }
def k3m2 : Method := { name := "of", desc := "(Ljava/lang/Object;)Ljava/util/Optional;", sig := { parameters := [(.object "java/lang/Object")], returnType := some (.object "java/util/Optional") }, accessFlags := 9, code := some k3c2 }
def k3c3 : Code := { maxStack := 3, maxLocals := 1, code := jdk_32_method_4_code, exceptionTable := #[], attributes := #[] }
def k3m3 : Method := { name := "ofNullable", desc := "(Ljava/lang/Object;)Ljava/util/Optional;", sig := { parameters := [(.object "java/lang/Object")], returnType := some (.object "java/util/Optional") }, accessFlags := 9, code := some k3c3 }
def k3c4 : Code := { maxStack := 1, maxLocals := 1, code := jdk_32_method_6_code, exceptionTable := #[], attributes := #[] }
def k3m4 : Method := { name := "isPresent", desc := "()Z", sig := { parameters := [], returnType := some .boolean }, accessFlags := 1, code := some k3c4 }
def k3c5 : Code := { maxStack := 1, maxLocals := 1, code := jdk_32_method_7_code, exceptionTable := #[], attributes := #[] }
def k3m5 : Method := { name := "isEmpty", desc := "()Z", sig := { parameters := [], returnType := some .boolean }, accessFlags := 1, code := some k3c5 }
def k3c6 : Code := { maxStack := 2, maxLocals := 2, code := jdk_32_method_10_code, exceptionTable := #[], attributes := #[] }
def k3m6 : Method := { name := "filter", desc := "(Ljava/util/function/Predicate;)Ljava/util/Optional;", sig := { parameters := [(.object "java/util/function/Predicate")], returnType := some (.object "java/util/Optional") }, accessFlags := 1, code := some k3c6 }
def k3c7 : Code := { maxStack := 2, maxLocals := 2, code := jdk_32_method_11_code, exceptionTable := #[], attributes := #[] }
def k3m7 : Method := { name := "map", desc := "(Ljava/util/function/Function;)Ljava/util/Optional;", sig := { parameters := [(.object "java/util/function/Function")], returnType := some (.object "java/util/Optional") }, accessFlags := 1, code := some k3c7 }
def k3c8 : Code := { maxStack := 1, maxLocals := 2, code := jdk_32_method_15_code, exceptionTable := #[], attributes := #[] }
def k3m8 : Method := { name := "orElse", desc := "(Ljava/lang/Object;)Ljava/lang/Object;", sig := { parameters := [(.object "java/lang/Object")], returnType := some (.object "java/lang/Object") }, accessFlags := 1, code := some k3c8 }
/-- java/util/Optional -/
def k3 : Class := { plain "java/util/Optional" (some 0) with
  accessFlags := 49
  interfaces := #[]
  cf := some (fileOf pool3 2 #[] #[{ accessFlags := 9, nameIndex := 55, descriptorIndex := 56, attributes := #[] }, { accessFlags := 2, nameIndex := 11, descriptorIndex := 25, attributes := #[] }, { accessFlags := 9, nameIndex := 82, descriptorIndex := 65, attributes := #[] }, { accessFlags := 9, nameIndex := 64, descriptorIndex := 65, attributes := #[] }, { accessFlags := 1, nameIndex := 68, descriptorIndex := 46, attributes := #[] }, { accessFlags := 1, nameIndex := 45, descriptorIndex := 46, attributes := #[] }, { accessFlags := 1, nameIndex := 140, descriptorIndex := 141, attributes := #[] }, { accessFlags := 1, nameIndex := 146, descriptorIndex := 147, attributes := #[] }, { accessFlags := 1, nameIndex := 165, descriptorIndex := 22, attributes := #[] }] 49 8 #[] #[{ accessFlags := 26, nameIndex := 5, descriptorIndex := 6, attributes := #[] }, { accessFlags := 18, nameIndex := 15, descriptorIndex := 16, attributes := #[] }])
  fields := #[{ name := "EMPTY", type := (.object "java/util/Optional"), accessFlags := 26, slot := 0, constantValue := 0 }, { name := "value", type := (.object "java/lang/Object"), accessFlags := 18, slot := 0, constantValue := 0 }]
  methods := #[k3m0, k3m1, k3m2, k3m3, k3m4, k3m5, k3m6, k3m7, k3m8]
  instanceTypes := #[(.object "java/lang/Object")]
  staticTypes := #[(.object "java/util/Optional")]
  resolved := Array.replicate 187 none
  statics := some 1 }

def pool4 : Array CpInfo := pool [(1, .methodref 2 3), (0, .class_ 4), (0, .nameAndType 5 6), (0, u "java/lang/Object"), (0, u "<init>"), (0, u "()V"), (0, .class_ 8), (0, u "java/lang/Record")] 13

def k4c0 : Code := { maxStack := 1, maxLocals := 1, code := jdk_30_method_1_code, exceptionTable := #[], attributes := #[] }
def k4m0 : Method := { name := "<init>", desc := "()V", sig := { parameters := [], returnType := none }, accessFlags := 4, code := some k4c0 }
/-- java/lang/Record -/
def k4 : Class := { plain "java/lang/Record" (some 0) with
  accessFlags := 1057
  interfaces := #[]
  cf := some (fileOf pool4 7 #[] #[{ accessFlags := 4, nameIndex := 5, descriptorIndex := 6, attributes := #[] }] 1057 2 #[] #[])
  fields := #[]
  methods := #[k4m0]
  instanceTypes := #[]
  staticTypes := #[]
  resolved := Array.replicate 22 none
  statics := none }

def pool5 : Array CpInfo := pool [(1, .methodref 2 3), (0, .class_ 4), (0, .nameAndType 5 6), (0, u "java/lang/Record"), (0, u "<init>"), (0, u "()V"), (0, .string 8), (0, u "records"), (0, .methodref 10 11), (0, .class_ 12), (0, .nameAndType 13 14), (0, u "java/util/Objects"), (0, u "requireNonNull"), (0, u "(Ljava/lang/Object;Ljava/lang/String;)Ljava/lang/Object;"), (0, .fieldref 16 17), (0, .class_ 18), (0, .nameAndType 19 20), (0, u "com/example/log_lag_gauge/loglaggauge/model/PositionLag"), (0, u "offset"), (0, u "J"), (0, .fieldref 16 22), (0, .nameAndType 23 20), (0, u "end"), (0, .fieldref 16 25), (0, .nameAndType 8 26), (0, u "Ljava/util/Optional;"), (0, .class_ 28), (0, u "com/example/log_lag_gauge/loglaggauge/model/PositionLag$RecordsRead"), (4, .class_ 35), (1, u "java/util/Optional"), (0, u "of"), (3, u "(JJLjava/util/Optional;)V"), (0, .methodref 42 43), (0, .class_ 44), (0, .nameAndType 36 45), (0, u "java/util/OptionalLong"), (0, u "(J)Ljava/util/OptionalLong;"), (0, .methodref 47 48), (0, .class_ 49), (0, .nameAndType 50 51), (0, u "com/example/log_lag_gauge/loglaggauge/model/Trailing"), (0, u "offsets"), (0, u "(Ljava/util/OptionalLong;Ljava/util/OptionalLong;)Ljava/util/OptionalLong;"), (0, .methodref 42 53), (0, .nameAndType 54 55), (0, u "isPresent"), (0, u "()Z"), (0, .invokeDynamic 0 57), (0, .nameAndType 58 59), (0, u "test"), (0, u "()Ljava/util/function/Predicate;"), (0, .methodref 33 61), (0, .nameAndType 62 63), (0, u "filter"), (0, u "(Ljava/util/function/Predicate;)Ljava/util/Optional;"), (0, .methodref 33 53), (0, .invokeDynamic 1 66), (0, .nameAndType 67 68), (0, u "apply"), (0, u "(Lcom/example/log_lag_gauge/loglaggauge/model/PositionLag;)Ljava/util/function/Function;"), (0, .methodref 33 70), (0, .nameAndType 71 72), (0, u "map"), (0, u "(Ljava/util/function/Function;)Ljava/util/Optional;"), (0, .methodref 42 74), (0, .nameAndType 75 76), (0, u "empty"), (0, u "()Ljava/util/OptionalLong;"), (0, .methodref 33 78), (0, .nameAndType 79 80), (0, u "orElse"), (0, u "(Ljava/lang/Object;)Ljava/lang/Object;"), (1, .methodref 16 83), (0, .nameAndType 84 76), (0, u "lag"), (0, .methodref 42 86), (0, .nameAndType 87 55), (0, u "isEmpty"), (0, .methodref 42 89), (0, .nameAndType 90 91), (0, u "getAsLong"), (0, u "()J"), (0, .methodref 27 93), (0, .nameAndType 94 76), (0, u "firstUnreadTimestamp"), (0, .methodref 47 96), (0, .nameAndType 97 51), (0, u "ms"), (0, .methodref 42 99), (0, .nameAndType 79 100), (0, u "(J)J"), (3, .methodref 16 105), (0, .nameAndType 106 107), (0, u "behindFirstUnread"), (0, u "(Lcom/example/log_lag_gauge/loglaggauge/model/PositionLag$RecordsRead;Ljava/util/OptionalLong;)Ljava/util/OptionalLong;"), (0, .methodref 27 109), (0, .nameAndType 110 76), (0, u "newestTimestamp"), (20, u "timeLagMs"), (3, u "(Ljava/lang/Object;)Z"), (3, u "(Lcom/example/log_lag_gauge/loglaggauge/model/PositionLag$RecordsRead;)Ljava/util/OptionalLong;"), (0, u "lambda$timeLagMs$0"), (5, .methodType 135), (0, .methodHandle 5 148), (0, .methodref 27 149), (0, .nameAndType 150 55), (0, u "onlyMarkersLeft"), (0, .methodType 152), (0, u "(Lcom/example/log_lag_gauge/loglaggauge/model/PositionLag$RecordsRead;)Z"), (0, .methodType 80), (0, .methodHandle 5 155), (0, .methodref 16 156), (0, .nameAndType 140 139), (0, .methodType 139), (8, .methodHandle 6 167), (0, .methodref 168 169), (0, .class_ 170), (0, .nameAndType 171 172), (0, u "java/lang/invoke/LambdaMetafactory"), (0, u "metafactory"), (0, u "(Ljava/lang/invoke/MethodHandles$Lookup;Ljava/lang/String;Ljava/lang/invoke/MethodType;Ljava/lang/invoke/MethodType;Ljava/lang/invoke/MethodHandle;Ljava/lang/invoke/MethodType;)Ljava/lang/invoke/CallSite;")] 14

def k5c0 : Code := { maxStack := 3, maxLocals := 6, code := prog_13_method_1_code, exceptionTable := #[], attributes := #[] }
def k5m0 : Method := { name := "<init>", desc := "(JJLjava/util/Optional;)V", sig := { parameters := [.long, .long, (.object "java/util/Optional")], returnType := none }, accessFlags := 1, code := some k5c0 }
def k5c1 : Code := { maxStack := 3, maxLocals := 3, code := prog_13_method_3_code, exceptionTable := #[], attributes := #[] }
def k5m1 : Method := { name := "lag", desc := "()Ljava/util/OptionalLong;", sig := { parameters := [], returnType := some (.object "java/util/OptionalLong") }, accessFlags := 1, code := some k5c1 }
def k5c2 : Code := { maxStack := 2, maxLocals := 1, code := prog_13_method_4_code, exceptionTable := #[], attributes := #[] }
def k5m2 : Method := { name := "timeLagMs", desc := "()Ljava/util/OptionalLong;", sig := { parameters := [], returnType := some (.object "java/util/OptionalLong") }, accessFlags := 1, code := some k5c2 }
def k5c3 : Code := { maxStack := 4, maxLocals := 5, code := prog_13_method_6_code, exceptionTable := #[], attributes := #[] }
def k5m3 : Method := { name := "behindFirstUnread", desc := "(Lcom/example/log_lag_gauge/loglaggauge/model/PositionLag$RecordsRead;Ljava/util/OptionalLong;)Ljava/util/OptionalLong;", sig := { parameters := [(.object "com/example/log_lag_gauge/loglaggauge/model/PositionLag$RecordsRead"), (.object "java/util/OptionalLong")], returnType := some (.object "java/util/OptionalLong") }, accessFlags := 2, code := some k5c3 }
def k5c4 : Code := { maxStack := 3, maxLocals := 2, code := prog_13_method_14_code, exceptionTable := #[], attributes := #[] }
def k5m4 : Method := { name := "lambda$timeLagMs$0", desc := "(Lcom/example/log_lag_gauge/loglaggauge/model/PositionLag$RecordsRead;)Ljava/util/OptionalLong;", sig := { parameters := [(.object "com/example/log_lag_gauge/loglaggauge/model/PositionLag$RecordsRead")], returnType := some (.object "java/util/OptionalLong") }, accessFlags := 4098, code := some k5c4 }
/-- com/example/log_lag_gauge/loglaggauge/model/PositionLag -/
def k5 : Class := { plain "com/example/log_lag_gauge/loglaggauge/model/PositionLag" (some 4) with
  accessFlags := 49
  interfaces := #[]
  cf := some (fileOf pool5 16 #[.nestMembers #[27], .bootstrapMethods #[⟨166, #[146, 147, 151]⟩, ⟨166, #[153, 154, 157]⟩, ⟨0, #[]⟩, ⟨0, #[]⟩]] #[{ accessFlags := 1, nameIndex := 5, descriptorIndex := 40, attributes := #[] }, { accessFlags := 1, nameIndex := 84, descriptorIndex := 76, attributes := #[] }, { accessFlags := 1, nameIndex := 131, descriptorIndex := 76, attributes := #[] }, { accessFlags := 2, nameIndex := 106, descriptorIndex := 107, attributes := #[] }, { accessFlags := 4098, nameIndex := 140, descriptorIndex := 139, attributes := #[] }] 49 2 #[] #[{ accessFlags := 18, nameIndex := 19, descriptorIndex := 20, attributes := #[] }, { accessFlags := 18, nameIndex := 23, descriptorIndex := 20, attributes := #[] }, { accessFlags := 18, nameIndex := 8, descriptorIndex := 26, attributes := #[] }])
  fields := #[{ name := "offset", type := .long, accessFlags := 18, slot := 0, constantValue := 0 }, { name := "end", type := .long, accessFlags := 18, slot := 1, constantValue := 0 }, { name := "records", type := (.object "java/util/Optional"), accessFlags := 18, slot := 2, constantValue := 0 }]
  methods := #[k5m0, k5m1, k5m2, k5m3, k5m4]
  instanceTypes := #[.long, .long, (.object "java/util/Optional")]
  staticTypes := #[]
  resolved := Array.replicate 187 none
  callSites := [(2, 5, .makes 23), (1, 29, .constant 2)]
  statics := none }

def pool6 : Array CpInfo := pool [(1, .class_ 2), (0, u "java/io/Serializable"), (0, .class_ 4), (0, u "java/lang/Object")] 2

/-- java/io/Serializable -/
def k6 : Class := { plain "java/io/Serializable" (some 0) with
  accessFlags := 1537
  interfaces := #[]
  cf := some (fileOf pool6 1 #[] #[] 1537 3 #[] #[])
  fields := #[]
  methods := #[]
  instanceTypes := #[]
  staticTypes := #[]
  resolved := Array.replicate 7 none
  statics := none }

def pool7 : Array CpInfo := pool [(1, .class_ 2), (0, u "java/lang/Comparable"), (0, .class_ 4), (0, u "java/lang/Object")] 7

/-- java/lang/Comparable -/
def k7 : Class := { plain "java/lang/Comparable" (some 0) with
  accessFlags := 1537
  interfaces := #[]
  cf := some (fileOf pool7 1 #[] #[] 1537 3 #[] #[])
  fields := #[]
  methods := #[]
  instanceTypes := #[]
  staticTypes := #[]
  resolved := Array.replicate 12 none
  statics := none }

def pool8 : Array CpInfo := pool [(2, .class_ 4), (1, u "java/lang/CharSequence"), (42, .class_ 48), (0, u "java/lang/CharSequence$1CodePointIterator"), (10, .class_ 60), (0, u "java/lang/CharSequence$1CharIterator"), (5, .class_ 67), (0, u "java/lang/Object")] 63

/-- java/lang/CharSequence -/
def k8 : Class := { plain "java/lang/CharSequence" (some 0) with
  accessFlags := 1537
  interfaces := #[]
  cf := some (fileOf pool8 2 #[.nestMembers #[47, 59]] #[] 1537 66 #[] #[])
  fields := #[]
  methods := #[]
  instanceTypes := #[]
  staticTypes := #[]
  resolved := Array.replicate 131 none
  statics := none }

def pool9 : Array CpInfo := pool [(1, .class_ 2), (0, u "java/lang/constant/Constable"), (0, .class_ 4), (0, u "java/lang/Object")] 6

/-- java/lang/constant/Constable -/
def k9 : Class := { plain "java/lang/constant/Constable" (some 0) with
  accessFlags := 1537
  interfaces := #[]
  cf := some (fileOf pool9 1 #[] #[] 1537 3 #[] #[])
  fields := #[]
  methods := #[]
  instanceTypes := #[]
  staticTypes := #[]
  resolved := Array.replicate 11 none
  statics := none }

def pool10 : Array CpInfo := pool [(1, .class_ 2), (0, u "java/lang/constant/ConstantDesc"), (0, .class_ 4), (0, u "java/lang/Object")] 32

/-- java/lang/constant/ConstantDesc -/
def k10 : Class := { plain "java/lang/constant/ConstantDesc" (some 0) with
  accessFlags := 1537
  interfaces := #[]
  cf := some (fileOf pool10 1 #[] #[] 1537 3 #[] #[])
  fields := #[]
  methods := #[]
  instanceTypes := #[]
  staticTypes := #[]
  resolved := Array.replicate 37 none
  statics := none }

def pool11 : Array CpInfo := pool [(2, .class_ 4), (1, u "java/lang/Object"), (0, u "<init>"), (0, u "()V"), (3, .class_ 12), (1, u "java/lang/String"), (0, u "value"), (0, u "[B"), (2, u "coder"), (0, u "B"), (2, u "hash"), (0, u "I"), (2, u "hashIsZero"), (0, u "Z"), (13, u "COMPACT_STRINGS"), (534, .class_ 576), (0, u "java/lang/CharSequence"), (22, u "CASE_INSENSITIVE_ORDER"), (0, u "Ljava/util/Comparator;"), (500, u "serialPersistentFields"), (0, u "[Ljava/io/ObjectStreamField;"), (0, .class_ 1104), (0, u "java/lang/String$CaseInsensitiveComparator"), (1, .class_ 1107), (0, u "java/io/Serializable"), (0, .class_ 1109), (0, u "java/lang/Comparable"), (0, .class_ 1111), (0, u "java/lang/constant/Constable"), (0, .class_ 1113), (0, u "java/lang/constant/ConstantDesc"), (2, u "serialVersionUID"), (0, u "J"), (3, u "REPL"), (0, u "C"), (2, u "LATIN1"), (1, u "UTF16")] 323

def k11m0 : Method := { name := "<init>", desc := "()V", sig := { parameters := [], returnType := none }, accessFlags := 1, code := none }
/-- java/lang/String -/
def k11 : Class := { plain "java/lang/String" (some 0) with
  accessFlags := 49
  interfaces := #[6, 7, 8, 9, 10]
  cf := some (fileOf pool11 10 #[.nestMembers #[1103]] #[{ accessFlags := 1, nameIndex := 5, descriptorIndex := 6, attributes := #[] }] 49 2 #[1106, 1108, 575, 1110, 1112] #[{ accessFlags := 18, nameIndex := 13, descriptorIndex := 14, attributes := #[] }, { accessFlags := 18, nameIndex := 17, descriptorIndex := 18, attributes := #[] }, { accessFlags := 2, nameIndex := 21, descriptorIndex := 22, attributes := #[] }, { accessFlags := 2, nameIndex := 25, descriptorIndex := 26, attributes := #[] }, { accessFlags := 26, nameIndex := 1116, descriptorIndex := 1117, attributes := #[] }, { accessFlags := 24, nameIndex := 40, descriptorIndex := 26, attributes := #[] }, { accessFlags := 26, nameIndex := 1101, descriptorIndex := 1102, attributes := #[] }, { accessFlags := 26, nameIndex := 1121, descriptorIndex := 1122, attributes := #[] }, { accessFlags := 25, nameIndex := 599, descriptorIndex := 600, attributes := #[] }, { accessFlags := 24, nameIndex := 1125, descriptorIndex := 18, attributes := #[] }, { accessFlags := 24, nameIndex := 1127, descriptorIndex := 18, attributes := #[] }])
  fields := #[{ name := "value", type := (.array .byte), accessFlags := 18, slot := 0, constantValue := 0 }, { name := "coder", type := .byte, accessFlags := 18, slot := 1, constantValue := 0 }, { name := "hash", type := .int, accessFlags := 2, slot := 2, constantValue := 0 }, { name := "hashIsZero", type := .boolean, accessFlags := 2, slot := 3, constantValue := 0 }, { name := "serialVersionUID", type := .long, accessFlags := 26, slot := 0, constantValue := 0 }, { name := "COMPACT_STRINGS", type := .boolean, accessFlags := 24, slot := 1, constantValue := 0 }, { name := "serialPersistentFields", type := (.array (.object "java/io/ObjectStreamField")), accessFlags := 26, slot := 2, constantValue := 0 }, { name := "REPL", type := .char, accessFlags := 26, slot := 3, constantValue := 0 }, { name := "CASE_INSENSITIVE_ORDER", type := (.object "java/util/Comparator"), accessFlags := 25, slot := 4, constantValue := 0 }, { name := "LATIN1", type := .byte, accessFlags := 24, slot := 5, constantValue := 0 }, { name := "UTF16", type := .byte, accessFlags := 24, slot := 6, constantValue := 0 }]
  methods := #[k11m0]
  instanceTypes := #[(.array .byte), .byte, .int, .boolean]
  staticTypes := #[.long, .boolean, (.array (.object "java/io/ObjectStreamField")), .char, (.object "java/util/Comparator"), .byte, .byte]
  resolved := Array.replicate 1451 none
  statics := none }

def pool12 : Array CpInfo := pool [(2, .class_ 4), (1, u "java/lang/Object"), (0, u "<init>"), (0, u "()V"), (35, .class_ 44), (1, u "java/util/Objects"), (0, u "requireNonNull"), (0, u "(Ljava/lang/Object;)Ljava/lang/Object;"), (47, u "(Ljava/lang/Object;Ljava/lang/String;)Ljava/lang/Object;")] 89

def k12m0 : Method := { name := "<init>", desc := "()V", sig := { parameters := [], returnType := none }, accessFlags := 2, code := none }
def k12c1 : Code := { maxStack := 2, maxLocals := 1, code := jdk_31_method_10_code, exceptionTable := #[], attributes := #[] }
def k12m1 : Method := { name := "requireNonNull", desc := "(Ljava/lang/Object;)Ljava/lang/Object;", sig := { parameters := [(.object "java/lang/Object")], returnType := some (.object "java/lang/Object") }, accessFlags := 9, code := some k12c1 }
def k12c2 : Code := { maxStack := 3, maxLocals := 2, code := jdk_31_method_11_code, exceptionTable := #[], attributes := #[] }
def k12m2 : Method := { name := "requireNonNull", desc := "(Ljava/lang/Object;Ljava/lang/String;)Ljava/lang/Object;", sig := { parameters := [(.object "java/lang/Object"), (.object "java/lang/String")], returnType := some (.object "java/lang/Object") }, accessFlags := 9, code := some k12c2 }
/-- java/util/Objects -/
def k12 : Class := { plain "java/util/Objects" (some 0) with
  accessFlags := 49
  interfaces := #[]
  cf := some (fileOf pool12 42 #[] #[{ accessFlags := 2, nameIndex := 5, descriptorIndex := 6, attributes := #[] }, { accessFlags := 9, nameIndex := 45, descriptorIndex := 46, attributes := #[] }, { accessFlags := 9, nameIndex := 45, descriptorIndex := 94, attributes := #[] }] 49 2 #[] #[])
  fields := #[]
  methods := #[k12m0, k12m1, k12m2]
  instanceTypes := #[]
  staticTypes := #[]
  resolved := Array.replicate 184 none
  statics := none }

def pool13 : Array CpInfo := pool [(6, u "(Ljava/lang/Object;)Ljava/lang/Object;"), (2, u "apply"), (6, .class_ 18), (1, u "java/util/function/Function"), (0, .class_ 20), (0, u "java/lang/Object")] 56

def k13m0 : Method := { name := "apply", desc := "(Ljava/lang/Object;)Ljava/lang/Object;", sig := { parameters := [(.object "java/lang/Object")], returnType := some (.object "java/lang/Object") }, accessFlags := 1025, code := none }
/-- java/util/function/Function -/
def k13 : Class := { plain "java/util/function/Function" (some 0) with
  accessFlags := 1537
  interfaces := #[]
  cf := some (fileOf pool13 16 #[] #[{ accessFlags := 1025, nameIndex := 9, descriptorIndex := 6, attributes := #[] }] 1537 19 #[] #[])
  fields := #[]
  methods := #[k13m0]
  instanceTypes := #[]
  staticTypes := #[]
  resolved := Array.replicate 77 none
  statics := none }

def pool14 : Array CpInfo := pool [(1, .methodref 2 3), (0, .class_ 4), (0, .nameAndType 5 6), (0, u "java/lang/Record"), (0, u "<init>"), (0, u "()V"), (0, .string 8), (0, u "firstUnreadTimestamp"), (0, .methodref 10 11), (0, .class_ 12), (0, .nameAndType 13 14), (0, u "java/util/Objects"), (0, u "requireNonNull"), (0, u "(Ljava/lang/Object;Ljava/lang/String;)Ljava/lang/Object;"), (0, .string 16), (0, u "newestTimestamp"), (0, .fieldref 18 19), (0, .class_ 20), (0, .nameAndType 21 22), (0, u "com/example/log_lag_gauge/loglaggauge/model/PositionLag$RecordsRead"), (0, u "onlyMarkersLeft"), (0, u "Z"), (0, .fieldref 18 24), (0, .nameAndType 8 25), (0, u "Ljava/util/OptionalLong;"), (0, .fieldref 18 27), (0, .nameAndType 16 25), (0, .fieldref 18 29), (0, .nameAndType 30 31), (0, u "lookedAt"), (0, u "J"), (12, u "(ZLjava/util/OptionalLong;Ljava/util/OptionalLong;J)V"), (6, u "()Z"), (0, u "()Ljava/util/OptionalLong;"), (4, .class_ 58), (0, u "com/example/log_lag_gauge/loglaggauge/model/PositionLag")] 22

def k14c0 : Code := { maxStack := 3, maxLocals := 6, code := prog_14_method_1_code, exceptionTable := #[], attributes := #[] }
def k14m0 : Method := { name := "<init>", desc := "(ZLjava/util/OptionalLong;Ljava/util/OptionalLong;J)V", sig := { parameters := [.boolean, (.object "java/util/OptionalLong"), (.object "java/util/OptionalLong"), .long], returnType := none }, accessFlags := 1, code := some k14c0 }
def k14c1 : Code := { maxStack := 1, maxLocals := 1, code := prog_14_method_5_code, exceptionTable := #[], attributes := #[] }
def k14m1 : Method := { name := "onlyMarkersLeft", desc := "()Z", sig := { parameters := [], returnType := some .boolean }, accessFlags := 1, code := some k14c1 }
def k14c2 : Code := { maxStack := 1, maxLocals := 1, code := prog_14_method_6_code, exceptionTable := #[], attributes := #[] }
def k14m2 : Method := { name := "firstUnreadTimestamp", desc := "()Ljava/util/OptionalLong;", sig := { parameters := [], returnType := some (.object "java/util/OptionalLong") }, accessFlags := 1, code := some k14c2 }
def k14c3 : Code := { maxStack := 1, maxLocals := 1, code := prog_14_method_7_code, exceptionTable := #[], attributes := #[] }
def k14m3 : Method := { name := "newestTimestamp", desc := "()Ljava/util/OptionalLong;", sig := { parameters := [], returnType := some (.object "java/util/OptionalLong") }, accessFlags := 1, code := some k14c3 }
/-- com/example/log_lag_gauge/loglaggauge/model/PositionLag$RecordsRead -/
def k14 : Class := { plain "com/example/log_lag_gauge/loglaggauge/model/PositionLag$RecordsRead" (some 4) with
  accessFlags := 49
  interfaces := #[]
  cf := some (fileOf pool14 18 #[.nestHost 57] #[{ accessFlags := 1, nameIndex := 5, descriptorIndex := 44, attributes := #[] }, { accessFlags := 1, nameIndex := 21, descriptorIndex := 51, attributes := #[] }, { accessFlags := 1, nameIndex := 8, descriptorIndex := 52, attributes := #[] }, { accessFlags := 1, nameIndex := 16, descriptorIndex := 52, attributes := #[] }] 49 2 #[] #[{ accessFlags := 18, nameIndex := 21, descriptorIndex := 22, attributes := #[] }, { accessFlags := 18, nameIndex := 8, descriptorIndex := 25, attributes := #[] }, { accessFlags := 18, nameIndex := 16, descriptorIndex := 25, attributes := #[] }, { accessFlags := 18, nameIndex := 30, descriptorIndex := 31, attributes := #[] }])
  fields := #[{ name := "onlyMarkersLeft", type := .boolean, accessFlags := 18, slot := 0, constantValue := 0 }, { name := "firstUnreadTimestamp", type := (.object "java/util/OptionalLong"), accessFlags := 18, slot := 1, constantValue := 0 }, { name := "newestTimestamp", type := (.object "java/util/OptionalLong"), accessFlags := 18, slot := 2, constantValue := 0 }, { name := "lookedAt", type := .long, accessFlags := 18, slot := 3, constantValue := 0 }]
  methods := #[k14m0, k14m1, k14m2, k14m3]
  instanceTypes := #[.boolean, (.object "java/util/OptionalLong"), (.object "java/util/OptionalLong"), .long]
  staticTypes := #[]
  resolved := Array.replicate 81 none
  statics := none }

def pool15 : Array CpInfo := pool [(2, .class_ 4), (1, u "java/lang/Object"), (0, u "<init>"), (0, u "()V"), (0, .methodref 8 9), (0, .class_ 10), (0, .nameAndType 11 12), (0, u "java/util/OptionalLong"), (0, u "isEmpty"), (0, u "()Z"), (0, .methodref 8 14), (0, .nameAndType 15 16), (0, u "getAsLong"), (0, u "()J"), (0, .methodref 8 18), (0, .nameAndType 19 20), (0, u "empty"), (0, u "()Ljava/util/OptionalLong;"), (0, .methodref 8 22), (0, .nameAndType 23 24), (0, u "of"), (0, u "(J)Ljava/util/OptionalLong;"), (0, .methodref 26 27), (0, .class_ 28), (0, .nameAndType 29 30), (0, u "java/lang/Math"), (0, u "max"), (0, u "(JJ)J"), (0, .class_ 32), (0, u "com/example/log_lag_gauge/loglaggauge/model/Trailing"), (2, u "offsets"), (0, u "(Ljava/util/OptionalLong;Ljava/util/OptionalLong;)Ljava/util/OptionalLong;"), (1, u "ms")] 2

def k15m0 : Method := { name := "<init>", desc := "()V", sig := { parameters := [], returnType := none }, accessFlags := 2, code := none }
def k15c1 : Code := { maxStack := 4, maxLocals := 3, code := prog_18_method_2_code, exceptionTable := #[], attributes := #[] }
def k15m1 : Method := { name := "offsets", desc := "(Ljava/util/OptionalLong;Ljava/util/OptionalLong;)Ljava/util/OptionalLong;", sig := { parameters := [(.object "java/util/OptionalLong"), (.object "java/util/OptionalLong")], returnType := some (.object "java/util/OptionalLong") }, accessFlags := 9, code := some k15c1 }
def k15c2 : Code := { maxStack := 6, maxLocals := 3, code := prog_18_method_3_code, exceptionTable := #[], attributes := #[] }
def k15m2 : Method := { name := "ms", desc := "(Ljava/util/OptionalLong;Ljava/util/OptionalLong;)Ljava/util/OptionalLong;", sig := { parameters := [(.object "java/util/OptionalLong"), (.object "java/util/OptionalLong")], returnType := some (.object "java/util/OptionalLong") }, accessFlags := 9, code := some k15c2 }
/-- com/example/log_lag_gauge/loglaggauge/model/Trailing -/
def k15 : Class := { plain "com/example/log_lag_gauge/loglaggauge/model/Trailing" (some 0) with
  accessFlags := 33
  interfaces := #[]
  cf := some (fileOf pool15 31 #[] #[{ accessFlags := 2, nameIndex := 5, descriptorIndex := 6, attributes := #[] }, { accessFlags := 9, nameIndex := 35, descriptorIndex := 36, attributes := #[] }, { accessFlags := 9, nameIndex := 38, descriptorIndex := 36, attributes := #[] }] 33 2 #[] #[])
  fields := #[]
  methods := #[k15m0, k15m1, k15m2]
  instanceTypes := #[]
  staticTypes := #[]
  resolved := Array.replicate 41 none
  statics := none }

def pool16 : Array CpInfo := pool [(9, u "test"), (12, .class_ 24), (1, u "java/util/function/Predicate"), (2, .class_ 29), (1, u "java/lang/Object"), (1, u "(Ljava/lang/Object;)Z")] 69

def k16m0 : Method := { name := "test", desc := "(Ljava/lang/Object;)Z", sig := { parameters := [(.object "java/lang/Object")], returnType := some .boolean }, accessFlags := 1025, code := none }
/-- java/util/function/Predicate -/
def k16 : Class := { plain "java/util/function/Predicate" (some 0) with
  accessFlags := 1537
  interfaces := #[]
  cf := some (fileOf pool16 22 #[] #[{ accessFlags := 1025, nameIndex := 9, descriptorIndex := 31, attributes := #[] }] 1537 27 #[] #[])
  fields := #[]
  methods := #[k16m0]
  instanceTypes := #[]
  staticTypes := #[]
  resolved := Array.replicate 101 none
  statics := none }

def pool17 : Array CpInfo := pool [(1, .class_ 2), (0, u "java/lang/Math"), (1, .class_ 6), (1, u "java/lang/Object"), (0, u "<init>"), (0, u "()V"), (89, .class_ 100), (1, u "java/lang/Math$RandomNumberGeneratorHolder"), (20, u "(JJ)J"), (50, u "negativeZeroFloatBits"), (0, u "J"), (2, u "negativeZeroDoubleBits"), (21, u "max"), (46, u "$assertionsDisabled"), (0, u "Z"), (91, u "twoToTheDoubleScaleDown"), (0, u "D"), (4, u "twoToTheDoubleScaleUp"), (9, u "E"), (3, u "PI"), (2, u "TAU"), (2, u "DEGREES_TO_RADIANS"), (0, u "RADIANS_TO_DEGREES")] 94

def k17m0 : Method := { name := "<init>", desc := "()V", sig := { parameters := [], returnType := none }, accessFlags := 2, code := none }
def k17c1 : Code := { maxStack := 4, maxLocals := 4, code := jdk_29_method_66_code, exceptionTable := #[], attributes := #[] }
def k17m1 : Method := { name := "max", desc := "(JJ)J", sig := { parameters := [.long, .long], returnType := some .long }, accessFlags := 9, code := some k17c1 }
/-- java/lang/Math -/
def k17 : Class := { plain "java/lang/Math" (some 0) with
  accessFlags := 49
  interfaces := #[]
  cf := some (fileOf pool17 1 #[.nestMembers #[98]] #[{ accessFlags := 2, nameIndex := 7, descriptorIndex := 8, attributes := #[] }, { accessFlags := 9, nameIndex := 198, descriptorIndex := 121, attributes := #[] }] 49 4 #[] #[{ accessFlags := 25, nameIndex := 354, descriptorIndex := 339, attributes := #[] }, { accessFlags := 25, nameIndex := 358, descriptorIndex := 339, attributes := #[] }, { accessFlags := 25, nameIndex := 361, descriptorIndex := 339, attributes := #[] }, { accessFlags := 26, nameIndex := 364, descriptorIndex := 339, attributes := #[] }, { accessFlags := 26, nameIndex := 365, descriptorIndex := 339, attributes := #[] }, { accessFlags := 26, nameIndex := 172, descriptorIndex := 173, attributes := #[] }, { accessFlags := 26, nameIndex := 176, descriptorIndex := 173, attributes := #[] }, { accessFlags := 8, nameIndex := 344, descriptorIndex := 339, attributes := #[] }, { accessFlags := 8, nameIndex := 338, descriptorIndex := 339, attributes := #[] }, { accessFlags := 4120, nameIndex := 245, descriptorIndex := 246, attributes := #[] }])
  fields := #[{ name := "E", type := .double, accessFlags := 25, slot := 0, constantValue := 0 }, { name := "PI", type := .double, accessFlags := 25, slot := 1, constantValue := 0 }, { name := "TAU", type := .double, accessFlags := 25, slot := 2, constantValue := 0 }, { name := "DEGREES_TO_RADIANS", type := .double, accessFlags := 26, slot := 3, constantValue := 0 }, { name := "RADIANS_TO_DEGREES", type := .double, accessFlags := 26, slot := 4, constantValue := 0 }, { name := "negativeZeroFloatBits", type := .long, accessFlags := 26, slot := 5, constantValue := 0 }, { name := "negativeZeroDoubleBits", type := .long, accessFlags := 26, slot := 6, constantValue := 0 }, { name := "twoToTheDoubleScaleUp", type := .double, accessFlags := 8, slot := 7, constantValue := 0 }, { name := "twoToTheDoubleScaleDown", type := .double, accessFlags := 8, slot := 8, constantValue := 0 }, { name := "$assertionsDisabled", type := .boolean, accessFlags := 4120, slot := 9, constantValue := 0 }]
  methods := #[k17m0, k17m1]
  instanceTypes := #[]
  staticTypes := #[.double, .double, .double, .double, .double, .long, .long, .double, .double, .boolean]
  resolved := Array.replicate 460 none
  statics := none }

def pool18 : Array CpInfo := pool [(1, u "java/lang/Cloneable"), (0, .class_ 1), (0, u "java/lang/Object"), (0, .class_ 3)] 3

/-- java/lang/Cloneable -/
def k18 : Class := { plain "java/lang/Cloneable" (some 0) with
  accessFlags := 1537
  interfaces := #[]
  cf := some (fileOf pool18 2 #[] #[] 1537 4 #[] #[])
  fields := #[]
  methods := #[]
  instanceTypes := #[]
  staticTypes := #[]
  resolved := Array.replicate 8 none
  statics := none }

/-- the primitive byte -/
def k19 : Class := { plain "byte" none with kind := .primitive 'B', accessFlags := 0x411 }
/-- [B -/
def k20 : Class := { plain "[B" (some 0) with kind := .array 19 .byte, interfaces := #[18, 6], accessFlags := 1041 }

/-- the primitive int -/
def k21 : Class := { plain "int" none with kind := .primitive 'I', accessFlags := 0x411 }
/-- [I -/
def k22 : Class := { plain "[I" (some 0) with kind := .array 21 .int, interfaces := #[18, 6], accessFlags := 1041 }

def classes0 : Array Class := #[k0, k1, k2, k3, k4, k5, k6, k7, k8, k9, k10, k11, k12, k13, k14, k15, k16, k17, k18, k19, k20, k21, k22]
/-- the class that the rule has made for the site at 5 of com/example/log_lag_gauge/loglaggauge/model/PositionLag.timeLagMs -/
def k23 : Class := Jvm.LamKit.madeRec { classes := classes0 } "com/example/log_lag_gauge/loglaggauge/model/PositionLag" (Jvm.Lambda.Shape.mk "java/util/function/Function" "apply" (Jvm.ClassFile.MethodDescriptor.mk ([(Jvm.ClassFile.FieldType.object "java/lang/Object")] : List Jvm.ClassFile.FieldType) (Option.some (Jvm.ClassFile.FieldType.object "java/lang/Object"))) ([(Jvm.ClassFile.FieldType.object "com/example/log_lag_gauge/loglaggauge/model/PositionLag")] : List Jvm.ClassFile.FieldType) (5 : Nat) "com/example/log_lag_gauge/loglaggauge/model/PositionLag" "lambda$timeLagMs$0" (Jvm.ClassFile.MethodDescriptor.mk ([(Jvm.ClassFile.FieldType.object "com/example/log_lag_gauge/loglaggauge/model/PositionLag$RecordsRead")] : List Jvm.ClassFile.FieldType) (Option.some (Jvm.ClassFile.FieldType.object "java/util/OptionalLong"))) false (Jvm.ClassFile.MethodDescriptor.mk ([(Jvm.ClassFile.FieldType.object "com/example/log_lag_gauge/loglaggauge/model/PositionLag$RecordsRead")] : List Jvm.ClassFile.FieldType) (Option.some (Jvm.ClassFile.FieldType.object "java/util/OptionalLong")))) 23

/-- the class that the rule has made for the site at 29 of com/example/log_lag_gauge/loglaggauge/model/PositionLag.lag -/
def k24 : Class := Jvm.LamKit.madeRec { classes := classes0 } "com/example/log_lag_gauge/loglaggauge/model/PositionLag" (Jvm.Lambda.Shape.mk "java/util/function/Predicate" "test" (Jvm.ClassFile.MethodDescriptor.mk ([(Jvm.ClassFile.FieldType.object "java/lang/Object")] : List Jvm.ClassFile.FieldType) (Option.some Jvm.ClassFile.FieldType.boolean)) ([] : List Jvm.ClassFile.FieldType) (5 : Nat) "com/example/log_lag_gauge/loglaggauge/model/PositionLag$RecordsRead" "onlyMarkersLeft" (Jvm.ClassFile.MethodDescriptor.mk ([] : List Jvm.ClassFile.FieldType) (Option.some Jvm.ClassFile.FieldType.boolean)) false (Jvm.ClassFile.MethodDescriptor.mk ([(Jvm.ClassFile.FieldType.object "com/example/log_lag_gauge/loglaggauge/model/PositionLag$RecordsRead")] : List Jvm.ClassFile.FieldType) (Option.some Jvm.ClassFile.FieldType.boolean))) 24

def heap : Heap := #[{ cls := 2, slots := #[.ref 3], vm := .statics 2 },
  { cls := 3, slots := #[.ref 4], vm := .statics 3 },
  { cls := 24, slots := #[], vm := .none },
  { cls := 2, slots := #[.int 0, .long 0], vm := .none },
  { cls := 3, slots := #[.null], vm := .none }]
def classes : Array Class := #[k0, k1, k2, k3, k4, k5, k6, k7, k8, k9, k10, k11, k12, k13, k14, k15, k16, k17, k18, k19, k20, k21, k22, k23, k24]
def interned : List (Array UInt16 × Addr) := []
def slotsUsed : Nat := 5
def theMethod : MethodId := ⟨1, 1⟩
def args0 : Array Value := #[.long 7, .long 9, .int 5, .long 3, .long 4, .long 5]
def aboutOver (below : List Frame) : State where
  vm := { classes := classes, interned := interned.toArray }
  heap := heap
  slotsUsed := slotsUsed
  threads := #[{ frames := .invoking theMethod args0 :: below }]
def below0 : List Frame := [.native { method := ⟨0, 0⟩, args := #[] }]
def about1 : State := aboutOver below0
def p0 : Program := .bare "" "" ""
def e0 : Env := launch0.env 0 0 0
theorem w_frames : about1.frames = Frame.invoking theMethod args0 :: below0 := rfl
set_option maxRecDepth 65536 in
theorem w_args : argsFit about1.vm theMethod args0 = true := by decide +kernel
set_option maxRecDepth 65536 in
theorem w_heap : heapFits about1 = true := by decide +kernel
set_option maxRecDepth 65536 in
theorem w_runnable : about1.curStatus? = some .runnable := by decide +kernel
set_option maxRecDepth 65536 in
theorem w_alone : about1.alone = true := by decide +kernel
set_option maxRecDepth 65536 in
theorem w_named : about1.methodNamed? x = some theMethod := by decide +kernel
set_option maxRecDepth 65536 in
theorem w_hears : about1.hears theMethod below0 = true := by decide +kernel
set_option maxRecDepth 65536 in
theorem w_ripe : about1.ripe theMethod args0 below0 = true := by decide +kernel
theorem w_running : about1.status = .running := rfl
set_option maxRecDepth 65536 in
theorem w_room : about1.hasRoom e0.platform room_1 = true :=
  launch0.hasRoom_least _ room_1 (by decide +kernel) (by decide +kernel) (by decide +kernel) (by decide +kernel) (by decide +kernel) (by decide +kernel)
theorem allAtoms_all (ts : List Jvm.Cond) (a : Array Jvm.Value) (st : Jvm.State) : (allAtoms ts).before a st = ts.all (fun c => c.before a st) := by
  induction ts with
  | nil => rfl
  | cons c t ih =>
    show (Jvm.Cond.and c (allAtoms t)).before a st = _
    rw [Jvm.Cond.before_and, ih, List.all_cons]
def words1 : List Jvm.Cond := Jvm.Cond.code x code maxLocals ret :: tables_1
/-- a 'code' word, met by the world's own term for the bytes: nothing is compared byte by byte -/
theorem code_word {y : MethodName} {bytes : ByteArray} {mx : Nat} {rt : Option FieldType} {a : Array Value} {s : State} {m : MethodId} {meth : Method} {c : Code} (h1 : s.methodNamed? y = some m) (h2 : s.vm.method? m = some meth) (h3 : meth.code = some c) (h4 : c.code = bytes)
    (h5 : (c.maxLocals == mx && c.exceptionTable.isEmpty && decide (c.maxStack ≤ mostOperands) && decide (meth.sig.returnType = rt) && !meth.locks && decide (parseMethodDescriptor y.desc = some meth.sig)) = true) : (Jvm.Cond.code y bytes mx rt).before a s = true := by
  simp only [Bool.and_eq_true, beq_iff_eq, Bool.not_eq_true', decide_eq_true_eq] at h5
  obtain ⟨⟨⟨⟨⟨g1, g2⟩, g3⟩, g4⟩, g5⟩, g6⟩ := h5
  simp [Cond.before, Cond.holds, Cond.value, h1, h2, h3, h4, g1, g2, g3, g4, g5, g6]
def isCode : Jvm.Cond → Bool
  | .code _ _ _ _ => true
  | _ => false
theorem all_split {L : List Jvm.Cond} {P : Jvm.Cond → Bool} (h1 : L.all (fun c => isCode c || P c) = true) (h2 : ∀ c ∈ L.filter isCode, P c = true) : L.all P = true := by
  refine List.all_eq_true.mpr fun c hc => ?_
  have h := List.all_eq_true.mp h1 c hc
  rcases Bool.eq_false_or_eq_true (isCode c) with hi | hi
  · exact h2 c (List.mem_filter.mpr ⟨hc, hi⟩)
  · simpa [hi] using h
set_option maxRecDepth 65536 in
theorem w_c0 : (Jvm.Cond.code x code maxLocals ret).before args0 about1 = true := code_word (m := ⟨1, 1⟩) (meth := k1m1) (c := k1c1) (by decide +kernel) rfl rfl rfl (by decide +kernel)
set_option maxRecDepth 65536 in
theorem w_c1 : (Jvm.Cond.code ({ cls := "java/util/OptionalLong", name := "empty", desc := "()Ljava/util/OptionalLong;" } : Jvm.MethodName) jdk_2650_method_2_code (0 : Nat) (Option.some (Jvm.ClassFile.FieldType.object "java/util/OptionalLong"))).before args0 about1 = true := code_word (m := ⟨2, 1⟩) (meth := k2m1) (c := k2c1) (by decide +kernel) rfl rfl rfl (by decide +kernel)
set_option maxRecDepth 65536 in
theorem w_c2 : (Jvm.Cond.code ({ cls := "java/util/Optional", name := "empty", desc := "()Ljava/util/Optional;" } : Jvm.MethodName) jdk_32_method_1_code (1 : Nat) (Option.some (Jvm.ClassFile.FieldType.object "java/util/Optional"))).before args0 about1 = true := code_word (m := ⟨3, 0⟩) (meth := k3m0) (c := k3c0) (by decide +kernel) rfl rfl rfl (by decide +kernel)
set_option maxRecDepth 65536 in
theorem w_c3 : (Jvm.Cond.code ({ cls := "com/example/log_lag_gauge/loglaggauge/model/PositionLag", name := "<init>", desc := "(JJLjava/util/Optional;)V" } : Jvm.MethodName) prog_13_method_1_code (6 : Nat) (Option.none : Option Jvm.ClassFile.FieldType)).before args0 about1 = true := code_word (m := ⟨5, 0⟩) (meth := k5m0) (c := k5c0) (by decide +kernel) rfl rfl rfl (by decide +kernel)
set_option maxRecDepth 65536 in
theorem w_c4 : (Jvm.Cond.code ({ cls := "java/lang/Record", name := "<init>", desc := "()V" } : Jvm.MethodName) jdk_30_method_1_code (1 : Nat) (Option.none : Option Jvm.ClassFile.FieldType)).before args0 about1 = true := code_word (m := ⟨4, 0⟩) (meth := k4m0) (c := k4c0) (by decide +kernel) rfl rfl rfl (by decide +kernel)
set_option maxRecDepth 65536 in
theorem w_c5 : (Jvm.Cond.code ({ cls := "java/lang/Object", name := "<init>", desc := "()V" } : Jvm.MethodName) object_method_1_code (1 : Nat) (Option.none : Option Jvm.ClassFile.FieldType)).before args0 about1 = true := code_word (m := ⟨0, 0⟩) (meth := k0m0) (c := k0c0) (by decide +kernel) rfl rfl rfl (by decide +kernel)
set_option maxRecDepth 65536 in
theorem w_c6 : (Jvm.Cond.code ({ cls := "java/util/Objects", name := "requireNonNull", desc := "(Ljava/lang/Object;Ljava/lang/String;)Ljava/lang/Object;" } : Jvm.MethodName) jdk_31_method_11_code (2 : Nat) (Option.some (Jvm.ClassFile.FieldType.object "java/lang/Object"))).before args0 about1 = true := code_word (m := ⟨12, 2⟩) (meth := k12m2) (c := k12c2) (by decide +kernel) rfl rfl rfl (by decide +kernel)
set_option maxRecDepth 65536 in
theorem w_c7 : (Jvm.Cond.code ({ cls := "com/example/log_lag_gauge/loglaggauge/model/PositionLag", name := "timeLagMs", desc := "()Ljava/util/OptionalLong;" } : Jvm.MethodName) prog_13_method_4_code (1 : Nat) (Option.some (Jvm.ClassFile.FieldType.object "java/util/OptionalLong"))).before args0 about1 = true := code_word (m := ⟨5, 2⟩) (meth := k5m2) (c := k5c2) (by decide +kernel) rfl rfl rfl (by decide +kernel)
set_option maxRecDepth 65536 in
theorem w_c8 : (Jvm.Cond.code ({ cls := "java/util/Optional", name := "map", desc := "(Ljava/util/function/Function;)Ljava/util/Optional;" } : Jvm.MethodName) jdk_32_method_11_code (2 : Nat) (Option.some (Jvm.ClassFile.FieldType.object "java/util/Optional"))).before args0 about1 = true := code_word (m := ⟨3, 7⟩) (meth := k3m7) (c := k3c7) (by decide +kernel) rfl rfl rfl (by decide +kernel)
set_option maxRecDepth 65536 in
theorem w_c9 : (Jvm.Cond.code ({ cls := "java/util/Objects", name := "requireNonNull", desc := "(Ljava/lang/Object;)Ljava/lang/Object;" } : Jvm.MethodName) jdk_31_method_10_code (1 : Nat) (Option.some (Jvm.ClassFile.FieldType.object "java/lang/Object"))).before args0 about1 = true := code_word (m := ⟨12, 1⟩) (meth := k12m1) (c := k12c1) (by decide +kernel) rfl rfl rfl (by decide +kernel)
set_option maxRecDepth 65536 in
theorem w_c10 : (Jvm.Cond.code ({ cls := "java/util/Optional", name := "isEmpty", desc := "()Z" } : Jvm.MethodName) jdk_32_method_7_code (1 : Nat) (Option.some Jvm.ClassFile.FieldType.boolean)).before args0 about1 = true := code_word (m := ⟨3, 5⟩) (meth := k3m5) (c := k3c5) (by decide +kernel) rfl rfl rfl (by decide +kernel)
set_option maxRecDepth 65536 in
theorem w_c11 : (Jvm.Cond.code ({ cls := "java/util/Optional", name := "orElse", desc := "(Ljava/lang/Object;)Ljava/lang/Object;" } : Jvm.MethodName) jdk_32_method_15_code (2 : Nat) (Option.some (Jvm.ClassFile.FieldType.object "java/lang/Object"))).before args0 about1 = true := code_word (m := ⟨3, 8⟩) (meth := k3m8) (c := k3c8) (by decide +kernel) rfl rfl rfl (by decide +kernel)
set_option maxRecDepth 65536 in
theorem w_c12 : (Jvm.Cond.code ({ cls := "java/util/OptionalLong", name := "isEmpty", desc := "()Z" } : Jvm.MethodName) jdk_2650_method_7_code (1 : Nat) (Option.some Jvm.ClassFile.FieldType.boolean)).before args0 about1 = true := code_word (m := ⟨2, 6⟩) (meth := k2m6) (c := k2c6) (by decide +kernel) rfl rfl rfl (by decide +kernel)
set_option maxRecDepth 65536 in
theorem w_c13 : (Jvm.Cond.code ({ cls := "java/util/OptionalLong", name := "of", desc := "(J)Ljava/util/OptionalLong;" } : Jvm.MethodName) jdk_2650_method_4_code (2 : Nat) (Option.some (Jvm.ClassFile.FieldType.object "java/util/OptionalLong"))).before args0 about1 = true := code_word (m := ⟨2, 3⟩) (meth := k2m3) (c := k2c3) (by decide +kernel) rfl rfl rfl (by decide +kernel)
set_option maxRecDepth 65536 in
theorem w_c14 : (Jvm.Cond.code ({ cls := "java/util/OptionalLong", name := "<init>", desc := "(J)V" } : Jvm.MethodName) jdk_2650_method_3_code (3 : Nat) (Option.none : Option Jvm.ClassFile.FieldType)).before args0 about1 = true := code_word (m := ⟨2, 2⟩) (meth := k2m2) (c := k2c2) (by decide +kernel) rfl rfl rfl (by decide +kernel)
set_option maxRecDepth 65536 in
theorem w_c15 : (Jvm.Cond.code ({ cls := "com/example/log_lag_gauge/loglaggauge/model/PositionLag$RecordsRead", name := "<init>", desc := "(ZLjava/util/OptionalLong;Ljava/util/OptionalLong;J)V" } : Jvm.MethodName) prog_14_method_1_code (6 : Nat) (Option.none : Option Jvm.ClassFile.FieldType)).before args0 about1 = true := code_word (m := ⟨14, 0⟩) (meth := k14m0) (c := k14c0) (by decide +kernel) rfl rfl rfl (by decide +kernel)
set_option maxRecDepth 65536 in
theorem w_c16 : (Jvm.Cond.code ({ cls := "java/util/Optional", name := "of", desc := "(Ljava/lang/Object;)Ljava/util/Optional;" } : Jvm.MethodName) jdk_32_method_3_code (1 : Nat) (Option.some (Jvm.ClassFile.FieldType.object "java/util/Optional"))).before args0 about1 = true := code_word (m := ⟨3, 2⟩) (meth := k3m2) (c := k3c2) (by decide +kernel) rfl rfl rfl (by decide +kernel)
set_option maxRecDepth 65536 in
theorem w_c17 : (Jvm.Cond.code ({ cls := "java/util/Optional", name := "<init>", desc := "(Ljava/lang/Object;)V" } : Jvm.MethodName) jdk_32_method_2_code (2 : Nat) (Option.none : Option Jvm.ClassFile.FieldType)).before args0 about1 = true := code_word (m := ⟨3, 1⟩) (meth := k3m1) (c := k3c1) (by decide +kernel) rfl rfl rfl (by decide +kernel)
set_option maxRecDepth 65536 in
theorem w_c18 : (Jvm.Cond.code ({ cls := "com/example/log_lag_gauge/loglaggauge/model/PositionLag", name := "lambda$timeLagMs$0", desc := "(Lcom/example/log_lag_gauge/loglaggauge/model/PositionLag$RecordsRead;)Ljava/util/OptionalLong;" } : Jvm.MethodName) prog_13_method_14_code (2 : Nat) (Option.some (Jvm.ClassFile.FieldType.object "java/util/OptionalLong"))).before args0 about1 = true := code_word (m := ⟨5, 4⟩) (meth := k5m4) (c := k5c4) (by decide +kernel) rfl rfl rfl (by decide +kernel)
set_option maxRecDepth 65536 in
theorem w_c19 : (Jvm.Cond.code ({ cls := "com/example/log_lag_gauge/loglaggauge/model/PositionLag$RecordsRead", name := "newestTimestamp", desc := "()Ljava/util/OptionalLong;" } : Jvm.MethodName) prog_14_method_7_code (1 : Nat) (Option.some (Jvm.ClassFile.FieldType.object "java/util/OptionalLong"))).before args0 about1 = true := code_word (m := ⟨14, 3⟩) (meth := k14m3) (c := k14c3) (by decide +kernel) rfl rfl rfl (by decide +kernel)
set_option maxRecDepth 65536 in
theorem w_c20 : (Jvm.Cond.code ({ cls := "com/example/log_lag_gauge/loglaggauge/model/PositionLag", name := "behindFirstUnread", desc := "(Lcom/example/log_lag_gauge/loglaggauge/model/PositionLag$RecordsRead;Ljava/util/OptionalLong;)Ljava/util/OptionalLong;" } : Jvm.MethodName) prog_13_method_6_code (5 : Nat) (Option.some (Jvm.ClassFile.FieldType.object "java/util/OptionalLong"))).before args0 about1 = true := code_word (m := ⟨5, 3⟩) (meth := k5m3) (c := k5c3) (by decide +kernel) rfl rfl rfl (by decide +kernel)
set_option maxRecDepth 65536 in
theorem w_c21 : (Jvm.Cond.code ({ cls := "com/example/log_lag_gauge/loglaggauge/model/PositionLag", name := "lag", desc := "()Ljava/util/OptionalLong;" } : Jvm.MethodName) prog_13_method_3_code (3 : Nat) (Option.some (Jvm.ClassFile.FieldType.object "java/util/OptionalLong"))).before args0 about1 = true := code_word (m := ⟨5, 1⟩) (meth := k5m1) (c := k5c1) (by decide +kernel) rfl rfl rfl (by decide +kernel)
set_option maxRecDepth 65536 in
theorem w_c22 : (Jvm.Cond.code ({ cls := "com/example/log_lag_gauge/loglaggauge/model/Trailing", name := "offsets", desc := "(Ljava/util/OptionalLong;Ljava/util/OptionalLong;)Ljava/util/OptionalLong;" } : Jvm.MethodName) prog_18_method_2_code (3 : Nat) (Option.some (Jvm.ClassFile.FieldType.object "java/util/OptionalLong"))).before args0 about1 = true := code_word (m := ⟨15, 1⟩) (meth := k15m1) (c := k15c1) (by decide +kernel) rfl rfl rfl (by decide +kernel)
set_option maxRecDepth 65536 in
theorem w_c23 : (Jvm.Cond.code ({ cls := "java/util/OptionalLong", name := "getAsLong", desc := "()J" } : Jvm.MethodName) jdk_2650_method_5_code (1 : Nat) (Option.some Jvm.ClassFile.FieldType.long)).before args0 about1 = true := code_word (m := ⟨2, 4⟩) (meth := k2m4) (c := k2c4) (by decide +kernel) rfl rfl rfl (by decide +kernel)
set_option maxRecDepth 65536 in
theorem w_c24 : (Jvm.Cond.code ({ cls := "java/util/OptionalLong", name := "isPresent", desc := "()Z" } : Jvm.MethodName) jdk_2650_method_6_code (1 : Nat) (Option.some Jvm.ClassFile.FieldType.boolean)).before args0 about1 = true := code_word (m := ⟨2, 5⟩) (meth := k2m5) (c := k2c5) (by decide +kernel) rfl rfl rfl (by decide +kernel)
set_option maxRecDepth 65536 in
theorem w_c25 : (Jvm.Cond.code ({ cls := "java/util/Optional", name := "ofNullable", desc := "(Ljava/lang/Object;)Ljava/util/Optional;" } : Jvm.MethodName) jdk_32_method_4_code (1 : Nat) (Option.some (Jvm.ClassFile.FieldType.object "java/util/Optional"))).before args0 about1 = true := code_word (m := ⟨3, 3⟩) (meth := k3m3) (c := k3c3) (by decide +kernel) rfl rfl rfl (by decide +kernel)
set_option maxRecDepth 65536 in
theorem w_c26 : (Jvm.Cond.code ({ cls := "java/util/Optional", name := "filter", desc := "(Ljava/util/function/Predicate;)Ljava/util/Optional;" } : Jvm.MethodName) jdk_32_method_10_code (2 : Nat) (Option.some (Jvm.ClassFile.FieldType.object "java/util/Optional"))).before args0 about1 = true := code_word (m := ⟨3, 6⟩) (meth := k3m6) (c := k3c6) (by decide +kernel) rfl rfl rfl (by decide +kernel)
set_option maxRecDepth 65536 in
theorem w_c27 : (Jvm.Cond.code ({ cls := "com/example/log_lag_gauge/loglaggauge/model/PositionLag$RecordsRead", name := "onlyMarkersLeft", desc := "()Z" } : Jvm.MethodName) prog_14_method_5_code (1 : Nat) (Option.some Jvm.ClassFile.FieldType.boolean)).before args0 about1 = true := code_word (m := ⟨14, 1⟩) (meth := k14m1) (c := k14c1) (by decide +kernel) rfl rfl rfl (by decide +kernel)
set_option maxRecDepth 65536 in
theorem w_c28 : (Jvm.Cond.code ({ cls := "java/util/Optional", name := "isPresent", desc := "()Z" } : Jvm.MethodName) jdk_32_method_6_code (1 : Nat) (Option.some Jvm.ClassFile.FieldType.boolean)).before args0 about1 = true := code_word (m := ⟨3, 4⟩) (meth := k3m4) (c := k3c4) (by decide +kernel) rfl rfl rfl (by decide +kernel)
set_option maxRecDepth 65536 in
theorem w_c29 : (Jvm.Cond.code ({ cls := "com/example/log_lag_gauge/loglaggauge/model/PositionLag$RecordsRead", name := "firstUnreadTimestamp", desc := "()Ljava/util/OptionalLong;" } : Jvm.MethodName) prog_14_method_6_code (1 : Nat) (Option.some (Jvm.ClassFile.FieldType.object "java/util/OptionalLong"))).before args0 about1 = true := code_word (m := ⟨14, 2⟩) (meth := k14m2) (c := k14c2) (by decide +kernel) rfl rfl rfl (by decide +kernel)
set_option maxRecDepth 65536 in
theorem w_c30 : (Jvm.Cond.code ({ cls := "com/example/log_lag_gauge/loglaggauge/model/Trailing", name := "ms", desc := "(Ljava/util/OptionalLong;Ljava/util/OptionalLong;)Ljava/util/OptionalLong;" } : Jvm.MethodName) prog_18_method_3_code (3 : Nat) (Option.some (Jvm.ClassFile.FieldType.object "java/util/OptionalLong"))).before args0 about1 = true := code_word (m := ⟨15, 2⟩) (meth := k15m2) (c := k15c2) (by decide +kernel) rfl rfl rfl (by decide +kernel)
set_option maxRecDepth 65536 in
theorem w_c31 : (Jvm.Cond.code ({ cls := "java/lang/Math", name := "max", desc := "(JJ)J" } : Jvm.MethodName) jdk_29_method_66_code (4 : Nat) (Option.some Jvm.ClassFile.FieldType.long)).before args0 about1 = true := code_word (m := ⟨17, 1⟩) (meth := k17m1) (c := k17c1) (by decide +kernel) rfl rfl rfl (by decide +kernel)
set_option maxRecDepth 65536 in
theorem w_c32 : (Jvm.Cond.code ({ cls := "java/util/OptionalLong", name := "orElse", desc := "(J)J" } : Jvm.MethodName) jdk_2650_method_11_code (3 : Nat) (Option.some Jvm.ClassFile.FieldType.long)).before args0 about1 = true := code_word (m := ⟨2, 7⟩) (meth := k2m7) (c := k2c7) (by decide +kernel) rfl rfl rfl (by decide +kernel)
def codes1 : List Jvm.Cond := [Jvm.Cond.code x code maxLocals ret, Jvm.Cond.code ({ cls := "java/util/OptionalLong", name := "empty", desc := "()Ljava/util/OptionalLong;" } : Jvm.MethodName) jdk_2650_method_2_code (0 : Nat) (Option.some (Jvm.ClassFile.FieldType.object "java/util/OptionalLong")), Jvm.Cond.code ({ cls := "java/util/Optional", name := "empty", desc := "()Ljava/util/Optional;" } : Jvm.MethodName) jdk_32_method_1_code (1 : Nat) (Option.some (Jvm.ClassFile.FieldType.object "java/util/Optional")), Jvm.Cond.code ({ cls := "com/example/log_lag_gauge/loglaggauge/model/PositionLag", name := "<init>", desc := "(JJLjava/util/Optional;)V" } : Jvm.MethodName) prog_13_method_1_code (6 : Nat) (Option.none : Option Jvm.ClassFile.FieldType), Jvm.Cond.code ({ cls := "java/lang/Record", name := "<init>", desc := "()V" } : Jvm.MethodName) jdk_30_method_1_code (1 : Nat) (Option.none : Option Jvm.ClassFile.FieldType), Jvm.Cond.code ({ cls := "java/lang/Object", name := "<init>", desc := "()V" } : Jvm.MethodName) object_method_1_code (1 : Nat) (Option.none : Option Jvm.ClassFile.FieldType), Jvm.Cond.code ({ cls := "java/util/Objects", name := "requireNonNull", desc := "(Ljava/lang/Object;Ljava/lang/String;)Ljava/lang/Object;" } : Jvm.MethodName) jdk_31_method_11_code (2 : Nat) (Option.some (Jvm.ClassFile.FieldType.object "java/lang/Object")), Jvm.Cond.code ({ cls := "com/example/log_lag_gauge/loglaggauge/model/PositionLag", name := "timeLagMs", desc := "()Ljava/util/OptionalLong;" } : Jvm.MethodName) prog_13_method_4_code (1 : Nat) (Option.some (Jvm.ClassFile.FieldType.object "java/util/OptionalLong")), Jvm.Cond.code ({ cls := "java/util/Optional", name := "map", desc := "(Ljava/util/function/Function;)Ljava/util/Optional;" } : Jvm.MethodName) jdk_32_method_11_code (2 : Nat) (Option.some (Jvm.ClassFile.FieldType.object "java/util/Optional")), Jvm.Cond.code ({ cls := "java/util/Objects", name := "requireNonNull", desc := "(Ljava/lang/Object;)Ljava/lang/Object;" } : Jvm.MethodName) jdk_31_method_10_code (1 : Nat) (Option.some (Jvm.ClassFile.FieldType.object "java/lang/Object")), Jvm.Cond.code ({ cls := "java/util/Optional", name := "isEmpty", desc := "()Z" } : Jvm.MethodName) jdk_32_method_7_code (1 : Nat) (Option.some Jvm.ClassFile.FieldType.boolean), Jvm.Cond.code ({ cls := "java/util/Optional", name := "orElse", desc := "(Ljava/lang/Object;)Ljava/lang/Object;" } : Jvm.MethodName) jdk_32_method_15_code (2 : Nat) (Option.some (Jvm.ClassFile.FieldType.object "java/lang/Object")), Jvm.Cond.code ({ cls := "java/util/OptionalLong", name := "isEmpty", desc := "()Z" } : Jvm.MethodName) jdk_2650_method_7_code (1 : Nat) (Option.some Jvm.ClassFile.FieldType.boolean), Jvm.Cond.code ({ cls := "java/util/OptionalLong", name := "of", desc := "(J)Ljava/util/OptionalLong;" } : Jvm.MethodName) jdk_2650_method_4_code (2 : Nat) (Option.some (Jvm.ClassFile.FieldType.object "java/util/OptionalLong")), Jvm.Cond.code ({ cls := "java/util/OptionalLong", name := "<init>", desc := "(J)V" } : Jvm.MethodName) jdk_2650_method_3_code (3 : Nat) (Option.none : Option Jvm.ClassFile.FieldType), Jvm.Cond.code ({ cls := "com/example/log_lag_gauge/loglaggauge/model/PositionLag$RecordsRead", name := "<init>", desc := "(ZLjava/util/OptionalLong;Ljava/util/OptionalLong;J)V" } : Jvm.MethodName) prog_14_method_1_code (6 : Nat) (Option.none : Option Jvm.ClassFile.FieldType), Jvm.Cond.code ({ cls := "java/util/Optional", name := "of", desc := "(Ljava/lang/Object;)Ljava/util/Optional;" } : Jvm.MethodName) jdk_32_method_3_code (1 : Nat) (Option.some (Jvm.ClassFile.FieldType.object "java/util/Optional")), Jvm.Cond.code ({ cls := "java/util/Optional", name := "<init>", desc := "(Ljava/lang/Object;)V" } : Jvm.MethodName) jdk_32_method_2_code (2 : Nat) (Option.none : Option Jvm.ClassFile.FieldType), Jvm.Cond.code ({ cls := "com/example/log_lag_gauge/loglaggauge/model/PositionLag", name := "lambda$timeLagMs$0", desc := "(Lcom/example/log_lag_gauge/loglaggauge/model/PositionLag$RecordsRead;)Ljava/util/OptionalLong;" } : Jvm.MethodName) prog_13_method_14_code (2 : Nat) (Option.some (Jvm.ClassFile.FieldType.object "java/util/OptionalLong")), Jvm.Cond.code ({ cls := "com/example/log_lag_gauge/loglaggauge/model/PositionLag$RecordsRead", name := "newestTimestamp", desc := "()Ljava/util/OptionalLong;" } : Jvm.MethodName) prog_14_method_7_code (1 : Nat) (Option.some (Jvm.ClassFile.FieldType.object "java/util/OptionalLong")), Jvm.Cond.code ({ cls := "com/example/log_lag_gauge/loglaggauge/model/PositionLag", name := "behindFirstUnread", desc := "(Lcom/example/log_lag_gauge/loglaggauge/model/PositionLag$RecordsRead;Ljava/util/OptionalLong;)Ljava/util/OptionalLong;" } : Jvm.MethodName) prog_13_method_6_code (5 : Nat) (Option.some (Jvm.ClassFile.FieldType.object "java/util/OptionalLong")), Jvm.Cond.code ({ cls := "com/example/log_lag_gauge/loglaggauge/model/PositionLag", name := "lag", desc := "()Ljava/util/OptionalLong;" } : Jvm.MethodName) prog_13_method_3_code (3 : Nat) (Option.some (Jvm.ClassFile.FieldType.object "java/util/OptionalLong")), Jvm.Cond.code ({ cls := "com/example/log_lag_gauge/loglaggauge/model/Trailing", name := "offsets", desc := "(Ljava/util/OptionalLong;Ljava/util/OptionalLong;)Ljava/util/OptionalLong;" } : Jvm.MethodName) prog_18_method_2_code (3 : Nat) (Option.some (Jvm.ClassFile.FieldType.object "java/util/OptionalLong")), Jvm.Cond.code ({ cls := "java/util/OptionalLong", name := "getAsLong", desc := "()J" } : Jvm.MethodName) jdk_2650_method_5_code (1 : Nat) (Option.some Jvm.ClassFile.FieldType.long), Jvm.Cond.code ({ cls := "java/util/OptionalLong", name := "isPresent", desc := "()Z" } : Jvm.MethodName) jdk_2650_method_6_code (1 : Nat) (Option.some Jvm.ClassFile.FieldType.boolean), Jvm.Cond.code ({ cls := "java/util/Optional", name := "ofNullable", desc := "(Ljava/lang/Object;)Ljava/util/Optional;" } : Jvm.MethodName) jdk_32_method_4_code (1 : Nat) (Option.some (Jvm.ClassFile.FieldType.object "java/util/Optional")), Jvm.Cond.code ({ cls := "java/util/Optional", name := "filter", desc := "(Ljava/util/function/Predicate;)Ljava/util/Optional;" } : Jvm.MethodName) jdk_32_method_10_code (2 : Nat) (Option.some (Jvm.ClassFile.FieldType.object "java/util/Optional")), Jvm.Cond.code ({ cls := "com/example/log_lag_gauge/loglaggauge/model/PositionLag$RecordsRead", name := "onlyMarkersLeft", desc := "()Z" } : Jvm.MethodName) prog_14_method_5_code (1 : Nat) (Option.some Jvm.ClassFile.FieldType.boolean), Jvm.Cond.code ({ cls := "java/util/Optional", name := "isPresent", desc := "()Z" } : Jvm.MethodName) jdk_32_method_6_code (1 : Nat) (Option.some Jvm.ClassFile.FieldType.boolean), Jvm.Cond.code ({ cls := "com/example/log_lag_gauge/loglaggauge/model/PositionLag$RecordsRead", name := "firstUnreadTimestamp", desc := "()Ljava/util/OptionalLong;" } : Jvm.MethodName) prog_14_method_6_code (1 : Nat) (Option.some (Jvm.ClassFile.FieldType.object "java/util/OptionalLong")), Jvm.Cond.code ({ cls := "com/example/log_lag_gauge/loglaggauge/model/Trailing", name := "ms", desc := "(Ljava/util/OptionalLong;Ljava/util/OptionalLong;)Ljava/util/OptionalLong;" } : Jvm.MethodName) prog_18_method_3_code (3 : Nat) (Option.some (Jvm.ClassFile.FieldType.object "java/util/OptionalLong")), Jvm.Cond.code ({ cls := "java/lang/Math", name := "max", desc := "(JJ)J" } : Jvm.MethodName) jdk_29_method_66_code (4 : Nat) (Option.some Jvm.ClassFile.FieldType.long), Jvm.Cond.code ({ cls := "java/util/OptionalLong", name := "orElse", desc := "(J)J" } : Jvm.MethodName) jdk_2650_method_11_code (3 : Nat) (Option.some Jvm.ClassFile.FieldType.long)]
set_option maxRecDepth 65536 in
theorem codes_eq : words1.filter isCode = codes1 := rfl
theorem w_codes : ∀ c ∈ words1.filter isCode, c.before args0 about1 = true := by
  rw [codes_eq]
  intro c hc
  simp only [codes1, List.mem_cons, List.not_mem_nil, or_false] at hc
  rcases hc with rfl | rfl | rfl | rfl | rfl | rfl | rfl | rfl | rfl | rfl | rfl | rfl | rfl | rfl | rfl | rfl | rfl | rfl | rfl | rfl | rfl | rfl | rfl | rfl | rfl | rfl | rfl | rfl | rfl | rfl | rfl | rfl | rfl
  · exact w_c0
  · exact w_c1
  · exact w_c2
  · exact w_c3
  · exact w_c4
  · exact w_c5
  · exact w_c6
  · exact w_c7
  · exact w_c8
  · exact w_c9
  · exact w_c10
  · exact w_c11
  · exact w_c12
  · exact w_c13
  · exact w_c14
  · exact w_c15
  · exact w_c16
  · exact w_c17
  · exact w_c18
  · exact w_c19
  · exact w_c20
  · exact w_c21
  · exact w_c22
  · exact w_c23
  · exact w_c24
  · exact w_c25
  · exact w_c26
  · exact w_c27
  · exact w_c28
  · exact w_c29
  · exact w_c30
  · exact w_c31
  · exact w_c32
set_option maxRecDepth 65536 in
theorem w_t1 : (words1.take 24).all (fun c => isCode c || c.before args0 about1) = true := by decide +kernel
set_option maxRecDepth 65536 in
theorem w_t2 : ((words1.drop 24).take 24).all (fun c => isCode c || c.before args0 about1) = true := by decide +kernel
set_option maxRecDepth 65536 in
theorem w_t3 : (((words1.drop 24).drop 24).take 24).all (fun c => isCode c || c.before args0 about1) = true := by decide +kernel
set_option maxRecDepth 65536 in
theorem w_t4 : ((((words1.drop 24).drop 24).drop 24).take 24).all (fun c => isCode c || c.before args0 about1) = true := by decide +kernel
set_option maxRecDepth 65536 in
theorem w_t5 : (((((words1.drop 24).drop 24).drop 24).drop 24).take 24).all (fun c => isCode c || c.before args0 about1) = true := by decide +kernel
set_option maxRecDepth 65536 in
theorem w_t6 : ((((((words1.drop 24).drop 24).drop 24).drop 24).drop 24).take 24).all (fun c => isCode c || c.before args0 about1) = true := by decide +kernel
set_option maxRecDepth 65536 in
theorem w_t7 : (((((((words1.drop 24).drop 24).drop 24).drop 24).drop 24).drop 24).take 24).all (fun c => isCode c || c.before args0 about1) = true := by decide +kernel
set_option maxRecDepth 65536 in
theorem w_t8 : ((((((((words1.drop 24).drop 24).drop 24).drop 24).drop 24).drop 24).drop 24).take 24).all (fun c => isCode c || c.before args0 about1) = true := by decide +kernel
set_option maxRecDepth 65536 in
theorem w_t9 : ((((((((words1.drop 24).drop 24).drop 24).drop 24).drop 24).drop 24).drop 24).drop 24).all (fun c => isCode c || c.before args0 about1) = true := by decide +kernel
theorem w_tables : (allAtoms (Jvm.Cond.code x code maxLocals ret :: tables_1)).before args0 about1 = true := by
  rw [allAtoms_all]
  show words1.all (fun c => c.before args0 about1) = true
  refine all_split ?_ w_codes
  rw [← List.take_append_drop 24 words1, List.all_append, w_t1, ← List.take_append_drop 24 (words1.drop 24), List.all_append, w_t2, ← List.take_append_drop 24 ((words1.drop 24).drop 24), List.all_append, w_t3, ← List.take_append_drop 24 (((words1.drop 24).drop 24).drop 24), List.all_append, w_t4, ← List.take_append_drop 24 ((((words1.drop 24).drop 24).drop 24).drop 24), List.all_append, w_t5, ← List.take_append_drop 24 (((((words1.drop 24).drop 24).drop 24).drop 24).drop 24), List.all_append, w_t6, ← List.take_append_drop 24 ((((((words1.drop 24).drop 24).drop 24).drop 24).drop 24).drop 24), List.all_append, w_t7, ← List.take_append_drop 24 (((((((words1.drop 24).drop 24).drop 24).drop 24).drop 24).drop 24).drop 24), List.all_append, w_t8, w_t9]
  rfl
set_option maxRecDepth 65536 in
theorem w_rest : rest_1_c.before args0 about1 = true := by decide +kernel
set_option maxRecDepth 65536 in
theorem w_case : (Jvm.Cond.and given_1 narrow_1).before args0 about1 = true := by decide +kernel
theorem w_applies : (headSpec (Jvm.Cond.code x code maxLocals ret :: tables_1) room_1).applies x e0.platform about1 = true :=
  (Spec.applies_iff w_frames).mpr ⟨w_running, w_runnable, w_alone, w_named, w_hears, w_ripe, w_room, w_tables⟩
theorem atStart : AtStart classFile x code maxLocals ret World_1 tables_1 room_1 Calls_1 rest_1 Pre_1 launch0 p0 e0 about1 theMethod args0 below0 :=
  ⟨lists_1, trivial, launch0.admits_env _ _ _, launch0.least_env, fairChoices_fair.cas, fairChoices_fair.clock, w_frames, w_args, w_heap, w_applies, trivial, w_rest, w_case⟩
end start1
theorem witness_1 : WitnessClaimed_1 := ⟨start1.p0, start1.e0, start1.about1, start1.theMethod, start1.args0, start1.below0, start1.atStart⟩
end Jvm.Pilot.@@N@@
