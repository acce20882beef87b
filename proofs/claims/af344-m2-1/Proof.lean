import JvmDerived
import JvmDerived.Pilot.@@N@@Statement
import JvmDerived.Pilot.@@N@@Code
set_option linter.unusedVariables false
set_option linter.unusedSimpArgs false
@@BLOCK:NumsL.lean.txt@@
@@BLOCK:LamKit.lean.txt@@
namespace Jvm.Pilot.@@N@@
open Jvm Jvm.ClassFile Sem Op Lib Jvm.Free Jvm.Stand Jvm.LawKit Jvm.RoadKit Bundle Jvm.Pilot.@@N@@.Jvm.D
/-- from the state T with the frame g on top the method comes to its end, and Q holds there -/
def Goes (p : Program) (l : Launch) (e : Env) (R : Room) (s : State) (m : MethodId) (args : Array Value) (below : List Frame) (meth : Method) (c : Code) (Q : Option Value → Heap → List Loc → Prop) (T : State) (g : JFrame) : Prop :=
  ∃ (T' : State) (v : Option Value) (L : List Loc) (k n : Nat), Stand p l e R s m args below meth c T' L k n ∧ k ≤ R.cells ∧ n ≤ R.slots ∧ (meth.sig.returnType = none → v = none) ∧ Q v T'.heap L ∧
    ∀ fs, (∀ (f : JFrame) (acts : List Action), f.method = m → f.locked = none → f.entered = [] → (doReturn e (T'.setTop f) acts v).1 = T'.setFrames fs) → Steps p.tables e below (T.setTop g) (T'.setFrames fs)
section OwnGoes
variable {p : Program} {l : Launch} {e : Env} {R : Room} {s : State} {m : MethodId} {args : Array Value} {below : List Frame} {meth : Method} {c : Code} {Q : Option Value → Heap → List Loc → Prop} {T T2 : State} {g g2 : JFrame} {L : List Loc} {k n : Nat}
theorem Goes.step (st : ∀ target, Steps p.tables e below (T2.setTop g2) target → Steps p.tables e below (T.setTop g) target) (F : Goes p l e R s m args below meth c Q T2 g2) : Goes p l e R s m args below meth c Q T g := by
  obtain ⟨T', v, L, k, n, X, hk, hn, hv, hq, hs⟩ := F
  exact ⟨T', v, L, k, n, X, hk, hn, hv, hq, fun fs h => st _ (hs fs h)⟩
theorem Goes.cast (q : g = g2) (F : Goes p l e R s m args below meth c Q T g2) : Goes p l e R s m args below meth c Q T g := q ▸ F
theorem Goes.out {maxL : Nat} {s₁ : State} (hl : meth.locks = false) (F : Goes p l e R s m args below meth c Q s₁ (entryFrame m args maxL)) :
    ∃ s₂ o, Steps p.tables e below (s₁.setTop (entryFrame m args maxL)) s₂ ∧ s₂.status = .running ∧ Ended s₂ below o ∧ ∃ v L, o = .returned v ∧ Q v s₂.heap L ∧ FrameEnd s o s₂ L R.cells R.slots := by
  obtain ⟨T', v, L, k, n, X, hk, hn, hv, hq, hs⟩ := F
  obtain ⟨fs, hr, hrun, hended, hW, hsame⟩ := X.leave (v := v) hv hl
  exact ⟨_, _, hs fs hr, hrun, hended, v, L, rfl, hq, ⟨_, rfl⟩, hW, hsame.mono hk hn⟩
theorem Goes.ret {v : Option Value} (X : Stand p l e R s m args below meth c T L k n) (hk : k ≤ R.cells) (hn : n ≤ R.slots) (hv : meth.sig.returnType = none → v = none) (hq : Q v T.heap L)
    (hs : ∀ fs, (∀ (f : JFrame) (acts : List Action), f.method = m → f.locked = none → f.entered = [] → (doReturn e (T.setTop f) acts v).1 = T.setFrames fs) → Steps p.tables e below (T.setTop g) (T.setFrames fs)) : Goes p l e R s m args below meth c Q T g :=
  ⟨T, v, L, k, n, X, hk, hn, hv, hq, hs⟩
/-- the same where String constants may have been interned on the road -/
def GoesW (p : Program) (l : Launch) (e : Env) (R : Room) (s : State) (m : MethodId) (args : Array Value) (below : List Frame) (meth : Method) (c : Code) (Q : Option Value → Heap → List Loc → Prop) (T : State) (g : JFrame) : Prop :=
  ∃ (T' : State) (v : Option Value) (L : List Loc) (k n : Nat) (vm : Vm) (j : Nat), Stand p l e R (s.setVm vm) m args below meth c T' L k n ∧ s.Since vm j ∧ j ≤ T'.heap.size ∧ k ≤ R.cells ∧ n ≤ R.slots ∧ (meth.sig.returnType = none → v = none) ∧ Q v T'.heap L ∧
    ∀ fs, (∀ (f : JFrame) (acts : List Action), f.method = m → f.locked = none → f.entered = [] → (doReturn e (T'.setTop f) acts v).1 = T'.setFrames fs) → Steps p.tables e below (T.setTop g) (T'.setFrames fs)
theorem GoesW.step (st : ∀ target, Steps p.tables e below (T2.setTop g2) target → Steps p.tables e below (T.setTop g) target) (F : GoesW p l e R s m args below meth c Q T2 g2) : GoesW p l e R s m args below meth c Q T g := by
  obtain ⟨T', v, L, k, n, vm, j, X, hS, hj, hk, hn, hv, hq, hs⟩ := F
  exact ⟨T', v, L, k, n, vm, j, X, hS, hj, hk, hn, hv, hq, fun fs h => st _ (hs fs h)⟩
theorem GoesW.cast (q : g = g2) (F : GoesW p l e R s m args below meth c Q T g2) : GoesW p l e R s m args below meth c Q T g := q ▸ F
theorem GoesW.out {maxL : Nat} {s₁ : State} (hl : meth.locks = false) (F : GoesW p l e R s m args below meth c Q s₁ (entryFrame m args maxL)) :
    ∃ s₂ o, Steps p.tables e below (s₁.setTop (entryFrame m args maxL)) s₂ ∧ s₂.status = .running ∧ Ended s₂ below o ∧ ∃ v L, o = .returned v ∧ Q v s₂.heap L ∧ ReturnedEndW s o s₂ L R.cells R.slots := by
  obtain ⟨T', v, L, k, n, vm, j, X, hS, hj, hk, hn, hv, hq, hs⟩ := F
  obtain ⟨fs, hr, hrun, hended, h1, h2, h3, hsame⟩ := X.leaveW (v := v) hS hj hv hl
  exact ⟨_, _, hs fs hr, hrun, hended, v, L, rfl, hq, h1, h2, h3, hsame.mono hk hn⟩
theorem GoesW.ret {v : Option Value} {vm : Vm} {j : Nat} (X : Stand p l e R (s.setVm vm) m args below meth c T L k n) (hS : s.Since vm j) (hj : j ≤ T.heap.size) (hk : k ≤ R.cells) (hn : n ≤ R.slots) (hv : meth.sig.returnType = none → v = none) (hq : Q v T.heap L)
    (hs : ∀ fs, (∀ (f : JFrame) (acts : List Action), f.method = m → f.locked = none → f.entered = [] → (doReturn e (T.setTop f) acts v).1 = T.setFrames fs) → Steps p.tables e below (T.setTop g) (T.setFrames fs)) : GoesW p l e R s m args below meth c Q T g :=
  ⟨T, v, L, k, n, vm, j, X, hS, hj, hk, hn, hv, hq, hs⟩
theorem tw {a0 : Array Value} {Z : State} (hw : ∀ d ∈ tables_1, d.before a0 Z = true) (i : Nat) {d : Jvm.Cond} (h : tables_1[i]? = some d) : d.before a0 Z = true := hw d (List.mem_of_getElem? h)
theorem own_at {T : State} {h : Heap} {a : Addr} {c : Cell} (e : T.heap = h) (q : h[a]? = some c) : T.heap[a]? = some c := by rw [e]; exact q
theorem cmpL_self (x : Int64) : Jvm.Free.XT.cmpL x x = (0 : Int32) := by simp [Jvm.Free.XT.cmpL, Int64.lt_iff_toInt_lt]
theorem own_mvMN {Z s : State} {a0 args : Array Value} {own host : String} {index : Nat} {y : MethodName} (hZ : Z.Warmed39 s.vm) (w : (Jvm.Cond.methodLinkNest own index y host).before a0 Z = true) : (Jvm.Cond.methodLinkNest own index y host).before args s = true := (Cond.methodLinkNest_wide hZ w :)
end OwnGoes
abbrev cRR : String := "com/example/log_lag_gauge/loglaggauge/model/PositionLag$RecordsRead"
abbrev cPL : String := "com/example/log_lag_gauge/loglaggauge/model/PositionLag"
abbrev cOL : String := "java/util/OptionalLong"
abbrev cOP : String := "java/util/Optional"
abbrev dOL : String := "Ljava/util/OptionalLong;"
abbrev dOP : String := "Ljava/util/Optional;"
abbrev dOB : String := "Ljava/lang/Object;"
abbrev cRec : String := "java/lang/Record"
abbrev nIP : String := "isPresent"
abbrev nLT : String := "firstUnreadTimestamp"
abbrev nNT : String := "newestTimestamp"
abbrev nOM : String := "onlyMarkersLeft"
abbrev cMX : Int64 := 9223372036854775807
section OwnShort
variable {p : Program} {l : Launch} {e : Env} {R : Room} {s : State} {m : MethodId} {args : Array Value} {below : List Frame} {meth : Method} {c : Code} {Q : Option Value → Heap → List Loc → Prop} {T : State} {g : JFrame}
theorem gs (T2 : State) (g2 : JFrame) (st : ∀ target, Steps p.tables e below (T2.setTop g2) target → Steps p.tables e below (T.setTop g) target) (F : Goes p l e R s m args below meth c Q T2 g2) : Goes p l e R s m args below meth c Q T g := Goes.step st F
theorem gsW (T2 : State) (g2 : JFrame) (st : ∀ target, Steps p.tables e below (T2.setTop g2) target → Steps p.tables e below (T.setTop g) target) (F : GoesW p l e R s m args below meth c Q T2 g2) : GoesW p l e R s m args below meth c Q T g := GoesW.step st F
end OwnShort
abbrev r0 : Room := ({ frames := 1, cells := 0, slots := 0, locals := 12 } : Room)
abbrev r1 : Room := ({ frames := 2, cells := 1, slots := 2, locals := 27 } : Room)
abbrev r2 : Room := ({ frames := 0, cells := 0, slots := 0, locals := 0 } : Room)
abbrev r3 : Room := ({ frames := 2, cells := 1, slots := 1, locals := 26 } : Room)
abbrev r4 : Room := ({ frames := 1, cells := 0, slots := 0, locals := 14 } : Room)
abbrev r5 : Room := ({ frames := 3, cells := 1, slots := 2, locals := 40 } : Room)
abbrev r6 : Room := ({ frames := 2, cells := 0, slots := 0, locals := 25 } : Room)
abbrev r7 : Room := ({ frames := 3, cells := 2, slots := 4, locals := 41 } : Room)
abbrev r8 : Room := ({ frames := 4, cells := 4, slots := 8, locals := 3073 } : Room)
abbrev r9 : Room := ({ frames := 4, cells := 3, slots := 6, locals := 3073 } : Room)
abbrev r10 : Room := ({ frames := 4, cells := 2, slots := 4, locals := 55 } : Room)
abbrev r11 : Room := ({ frames := 5, cells := 5, slots := 10, locals := 3087 } : Room)
abbrev r12 : Room := ({ frames := 5, cells := 4, slots := 8, locals := 3087 } : Room)
abbrev r13 : Room := ({ frames := 5, cells := 3, slots := 6, locals := 71 } : Room)
abbrev r14 : Room := ({ frames := 7, cells := 4, slots := 7, locals := 97 } : Room)
abbrev r15 : Room := ({ frames := 6, cells := 3, slots := 6, locals := 84 } : Room)
abbrev r16 : Room := ({ frames := 8, cells := 5, slots := 8, locals := 3074 } : Room)
abbrev r17 : Room := ({ frames := 6, cells := 6, slots := 12, locals := 3103 } : Room)
abbrev r18 : Room := ({ frames := 8, cells := 7, slots := 13, locals := 3129 } : Room)
abbrev r19 : Room := ({ frames := 7, cells := 6, slots := 12, locals := 3116 } : Room)
abbrev r20 : Room := ({ frames := 9, cells := 8, slots := 14, locals := 3142 } : Room)
abbrev r21 : Room := ({ frames := 6, cells := 5, slots := 10, locals := 3103 } : Room)
abbrev r22 : Room := ({ frames := 8, cells := 6, slots := 11, locals := 3129 } : Room)
abbrev r23 : Room := ({ frames := 7, cells := 5, slots := 10, locals := 3116 } : Room)
abbrev r24 : Room := ({ frames := 9, cells := 7, slots := 12, locals := 3142 } : Room)
abbrev r25 : Room := ({ frames := 2, cells := 1, slots := 1, locals := 3074 } : Room)
abbrev r26 : Room := ({ frames := 2, cells := 2, slots := 32, locals := 24 } : Room)
abbrev r27 : Room := ({ frames := 2, cells := 4, slots := 148, locals := 24 } : Room)
theorem wle {a b : Nat} (h : a = b) : a ≤ b := Nat.le_of_eq h
theorem pd_0 : parseMethodDescriptor "(Lcom/example/log_lag_gauge/loglaggauge/model/PositionLag$RecordsRead;)Ljava/util/OptionalLong;" = some ⟨[(.object cRR)], some (.object cOL)⟩ := by decide +kernel
theorem pd_1 : parseMethodDescriptor "()Z" = some ⟨[], some .boolean⟩ := by decide +kernel
theorem pd_2 : parseMethodDescriptor "(J)V" = some ⟨[.long], none⟩ := by decide +kernel
theorem pd_3 : parseMethodDescriptor "(Ljava/lang/Object;)Ljava/lang/Object;" = some ⟨[(.object "java/lang/Object")], some (.object "java/lang/Object")⟩ := by decide +kernel
theorem pd_4 : parseMethodDescriptor "(Ljava/lang/Object;)V" = some ⟨[(.object "java/lang/Object")], none⟩ := by decide +kernel
theorem pd_5 : parseMethodDescriptor "()J" = some ⟨[], some .long⟩ := by decide +kernel
theorem pd_6 : parseMethodDescriptor "()Ljava/util/OptionalLong;" = some ⟨[], some (.object cOL)⟩ := by decide +kernel
theorem pd_7 : parseMethodDescriptor "(J)Ljava/util/OptionalLong;" = some ⟨[.long], some (.object cOL)⟩ := by decide +kernel
theorem pd_8 : parseMethodDescriptor "(JJ)J" = some ⟨[.long, .long], some .long⟩ := by decide +kernel
theorem pd_9 : parseMethodDescriptor "(Ljava/lang/Object;)Z" = some ⟨[(.object "java/lang/Object")], some .boolean⟩ := by decide +kernel
theorem pd_10 : parseMethodDescriptor "()Ljava/util/Optional;" = some ⟨[], some (.object cOP)⟩ := by decide +kernel
theorem pd_11 : parseMethodDescriptor "(Ljava/util/OptionalLong;Ljava/util/OptionalLong;)Ljava/util/OptionalLong;" = some ⟨[(.object cOL), (.object cOL)], some (.object cOL)⟩ := by decide +kernel
theorem pd_12 : parseMethodDescriptor "(Ljava/util/function/Predicate;)Ljava/util/Optional;" = some ⟨[(.object "java/util/function/Predicate")], some (.object cOP)⟩ := by decide +kernel
theorem pd_13 : parseMethodDescriptor "(J)J" = some ⟨[.long], some .long⟩ := by decide +kernel
theorem pd_14 : parseMethodDescriptor "(Lcom/example/log_lag_gauge/loglaggauge/model/PositionLag$RecordsRead;Ljava/util/OptionalLong;)Ljava/util/OptionalLong;" = some ⟨[(.object cRR), (.object cOL)], some (.object cOL)⟩ := by decide +kernel
theorem pd_15 : parseMethodDescriptor "(Ljava/lang/Object;)Ljava/util/Optional;" = some ⟨[(.object "java/lang/Object")], some (.object cOP)⟩ := by decide +kernel
theorem pd_16 : parseMethodDescriptor "(Ljava/util/function/Function;)Ljava/util/Optional;" = some ⟨[(.object "java/util/function/Function")], some (.object cOP)⟩ := by decide +kernel
theorem pd_17 : parseMethodDescriptor "()V" = some ⟨[], none⟩ := by decide +kernel
theorem pd_18 : parseMethodDescriptor "(Ljava/lang/Object;Ljava/lang/String;)Ljava/lang/Object;" = some ⟨[(.object "java/lang/Object"), (.object "java/lang/String")], some (.object "java/lang/Object")⟩ := by decide +kernel
theorem pd_19 : parseMethodDescriptor "(JJLjava/util/Optional;)V" = some ⟨[.long, .long, (.object cOP)], none⟩ := by decide +kernel
theorem pd_20 : parseMethodDescriptor "(ZLjava/util/OptionalLong;Ljava/util/OptionalLong;J)V" = some ⟨[.boolean, (.object cOL), (.object cOL), .long], none⟩ := by decide +kernel
abbrev Y0 : MethodName := (⟨cPL, "lambda$ageMs$1", "(Lcom/example/log_lag_gauge/loglaggauge/model/PositionLag$RecordsRead;)Ljava/util/OptionalLong;"⟩ : MethodName)
abbrev Y1 : MethodName := (⟨cRR, nOM, "()Z"⟩ : MethodName)
abbrev Y2 : MethodName := (⟨cOL, "<init>", "(J)V"⟩ : MethodName)
abbrev Y3 : MethodName := (⟨cOL, "of", "(J)Ljava/util/OptionalLong;"⟩ : MethodName)
abbrev Y4 : MethodName := (⟨cOL, "empty", "()Ljava/util/OptionalLong;"⟩ : MethodName)
abbrev Y5 : MethodName := (⟨cOL, nIP, "()Z"⟩ : MethodName)
abbrev Y6 : MethodName := (⟨cOL, "isEmpty", "()Z"⟩ : MethodName)
abbrev Y7 : MethodName := (⟨cOL, "getAsLong", "()J"⟩ : MethodName)
abbrev Y8 : MethodName := (⟨cOL, "orElse", "(J)J"⟩ : MethodName)
abbrev Y9 : MethodName := (⟨"java/util/Objects", "requireNonNull", "(Ljava/lang/Object;Ljava/lang/String;)Ljava/lang/Object;"⟩ : MethodName)
abbrev Y10 : MethodName := (⟨cRec, "<init>", "()V"⟩ : MethodName)
abbrev Y11 : MethodName := (⟨cRR, "lookedAt", "()J"⟩ : MethodName)
abbrev Y12 : MethodName := (⟨cRR, nLT, "()Ljava/util/OptionalLong;"⟩ : MethodName)
abbrev Y13 : MethodName := (⟨"java/util/Objects", "requireNonNull", "(Ljava/lang/Object;)Ljava/lang/Object;"⟩ : MethodName)
abbrev Y14 : MethodName := (⟨cOP, "<init>", "(Ljava/lang/Object;)V"⟩ : MethodName)
abbrev Y15 : MethodName := (⟨cOP, "of", "(Ljava/lang/Object;)Ljava/util/Optional;"⟩ : MethodName)
abbrev Y16 : MethodName := (⟨cOP, "ofNullable", "(Ljava/lang/Object;)Ljava/util/Optional;"⟩ : MethodName)
abbrev Y17 : MethodName := (⟨cOP, "empty", "()Ljava/util/Optional;"⟩ : MethodName)
abbrev Y18 : MethodName := (⟨cOP, "isEmpty", "()Z"⟩ : MethodName)
abbrev Y19 : MethodName := (⟨cOP, nIP, "()Z"⟩ : MethodName)
abbrev Y20 : MethodName := (⟨cOP, "orElse", "(Ljava/lang/Object;)Ljava/lang/Object;"⟩ : MethodName)
abbrev Y21 : MethodName := (⟨"com/example/log_lag_gauge/loglaggauge/model/Trailing", "offsets", "(Ljava/util/OptionalLong;Ljava/util/OptionalLong;)Ljava/util/OptionalLong;"⟩ : MethodName)
abbrev Y22 : MethodName := (⟨"java/lang/Math", "max", "(JJ)J"⟩ : MethodName)
abbrev Y23 : MethodName := (⟨"com/example/log_lag_gauge/loglaggauge/model/Trailing", "ms", "(Ljava/util/OptionalLong;Ljava/util/OptionalLong;)Ljava/util/OptionalLong;"⟩ : MethodName)
abbrev Y24 : MethodName := (⟨"java/util/function/Predicate", "test", "(Ljava/lang/Object;)Z"⟩ : MethodName)
abbrev Y25 : MethodName := (⟨cOP, "filter", "(Ljava/util/function/Predicate;)Ljava/util/Optional;"⟩ : MethodName)
abbrev Y26 : MethodName := (⟨cPL, "lag", "()Ljava/util/OptionalLong;"⟩ : MethodName)
abbrev Y27 : MethodName := (⟨cPL, "behindFirstUnread", "(Lcom/example/log_lag_gauge/loglaggauge/model/PositionLag$RecordsRead;Ljava/util/OptionalLong;)Ljava/util/OptionalLong;"⟩ : MethodName)
abbrev Y28 : MethodName := (⟨"java/util/function/Function", "apply", "(Ljava/lang/Object;)Ljava/lang/Object;"⟩ : MethodName)
abbrev Y29 : MethodName := (⟨cOP, "map", "(Ljava/util/function/Function;)Ljava/util/Optional;"⟩ : MethodName)
abbrev Y30 : MethodName := (⟨cPL, "ageMs", "()Ljava/util/OptionalLong;"⟩ : MethodName)
abbrev Y31 : MethodName := (⟨cPL, "<init>", "(JJLjava/util/Optional;)V"⟩ : MethodName)
abbrev Y32 : MethodName := (⟨cRR, "<init>", "(ZLjava/util/OptionalLong;Ljava/util/OptionalLong;J)V"⟩ : MethodName)
theorem own_fint {s : State} {args : Array Value} {t : Term} {C n d : String} {k : Int32} {a : Addr} (ev : t.eval args s none [] s = some (.ref a)) (h : (Jvm.Cond.eq (.field t C n d) (.int k)).value args s none s [] = some true) : Fld s s.heap a C n d (.int k) := by
  obtain ⟨x', y', e1, e2, k1, k2⟩ := cmp_v (Or.inl h)
  have e3 : y' = .int k := (Option.some.inj ((Term.int_eval k).symm.trans e2)).symm
  subst e3
  obtain ⟨z, rfl⟩ := k2
  have e4 : z = k := by
    simp only [Cond.value, e1, e2] at h
    simpa using h
  subst e4
  rw [fld_at ev] at e1
  exact Fld.start e1
theorem own_flong {s : State} {args : Array Value} {t : Term} {C n d : String} {k : Int64} {a : Addr} (ev : t.eval args s none [] s = some (.ref a)) (h : (Jvm.Cond.eq (.field t C n d) (.long k)).value args s none s [] = some true) : Fld s s.heap a C n d (.long k) := by
  obtain ⟨x', y', e1, e2, k1, k2⟩ := cmp_v (Or.inl h)
  have e3 : y' = .long k := by
    simp only [Term.eval] at e2
    exact (Option.some.inj e2).symm
  subst e3
  obtain ⟨z, rfl⟩ := k2
  have e4 : z = k := by
    simp only [Cond.value, e1, e2] at h
    simpa using h
  subst e4
  rw [fld_at ev] at e1
  exact Fld.start e1
section OwnLam
open Jvm.LamKit Jvm.Lambda
variable {p : Program} {l : Launch} {e : Env} {R : Room} {s : State} {m : MethodId} {args : Array Value} {below : List Frame} {meth : Method} {c : Code} {T : State} {locs : List Loc} {cells slots : Nat} {Z : State} {a0 : Array Value} {h h' : Heap} {Q : Option Value → Heap → List Loc → Prop}
/-- the function object at a: its class, what it holds -/
def FnV (h : Heap) (a : Addr) (cK : ClassId) (vs : Array Value) : Prop := ∃ cell : Cell, h[a]? = some cell ∧ cell.cls = cK ∧ cell.vm = .none ∧ cell.slots = vs
theorem FnV.lt {a : Addr} {cK : ClassId} {vs : Array Value} (F : FnV h a cK vs) : a < h.size := by
  obtain ⟨c, q, -⟩ := F
  exact (Array.getElem?_eq_some_iff.mp q).1
theorem FnV.ext {a : Addr} {cK : ClassId} {vs : Array Value} (F : FnV h a cK vs) (E : Ext h h') : FnV h' a cK vs := by
  obtain ⟨c, q, r⟩ := F
  exact ⟨c, E.2 a c q, r⟩
theorem FnV.keep {a : Addr} {cK : ClassId} {vs : Array Value} {ws : List Addr} (F : FnV h a cK vs) (K : Keep h h' ws) (q : a ∉ ws) : FnV h' a cK vs := by
  obtain ⟨c, q1, r⟩ := F
  exact ⟨c, K.2.1 a c q1 q, r⟩
theorem FnV.other {a b : Addr} {cK : ClassId} {vs : Array Value} {sl : Nat} {v : Value} (F : FnV h b cK vs) (W : Wr h h' a sl v) (q : b ≠ a) : FnV h' b cK vs := F.keep (Keep.of_wr W) fun z => q (List.mem_singleton.mp z)
theorem own_named (hZ : Z.Warmed39 s.vm) {y : MethodName} {t : MethodId} (q : Z.methodNamed? y = some t) : s.methodNamed? y = some t := by
  have r : (Z.setVm s.vm).methodNamed? y = some t := by rw [State.methodNamed?_setVm hZ.alike]; exact q
  exact r
/-- an entry that was resolved stays so -/
theorem own_entry {vm : Vm} (hZ : Z.Warmed39 vm) {d i : Nat} {k : Class} {r : Resolved} (hk : Z.vm.classes[d]? = some k) (hr : k.resolved[i]? = some (some r)) : ∃ k', vm.classes[d]? = some k' ∧ k'.resolved[i]? = some (some r) := by
  obtain ⟨k', a, -, -, q, -⟩ := hZ.2.2.2 d k hk
  refine ⟨k', a, ?_⟩
  rcases q i with q1 | ⟨q1, -⟩
  · rw [q1]; exact hr
  · rw [hr] at q1; cases q1
theorem own_mR {vm : Vm} (hZ : Z.Warmed39 vm) {d i : Nat} {t : MethodId} (q : Z.vm.methodReady d i t) : vm.methodReady d i t := by
  obtain ⟨k, hk, hr⟩ := q
  exact own_entry hZ hk hr
theorem own_cR {vm : Vm} (hZ : Z.Warmed39 vm) {d i : Nat} {t : ClassId} (q : Z.vm.classReady d i t) : vm.classReady d i t := by
  obtain ⟨k, hk, hr⟩ := q
  exact own_entry hZ hk hr
theorem own_fR {vm : Vm} (hZ : Z.Warmed39 vm) {d i c' : Nat} {f : Field} (q : Z.vm.fieldReady d i c' f) : vm.fieldReady d i c' f := by
  obtain ⟨k, j, k2, hk, hr, hk2, hf⟩ := q
  obtain ⟨k', a, b⟩ := own_entry hZ hk hr
  obtain ⟨k2', a2, e2⟩ := hZ.alike.2.2 _ _ hk2
  exact ⟨k', j, k2', a, b, a2, by rw [e2]; exact hf⟩
/-- 'invokedynamic' at a site that captures nothing -/
theorem own_siteConst (X : Stand p l e R s m args below meth c T locs cells slots) (hexec : p.tables.exec = Jvm.exec) (hZ : Z.Warmed39 s.vm) {x : MethodName} {pc index : Nat} {σ : Lambda.Shape} (hnamed : s.methodNamed? x = some m)
    (hsite : (Cond.lambdaSite x pc index σ).before a0 Z = true) (hcap : σ.captured = []) {g : JFrame} (hg : g.method = m) (hpc : g.pc = pc) (hsize : g.locals.size = c.maxLocals)
    (hdg : decode c.code g.pc = .ok (.invokedynamic index, 5)) (hwords : 2 * g.monitorRoom + (g.stack.map fun v => v.category).sum + 3072 ≤ R.locals) :
    ∃ (a : Addr) (cK : ClassId), Jvm.LamKit.Made Z x.cls σ cK ∧ FnV Z.heap a cK #[] ∧ ∀ target, Steps p.tables e below (T.setTop { g with pc := g.pc + 5, stack := .ref a :: g.stack }) target → Steps p.tables e below (T.setTop g) target := by
  obtain ⟨cK, one, hat⟩ := Cond.lambdaSite_spec hsite
  obtain ⟨mD, kD, cfD, i0, p0, lk, hmD, hkD, -, -, -, hfind, hmade, hcan, hl⟩ := State.lambdaAt?_spec hat
  cases hnamed.symm.trans (own_named hZ hmD)
  obtain ⟨kD', hkD', hnameD⟩ := className_of_methodNamed hmD
  cases hkD.symm.trans hkD'
  obtain ⟨kS, hkS, heS⟩ := hZ.alike.2.2 _ _ hkD
  rcases hl with ⟨a, cell, rfl, -, -, hcell, hcls, hvm, hslots⟩ | ⟨-, -, hne⟩
  · have hw : e.platform.lambdaLinkWords = 3072 := by rw [X.admits.platform]
    refine ⟨a, cK, ⟨_, kD, hkD, hnameD, hmade, hcan⟩, ⟨cell, hcell, hcls, hvm, hslots⟩, fun target h => ?_⟩
    exact X.lambdaConstant hexec hg hsize hdg hkS (by rw [hpc, heS]; exact hfind) (by rw [hw]; exact hwords) h
  · exact absurd hcap hne
/-- 'invokedynamic' at a site that captures vals -/
theorem own_siteMakes (X : Stand p l e R s m args below meth c T locs cells slots) (hexec : p.tables.exec = Jvm.exec) (hZ : Z.Warmed39 s.vm) {x : MethodName} {pc index fi : Nat} {σ : Lambda.Shape} (hnamed : s.methodNamed? x = some m)
    (hsite : (Cond.lambdaSite x pc index σ).before a0 Z = true) (hcap : σ.captured ≠ []) (hok : capOK σ x.cls fi 0 = true) (hO : (Cond.instantiable "java/lang/Object" 0).before a0 Z = true) (eT : T.heap = h)
    {g : JFrame} (hg : g.method = m) (hpc : g.pc = pc) (hsize : g.locals.size = c.maxLocals) (hdg : decode c.code g.pc = .ok (.invokedynamic index, 5))
    {vals rest : List Value} (hlen : vals.length = σ.captured.length) (hstack : g.stack = vals.reverse ++ rest) (hfit : ∀ (i : Nat) t v, σ.captured[i]? = some t → vals[i]? = some v → narrow t v = v ∧ fits t v = true)
    (hwords : 2 * g.monitorRoom + (g.stack.map fun v => v.category).sum + 3072 ≤ R.locals) {N : Nat} (hN : vals.length = N) (hcells : cells + 1 ≤ R.cells) (hslots : slots + N ≤ R.slots) :
    ∃ (T' : State) (h' : Heap) (cK : ClassId), Stand p l e R s m args below meth c T' locs (cells + 1) (slots + N) ∧ T'.heap = h' ∧ Ext h h' ∧ FnV h' h.size cK vals.toArray ∧ Jvm.LamKit.Made Z x.cls σ cK ∧
      ∀ target, Steps p.tables e below (T'.setTop { g with pc := g.pc + 5, stack := .ref h.size :: rest }) target → Steps p.tables e below (T.setTop g) target := by
  subst hN
  obtain ⟨cK, one, hat⟩ := Cond.lambdaSite_spec hsite
  obtain ⟨mD, kD, cfD, i0, p0, lk, hmD, hkD, hcfD, hsh, -, hfind, hmade, hcan, hl⟩ := State.lambdaAt?_spec hat
  cases hnamed.symm.trans (own_named hZ hmD)
  obtain ⟨kD', hkD', hnameD⟩ := className_of_methodNamed hmD
  cases hkD.symm.trans hkD'
  obtain ⟨kS, hkS, heS⟩ := hZ.alike.2.2 _ _ hkD
  rcases hl with ⟨a, cell, -, -, hc0, -⟩ | ⟨rfl, -, -⟩
  · exact absurd hc0 hcap
  · obtain ⟨b, nt, desc, site, h1, h2, h3, h4⟩ := shapeOf?_site hsh
    obtain ⟨kc, f, hkc, hkind, hty, -⟩ := made_cap hok hkD hnameD hmade (noFields hO (State.WarmedH.refl Z))
    obtain ⟨kc', hkc', hec⟩ := hZ.alike.2.2 _ _ hkc
    have hty' : kc'.instanceTypes = σ.captured.toArray := by rw [hec]; exact hty
    have hkind' : kc'.kind = .ordinary := by rw [hec]; exact hkind
    have hz : ((kc'.instanceTypes.toList.zip vals).map fun (t, v) => narrow t v) = vals := by rw [hty']; exact zip_narrow _ _ hlen fun i t v a b => (hfit i t v a b).1
    have hw : e.platform.lambdaLinkWords = 3072 := by rw [X.admits.platform]
    have q := X.lambdaMakes hexec hg hsize hdg (vals := vals) (rest := rest) hkS (by rw [hpc, heS]; exact hfind) (by rw [heS]; exact hcfD) h1 h2 (parseLong_of_parse h3) (by rw [h4]; exact hlen) hstack hkc' (by rw [hw]; exact hwords) hcells (by rw [hz]; exact hslots)
      (fun i v hv => by
        rw [hz] at hv
        have hv' : vals[i]? = some v := by simpa using hv
        have hi : i < σ.captured.length := by rw [← hlen]; exact (List.getElem?_eq_some_iff.mp hv').1
        have := (hfit i _ v (List.getElem?_eq_getElem hi) hv').2
        simp [State.fitsSlot, State.slotType?, hkc', hkind', hty', List.getElem?_eq_getElem hi, this])
    rw [hz] at q
    subst eT
    refine ⟨T.pushCell { cls := cK, slots := vals.toArray, vm := .none }, _, cK, by simpa using q.1, rfl, ⟨?_, fun a c1 h => ?_⟩, ⟨{ cls := cK, slots := vals.toArray, vm := .none }, ?_, rfl, rfl, rfl⟩, ⟨_, kD, hkD, hnameD, hmade, hcan⟩, q.2⟩
    · show T.heap.size ≤ (T.heap.push _).size
      simp
    · show (T.heap.push _)[a]? = _
      rw [Array.getElem?_push_lt (Array.getElem?_eq_some_iff.mp h).1]; exact (Array.getElem?_eq_getElem _).symm.trans h
    · show (T.heap.push _)[T.heap.size]? = _
      simp
theorem own_fit1 {C : String} {a : Addr} : ∀ (i : Nat) (t : FieldType) (v : Value), ([FieldType.object C] : List FieldType)[i]? = some t → ([Value.ref a] : List Value)[i]? = some v → narrow t v = v ∧ fits t v = true := by
  intro i t v h1 h2
  cases i with
  | zero => simp at h1 h2; subst h1; subst h2; exact ⟨rfl, rfl⟩
  | succ j => simp at h1
/-- in the forwarder: the captured value number i -/
theorem own_getCap (Y : Stand p l e R s m args below meth c T locs cells slots) (hexec : p.tables.exec = Jvm.exec) (hZ : Z.Warmed39 s.vm) {host : String} {σ : Lambda.Shape} {cK : ClassId} {fi i : Nat} (hm : m = ⟨cK, 1⟩)
    (hmd : Jvm.LamKit.Made Z host σ cK) (hok : capOK σ host fi i = true) (hO : (Cond.instantiable "java/lang/Object" 0).before a0 Z = true) {a : Addr} {vs : Array Value} {v : Value} (eT : T.heap = h) (F : FnV h a cK vs) (hv : vs[i]? = some v)
    {g : JFrame} (hg : g.method = m) {rest : List Value} (hstack : g.stack = .ref a :: rest) (hdg : decode c.code g.pc = .ok (.getfield fi, 3)) {target : State} (k : Steps p.tables e below (T.setTop { g with pc := g.pc + 3, stack := v :: rest }) target) : Steps p.tables e below (T.setTop g) target := by
  obtain ⟨d, dk, hd, hdn, hmade, -⟩ := hmd
  obtain ⟨kc, f, -, -, -, hready, hst, hsl⟩ := made_cap hok hd hdn hmade (noFields hO (State.WarmedH.refl Z))
  obtain ⟨cell, hcell, hcls, hvm, rfl⟩ := F
  have hr := own_fR (wtrans hZ Y.warmed) hready
  have hgk : g.method.cls = cK := by rw [hg, hm]
  subst hg
  jvm_step Y.here [hexec, hdg, getfield.wp_ready (e := e) (s := T) (f := g) (index := fi) (c := cK) (field := f) (a := a) (rest := rest) (cell := cell) (v := v) Y.here.top (by rw [hgk]; exact hr) hst hstack (by rw [eT]; exact hcell) (by rw [hvm]; decide) (by rw [hsl]; exact hv)]
  exact k
/-- the made class's entry cc names the class C -/
def castOK (σ : Lambda.Shape) (host : String) (cc : Nat) (C : String) : Bool :=
  match σ.file host with
  | none => false
  | some D =>
    match D.constantPool[cc]? with
    | some (.class_ n) => decide (D.constantPool.string? n = some C) && decide (cc ≠ D.thisClass)
    | _ => false
theorem own_castReady {σ : Lambda.Shape} {host C : String} {cc : Nat} {cK cC : ClassId} (hok : castOK σ host cc C = true) (hmd : Jvm.LamKit.Made Z host σ cK) (hC : Z.vm.findClass C = some cC) : Z.vm.classReady cK cc cC := by
  obtain ⟨d, dk, hd, hdn, hmade, -⟩ := hmd
  obtain ⟨dk', k, ok, tk, file, cf, object, iface, toy, lay, methods, target, found, hd', hk, hfile, hcf, -, -, -, -, -, -, -, -, -, -, -, -, -, -, -, -, -, -, hres, -⟩ := isMade_spec hmade
  cases hd.symm.trans hd'
  rw [hdn] at hcf
  unfold castOK at hok
  rw [hcf] at hok
  dsimp only at hok
  split at hok
  · rename_i n hc
    simp only [Bool.and_eq_true, decide_eq_true_eq] at hok
    exact ⟨k, hk, hres cc _ (resolvedOf_class hc hok.2 hok.1 hC)⟩
  · cases hok
theorem own_castR (Y : Stand p l e R s m args below meth c T locs cells slots) (hexec : p.tables.exec = Jvm.exec) (hZ : Z.Warmed39 s.vm) {host C : String} {σ : Lambda.Shape} {cK : ClassId} {cc : Nat} (hm : m = ⟨cK, 1⟩)
    (hmd : Jvm.LamKit.Made Z host σ cK) (hok : castOK σ host cc C = true) {a : Addr} (eT : T.heap = h) (F : Ins Z h a C true)
    {g : JFrame} (hg : g.method = m) {rest : List Value} (hstack : g.stack = .ref a :: rest) (hdg : decode c.code g.pc = .ok (.checkcast cc, 3)) {target : State} (k : Steps p.tables e below (T.setTop { g with pc := g.pc + 3 }) target) : Steps p.tables e below (T.setTop g) target := by
  obtain ⟨cell, cT, h1, h2, h3⟩ := F
  simp only [Bool.and_eq_true, Bool.not_eq_true'] at h3
  have hA := (wtrans hZ Y.warmed).alike
  have hr := own_cR (wtrans hZ Y.warmed) (own_castReady hok hmd h2)
  obtain ⟨kT, q1⟩ := Vm.classAt_of_findClass h2
  obtain ⟨kV, q2⟩ := Vm.classAt_of_assignable h3.2 ⟨kT, q1⟩
  obtain ⟨kT', q3, -⟩ := hA.2.2 _ _ q1
  obtain ⟨kV', q4, -⟩ := hA.2.2 _ _ q2
  have has : T.vm.assignable cell.cls cT = true := by rw [hA.assignable]; exact h3.2
  have hgk : g.method.cls = cK := by rw [hg, hm]
  subst hg
  jvm_step Y.here [hexec, hdg, checkcast.wp_ready (e := e) (s := T) (f := g) (index := cc) (c := cT) Y.here.top (by rw [hgk]; exact hr) hstack]
  refine ⟨cell, by rw [eT]; exact h1, VmData.noStatics_of h3.1, kV', q4, kT', q3, ?_⟩
  rw [if_pos has]
  exact k
theorem own_selP {y : MethodName} {n : Nat} (hins : (Cond.instantiable y.cls n).before args s = true) (hp : (Cond.privateMethod y).before args s = true) (hinst : (Cond.instanceMethod y).before args s = true) (hy : y.cls ≠ "java/lang/invoke/MethodHandle" ∧ y.cls ≠ "java/lang/invoke/VarHandle") : (Cond.selects y.cls y y).before args s = true := by
  obtain ⟨c, k, hc, hk, -, hniab, -, -⟩ := Cond.instantiable_spec hins
  exact Jvm.Stand.selects_self_of_private hc hk (Bool.or_eq_false_iff.mp hniab).1 (Cond.privateMethod_at hp) hinst hy
/-- **THE FORWARDER's CALL of an instance method, and its return.** -/
theorem own_fwdGo (Y : Stand p l e R s m args below meth c T [] 0 0) (hexec : p.tables.exec = Jvm.exec) (hZ : Z.Warmed39 s.vm) {host : String} {σ : Lambda.Shape} {cK : ClassId} (hm : m = ⟨cK, 1⟩) (hmd : Jvm.LamKit.Made Z host σ cK)
    {fcode : ByteArray} {fml idx ci pcI : Nat} {fret : Option FieldType} {op : Instr} (hok : fwdOK σ host fcode fml fret idx ci = true) (hby : c.code = fcode) (hml : c.maxLocals = fml) (hret : meth.sig.returnType = fret)
    {y : MethodName} {bytes : ByteArray} {maxL : Nat} {ret : Option FieldType} {rm : Room} {b : Addr} {argsT : List Value}
    (hM : MetFree l y (head1 [Cond.code y bytes maxL ret] rm) (fun a U => a = (Value.ref b :: argsT).toArray ∧ Z.Warmed39 U.vm ∧ U.heap = h) (fun _ _ _ _ _ => True) (fun _ U o U' => ∃ v L, o = .returned v ∧ Q v U'.heap L ∧ FrameEnd U o U' L rm.cells rm.slots))
    (wc : (Cond.code y bytes maxL ret).before a0 Z = true) (wz : (Cond.initialized y.cls).before a0 Z = true) (wi : (Cond.instanceMethod y).before a0 Z = true) {cN : Nat} (wn : (Cond.instantiable y.cls cN).before a0 Z = true)
    (hy : y.cls = σ.implClass ∧ y.name = σ.implName ∧ y.desc = σ.implDesc.toString) (hpoly : y.cls ≠ "java/lang/invoke/MethodHandle" ∧ y.cls ≠ "java/lang/invoke/VarHandle")
    (hsel : ∀ t cell, Z.methodNamed? y = some t → h[b]? = some cell → selectMethod {} Z.vm cell.cls t = .method t) (hcell : ∃ cell : Cell, h[b]? = some cell ∧ ∀ q, cell.vm ≠ .statics q)
    (eT : T.heap = h) (hdI : decode fcode pcI = .ok (.invokevirtual idx, 3)) (hdR : decode fcode (pcI + 3) = .ok (op, 1)) (hlenT : ∀ sig, parseMethodDescriptor y.desc = some sig → argsT.length = sig.parameters.length)
    (hout : ∀ v h L, Q v h L → RetOK fret op v) (hfr : rm.frames + 1 ≤ R.frames) (hlo : 0 + (maxL + 11) + rm.locals ≤ R.locals) (hc : 0 + rm.cells ≤ R.cells) (hs : 0 + rm.slots ≤ R.slots) {L0 : Array Slot} (hsz : L0.size = fml) {stk : List Value} (hstk : stk = argsT.reverse ++ [.ref b]) :
    Goes p l e R s m args below meth c Q T (mkF m pcI L0 stk) := by
  subst hstk
  subst hm
  obtain ⟨cell, hcell, hobj⟩ := hcell
  obtain ⟨d, dk, hd, hdn, hmade, -⟩ := hmd
  obtain ⟨y1, y2, y3⟩ := hy
  obtain ⟨t, methT, hnT, hmT, hstT, habT⟩ := Cond.instanceMethod_spec wi
  obtain ⟨methT', cT, hmT', -, -, -, -, -, -, hsigT⟩ := Cond.code_spec hnT wc
  cases hmT.symm.trans hmT'
  obtain ⟨kT, hkT, hnameT⟩ := className_of_methodNamed hnT
  obtain ⟨c1, k1, n1, n2, -, n3, -, -⟩ := Cond.instantiable_spec wn
  cases (findClass_of_methodNamed hnT).symm.trans n1
  cases hkT.symm.trans n2
  have hiT : kT.isInterface = false := (Bool.or_eq_false_iff.mp n3).1
  obtain ⟨kK, tk, file, methk, ck, toy, t1, nt, hkK, hpn, hfile, hidx, hnt, hmk, hck, hbytes, hmlk, hlk, -, hretk, htoy, htk, hlook, hready, hclsR⟩ := made_static hok hd hdn hmade
  have hfT : Z.vm.findClass σ.implClass = some t.cls := by rw [← y1]; exact findClass_of_methodNamed hnT
  cases htoy.symm.trans hfT
  cases htk.symm.trans hkT
  have ht1 : t1 = t := by
    have h1 : Z.methodFound? y.cls y.name y.desc = some t := State.methodFound?_of_named hnT hpoly
    rw [y1, y2, y3] at h1
    simp only [State.methodFound?, hfT, hkT, Option.bind_eq_bind, Option.bind_some] at h1
    rw [hlook] at h1
    exact Option.some.inj h1
  subst ht1
  have hZT : Z.Warmed39 T.vm := wtrans hZ Y.warmed
  have hA := hZT.alike
  obtain ⟨kK', hkK', heK⟩ := hA.2.2 _ _ hkK
  obtain ⟨kT', hkT', heT⟩ := hA.2.2 _ _ hkT
  have hK := backOf (R := R) (s := s) (args := args) (below := below) (p := p) (e := e) (len := 3) (W := 0) hM hZ wc wz hfr hlo
  obtain ⟨v, ⟨U', ls, cc, sl⟩, Y1, ⟨L, hq, q1, q2, q3⟩, hsteps⟩ := hK ⟨cK, 1⟩ meth c ⟨T, [], 0, 0⟩ (mkF ⟨cK, 1⟩ pcI L0 []) (.invokevirtual idx) t1 (Value.ref b :: argsT).toArray Y rfl (by rw [hml]; exact hsz) (by rw [hby]; exact hdI) (Nat.le_refl _) (own_named hZT hnT) ⟨rfl, eT, hc, hs⟩
  dsimp only [Pt.U, Pt.locs, Pt.cells, Pt.slots] at Y1 hq q1 q2 q3 hsteps
  subst q1 q2 q3
  have hro := hout _ _ _ hq
  have hdI' : decode c.code pcI = .ok (.invokevirtual idx, 3) := by rw [hby]; exact hdI
  refine ⟨U', v, _, _, _, Y1, hc, hs, fun h => ?_, by simpa using hq, fun fs hr => ?_⟩
  · rw [hret] at h
    rcases hro with ⟨t, w, e', -⟩ | ⟨w, e', -⟩ | ⟨t, w, e', -⟩ | ⟨-, -, e'⟩
    · rw [e'] at h; cases h
    · rw [e'] at h; cases h
    · rw [e'] at h; cases h
    · exact e'
  · have hfin := Jvm.LamKit.retOut Y1 hexec (pc := pcI + 3) (Ls := L0) hret hro (by rw [hby]; exact hdR) hr
    have hsp : signaturePolymorphic kT' methT = false := by
      have hn' : kT'.name = y.cls := by rw [heT]; exact hnameT
      simp [signaturePolymorphic, hn', hpoly.1, hpoly.2]
    show Steps p.tables e below (T.setTop { method := ⟨cK, 1⟩, pc := pcI, locals := L0, stack := argsT.reverse ++ [.ref b], locked := none }) _
    jvm_step Y.here [hexec, hdI', invokevirtual.wp_ready (e := e) (s := T) (f := { method := ⟨cK, 1⟩, pc := pcI, locals := L0, stack := argsT.reverse ++ [.ref b], locked := none }) (index := idx) (r := t1) (m := t1) (k := kT') (mk := kT') (rmeth := methT) (meth := methT) (args := argsT) (rest := []) (cell := cell) (a := b) Y.here.top
      ⟨kK', file, ci, nt, t1.cls, kT', hkK', by rw [heK]; exact hfile, hidx, own_cR hZT hclsR, hkT', by rw [heT]; exact hiT⟩ (own_mR hZT hready) hkT' (by rw [hA.method?]; exact hmT) hsp hstT (hlenT _ hsigT) rfl (by rw [eT]; exact hcell) hobj
      (by rw [Launch.admits_selectMethod Y.admits, hA.selectMethod]; exact hsel _ _ hnT hcell) (by rw [hA.method?]; exact hmT) habT hkT' (by rw [heT]; exact hiT)]
    intro acts
    rw [doInvoke_state]
    refine hsteps.trans ?_
    simpa using hfin
/-- **ONE invokeinterface ON A FUNCTION OBJECT**: the caller's step, the forwarder's body, and back. -/
theorem own_callFace (X : Stand p l e R s m args below meth c T locs cells slots) (hexec : p.tables.exec = Jvm.exec) (hZ : Z.Warmed39 s.vm) {own host : String} {index count : Nat} {xi : MethodName} {σ : Lambda.Shape}
    (hown : s.vm.findClass own = some m.cls) (wl : (Cond.methodLink own index xi).before a0 Z = true) (wd : (Cond.declares xi).before a0 Z = true) (wf : (Cond.interfaceMethod xi.cls xi.cls xi.name xi.desc).before a0 Z = true)
    (hxi : xi.cls = σ.iface ∧ xi.name = σ.name ∧ xi.desc = σ.sam.toString) (hpoly : xi.cls ≠ "java/lang/invoke/MethodHandle" ∧ xi.cls ≠ "java/lang/invoke/VarHandle")
    {a : Addr} {cK : ClassId} {vs : Array Value} (hmd : Jvm.LamKit.Made Z host σ cK) (eT : T.heap = h) (hfn : FnV h a cK vs) {fcode : ByteArray} {fml idx ci : Nat} {fret : Option FieldType} (hok : fwdOK σ host fcode fml fret idx ci = true)
    {g : JFrame} (hg : g.method = m) (hsize : g.locals.size = c.maxLocals) {argsL rest : List Value} (hlen : ∀ sig, parseMethodDescriptor xi.desc = some sig → argsL.length = sig.parameters.length) (hstack : g.stack = argsL.reverse ++ .ref a :: rest) (hdg : decode c.code g.pc = .ok (.invokeinterface index count, 5))
    {R' : Room} (hfr : R'.frames + 1 ≤ R.frames) (hlo : 2 * g.monitorRoom + (rest.map fun v => v.category).sum + (fml + 11) + R'.locals ≤ R.locals) (hcells : cells + R'.cells ≤ R.cells) (hslots : slots + R'.slots ≤ R.slots)
    (body : ∀ (s' U : State) (bl : List Frame) (methk : Method) (ck : Code), Stand p l e R' s' ⟨cK, 1⟩ (Value.ref a :: argsL).toArray bl methk ck U [] 0 0 → Z.Warmed39 s'.vm → U.heap = h → methk.sig.returnType = fret → ck.code = fcode → ck.maxLocals = fml →
      Goes p l e R' s' ⟨cK, 1⟩ (Value.ref a :: argsL).toArray bl methk ck Q U (entryFrame ⟨cK, 1⟩ (Value.ref a :: argsL).toArray fml)) :
    ∃ (v : Option Value) (T' : State) (L : List Loc), Stand p l e R s m args below meth c T' (locs ++ L) (cells + R'.cells) (slots + R'.slots) ∧ Q v T'.heap L ∧
      ∀ target, Steps p.tables e below (T'.setTop { g with pc := g.pc + 5, stack := v.toList ++ rest }) target → Steps p.tables e below (T.setTop g) target := by
  have hA := hZ.alike
  obtain ⟨cell, hcell, hcls, hvmc, -⟩ := hfn
  subst hcls
  obtain ⟨kK, methk, hkK, hmk, hpub, habs, hsel⟩ := madeSelects hmd hok wf hxi
  obtain ⟨r0, r, hn, hrm, hstR, hsigR⟩ := Cond.declares_spec wd
  obtain ⟨cL, kL, r1, hcL, hkL, hiL, -, -⟩ := Cond.interfaceMethod_spec wf
  have hr0cls : r0.cls = cL := Option.some.inj ((findClass_of_methodNamed hn).symm.trans hcL)
  obtain ⟨hasg, hsel', hway⟩ := hsel r0 r hn hrm
  obtain ⟨kL', hkL', heL⟩ := hA.2.2 _ _ hkL
  obtain ⟨kK', hkK', -⟩ := hA.2.2 _ _ hkK
  obtain ⟨vm1, X1, hstep1⟩ := X.invokeinterface hexec hown (mv hZ wl) (own_named hZ hn) (by rw [hA.method?]; exact hrm) hstR (by rw [hr0cls]; exact hkL') (by rw [heL]; exact hiL) hpoly (a := a) (cell := cell) (kcell := kK') (by rw [eT]; exact hcell) (fun z q => by rw [hvmc] at q; cases q) hkK' (by rw [hA.assignable]; exact hasg)
    (m' := ⟨cell.cls, 1⟩) (meth' := methk) (by rw [Launch.admits_selectMethod X.admits, hA.selectMethod]; exact hsel') (by rw [hA.method?]; exact hmk) (by simp only [hA.superclasses, hA.declaredIn]; exact hway) hpub habs hg (hlen _ hsigR) hstack hdg
  have hZ1 : Z.Warmed39 (T.setVm vm1).vm := wtrans hZ X1.warmed
  obtain ⟨d, dk, hd, hdn, hmade, -⟩ := hmd
  obtain ⟨kM, tk, file, methM, ck, toy, t1, nt, hkM, hpn, -, -, -, hmM, hck, hbytes, hmlk, hlk, -, hretk, -⟩ := made_static hok hd hdn hmade
  obtain ⟨kM', hkM', heM⟩ := hZ1.alike.2.2 _ _ hkM
  have hpk : (T.setVm vm1).plainMethod ⟨cell.cls, 1⟩ := State.plainMethod.of_name (fun k' hk' => by cases hkM'.symm.trans hk'; rw [heM]; exact hpn)
  obtain ⟨Y0, hin⟩ := X1.into (g := { g with stack := rest }) hg hsize hdg (Value.ref a :: argsL).toArray (R' := R') (by rw [hZ1.alike.method?]; exact hmM) hck hlk hpk hfr (by rw [hmlk]; exact hlo) hcells hslots
  rw [hmlk] at Y0 hin
  have hF := body _ _ _ _ _ Y0 hZ1 eT hretk hbytes hmlk
  obtain ⟨s2, o, hsteps, -, hended, v, L, rfl, hq, -, hWe, hsame⟩ := Goes.out hlk hF
  obtain ⟨T', X', -, -, ht⟩ := X1.outOf (g := { g with stack := rest }) hg hdg hended hWe hsame
  subst ht
  refine ⟨v, T', L, X', hq, fun target k => hstep1 _ fun acts => ?_⟩
  rw [hin acts]
  exact (Steps.weaken (mid := [.java { g with stack := rest }]) hsteps).trans k
end OwnLam
theorem own_fnull {s : State} {args : Array Value} {t : Term} {C n d : String} {a : Addr} (ev : t.eval args s none [] s = some (.ref a)) (h : (Jvm.Cond.eq (.field t C n d) .null).value args s none s [] = some true) : Fld s s.heap a C n d .null := by
  obtain ⟨x', y', e1, e2, k1, k2⟩ := cmp_v (Or.inl h)
  have e3 : y' = .null := by
    simp only [Term.eval] at e2
    exact (Option.some.inj e2).symm
  subst e3
  have e4 : x' = .null := by
    simp only [Cond.value, e1, e2] at h
    cases x' <;> simp_all
  subst e4
  rw [fld_at ev] at e1
  exact Fld.start e1
theorem own_cmp (x y : Int64) : (XT.cmpL x y).toInt = if y.toInt < x.toInt then 1 else if x.toInt = y.toInt then 0 else -1 := by
  unfold XT.cmpL
  simp only [Int64.lt_iff_toInt_lt, ← Int64.toInt_inj]
  split
  · decide
  · split <;> decide
theorem own_sub (x y : Int64) (h1 : - 2 ^ 63 ≤ x.toInt - y.toInt) (h2 : x.toInt - y.toInt < 2 ^ 63) : (x - y).toInt = x.toInt - y.toInt := by
  rw [Int64.toInt_sub]
  exact Int.bmod_eq_of_le (by omega) (by omega)
theorem own_sub0 {o e : Int64} (h : XT.cmpL o e = (0 : Int32)) : ¬ ((0 : Int32) < XT.cmpL (e - o) (0 : Int64)) := by
  have h1 := own_cmp o e
  rw [h] at h1
  have h0 : ((0 : Int32)).toInt = 0 := by decide
  rw [h0] at h1
  have q : o = e := by
    rw [← Int64.toInt_inj]
    split at h1
    · omega
    · split at h1
      · assumption
      · omega
  subst q
  rw [Int64.sub_self, cmpL_self]
  decide
theorem own_subp {o e : Int64} (ho : 0 ≤ o.toInt) (he : 0 ≤ e.toInt) (h1 : ¬ ((0 : Int32) < XT.cmpL o e)) (h2 : ¬ (XT.cmpL o e = (0 : Int32))) : (0 : Int32) < XT.cmpL (e - o) (0 : Int64) := by
  have c1 := own_cmp o e
  have c2 := own_cmp (e - o) 0
  have b1 := Int64.toInt_lt e
  have b2 := Int64.toInt_lt o
  have h0 : ((0 : Int32)).toInt = 0 := by decide
  have h00 : ((0 : Int64)).toInt = 0 := by decide
  rw [Int32.lt_iff_toInt_lt, h0] at h1 ⊢
  rw [← Int32.toInt_inj, h0] at h2
  rw [own_sub e o (by omega) (by omega), h00] at c2
  rw [c2]
  rw [c1] at h1 h2
  split at h1
  · omega
  · rename_i q
    rw [if_neg q] at h2
    split at h2
    · omega
    · rw [if_pos (by omega)]; omega
theorem own_max {t f : Int64} (h1 : - 2 ^ 63 ≤ t.toInt - f.toInt) (h2 : t.toInt - f.toInt < 2 ^ 63) : ((0 : Int32) < XT.cmpL t f) ↔ (XT.cmpL (0 : Int64) (t - f) < (0 : Int32)) := by
  have c1 := own_cmp t f
  have c2 := own_cmp 0 (t - f)
  have h0 : ((0 : Int32)).toInt = 0 := by decide
  have h00 : ((0 : Int64)).toInt = 0 := by decide
  rw [own_sub t f h1 h2, h00] at c2
  rw [Int32.lt_iff_toInt_lt, Int32.lt_iff_toInt_lt, h0, c1, c2]
  split <;> split <;> (try split) <;> (try split) <;> omega
theorem own_pos (x : Int64) : 0 ≤ (x &&& cMX).toInt := by
  have h : (x &&& cMX).toBitVec.msb = false := by
    rw [Int64.toBitVec_and, BitVec.msb_and, show cMX.toBitVec.msb = false by decide, Bool.and_false]
  show 0 ≤ (x &&& cMX).toBitVec.toInt
  rw [BitVec.toInt_eq_toNat_of_msb h]
  exact Int.natCast_nonneg _
theorem own_split2 (o e : Int64) : ((0 : Int32) < XT.cmpL o e) ∨ ¬ ((0 : Int32) < XT.cmpL o e) := Classical.em _
theorem own_split3 (o e : Int64) : ((0 : Int32) < XT.cmpL o e) ∨ (¬ ((0 : Int32) < XT.cmpL o e) ∧ XT.cmpL o e = (0 : Int32)) ∨ (¬ ((0 : Int32) < XT.cmpL o e) ∧ ¬ (XT.cmpL o e = (0 : Int32))) := by
  rcases Classical.em ((0 : Int32) < XT.cmpL o e) with h | h
  · exact Or.inl h
  · rcases Classical.em (XT.cmpL o e = (0 : Int32)) with q | q
    · exact Or.inr (Or.inl ⟨h, q⟩)
    · exact Or.inr (Or.inr ⟨h, q⟩)
theorem own_split4 (o e t f : Int64) : ((0 : Int32) < XT.cmpL o e) ∨ (¬ ((0 : Int32) < XT.cmpL o e) ∧ XT.cmpL o e = (0 : Int32)) ∨ (¬ ((0 : Int32) < XT.cmpL o e) ∧ ¬ (XT.cmpL o e = (0 : Int32)) ∧ (0 : Int32) < XT.cmpL t f) ∨ (¬ ((0 : Int32) < XT.cmpL o e) ∧ ¬ (XT.cmpL o e = (0 : Int32)) ∧ ¬ ((0 : Int32) < XT.cmpL t f)) := by
  rcases own_split3 o e with h | ⟨h, q⟩ | ⟨h, q⟩
  · exact Or.inl h
  · exact Or.inr (Or.inl ⟨h, q⟩)
  · rcases Classical.em ((0 : Int32) < XT.cmpL t f) with r | r
    · exact Or.inr (Or.inr (Or.inl ⟨h, q, r⟩))
    · exact Or.inr (Or.inr (Or.inr ⟨h, q, r⟩))
theorem own_c5 {u : Int32} (h : u = (0 : Int32) ∨ u = (1 : Int32)) (o e : Int64) : (u = (0 : Int32) ∧ (0 : Int32) < XT.cmpL o e) ∨ (u = (1 : Int32) ∧ (0 : Int32) < XT.cmpL o e) ∨ (u = (1 : Int32) ∧ ¬ ((0 : Int32) < XT.cmpL o e)) ∨ (u = (0 : Int32) ∧ ¬ ((0 : Int32) < XT.cmpL o e) ∧ XT.cmpL o e = (0 : Int32)) ∨ (u = (0 : Int32) ∧ ¬ ((0 : Int32) < XT.cmpL o e) ∧ ¬ (XT.cmpL o e = (0 : Int32))) := by
  rcases own_split3 o e with q | ⟨q, r⟩ | ⟨q, r⟩ <;> rcases h with h | h
  · exact Or.inl ⟨h, q⟩
  · exact Or.inr (Or.inl ⟨h, q⟩)
  · exact Or.inr (Or.inr (Or.inr (Or.inl ⟨h, q, r⟩)))
  · exact Or.inr (Or.inr (Or.inl ⟨h, q⟩))
  · exact Or.inr (Or.inr (Or.inr (Or.inr ⟨h, q, r⟩)))
  · exact Or.inr (Or.inr (Or.inl ⟨h, q⟩))
theorem own_lt0 {o e : Int64} (h1 : ¬ ((0 : Int32) < XT.cmpL o e)) (h2 : ¬ (XT.cmpL o e = (0 : Int32))) : XT.cmpL o e < (0 : Int32) := by
  rw [Int32.lt_iff_toInt_lt] at h1 ⊢
  rw [← Int32.toInt_inj] at h2
  have h0 : ((0 : Int32)).toInt = 0 := by decide
  rw [h0] at h1 h2 ⊢
  omega
theorem own_nlt0 {o e : Int64} (h : XT.cmpL o e = (0 : Int32)) : ¬ (XT.cmpL o e < (0 : Int32)) := by rw [h]; decide
theorem own_wsa {Z : State} {a0 : Array Value} (hw : ∀ d ∈ tables_1, d.before a0 Z = true) : ∀ a ∈ Bundle.stringAtoms, a.before a0 Z = true := by
  intro a ha
  simp only [Bundle.stringAtoms, List.mem_cons, List.not_mem_nil, or_false] at ha
  rcases ha with rfl | rfl | rfl | rfl | rfl | rfl | rfl
  · exact tw hw 26 rfl
  · exact tw hw 27 rfl
  · exact tw hw 28 rfl
  · exact tw hw 29 rfl
  · exact tw hw 30 rfl
  · exact tw hw 31 rfl
  · exact tw hw 32 rfl
def sgA : Jvm.Lambda.Shape := (Jvm.Lambda.Shape.mk "java/util/function/Function" "apply" (Jvm.ClassFile.MethodDescriptor.mk ([(Jvm.ClassFile.FieldType.object "java/lang/Object")] : List Jvm.ClassFile.FieldType) (Option.some (Jvm.ClassFile.FieldType.object "java/lang/Object"))) ([(Jvm.ClassFile.FieldType.object cPL)] : List Jvm.ClassFile.FieldType) (5 : Nat) cPL "lambda$ageMs$1" (Jvm.ClassFile.MethodDescriptor.mk ([(Jvm.ClassFile.FieldType.object cRR)] : List Jvm.ClassFile.FieldType) (Option.some (Jvm.ClassFile.FieldType.object cOL))) false (Jvm.ClassFile.MethodDescriptor.mk ([(Jvm.ClassFile.FieldType.object cRR)] : List Jvm.ClassFile.FieldType) (Option.some (Jvm.ClassFile.FieldType.object cOL))))
def sgP : Jvm.Lambda.Shape := (Jvm.Lambda.Shape.mk "java/util/function/Predicate" "test" (Jvm.ClassFile.MethodDescriptor.mk ([(Jvm.ClassFile.FieldType.object "java/lang/Object")] : List Jvm.ClassFile.FieldType) (Option.some Jvm.ClassFile.FieldType.boolean)) ([] : List Jvm.ClassFile.FieldType) (5 : Nat) cRR nOM (Jvm.ClassFile.MethodDescriptor.mk ([] : List Jvm.ClassFile.FieldType) (Option.some Jvm.ClassFile.FieldType.boolean)) false (Jvm.ClassFile.MethodDescriptor.mk ([(Jvm.ClassFile.FieldType.object cRR)] : List Jvm.ClassFile.FieldType) (Option.some Jvm.ClassFile.FieldType.boolean)))
def fwA : ByteArray := .mk #[0x2a, 0xb4, 0x00, 0x0f, 0x2b, 0xc0, 0x00, 0x13, 0xb6, 0x00, 0x19, 0xb0]
def fwP : ByteArray := .mk #[0x2b, 0xc0, 0x00, 0x0e, 0xb6, 0x00, 0x12, 0xac]
set_option maxRecDepth 65536 in
theorem okA : Jvm.LamKit.fwdOK sgA cPL fwA 2 (some (.object "java/lang/Object")) 25 21 = true := by decide +kernel
set_option maxRecDepth 65536 in
theorem okP : Jvm.LamKit.fwdOK sgP cPL fwP 2 (some .boolean) 18 14 = true := by decide +kernel
set_option maxRecDepth 65536 in
theorem cpA : Jvm.LamKit.capOK sgA cPL 15 0 = true := by decide +kernel
set_option maxRecDepth 65536 in
theorem ctA : castOK sgA cPL 19 cRR = true := by decide +kernel
set_option maxRecDepth 65536 in
theorem ctP : castOK sgP cPL 14 cRR = true := by decide +kernel
theorem fwA_0 : decode fwA 0 = .ok (.aload_n 0, 1) := by decide +kernel
theorem fwA_1 : decode fwA 1 = .ok (.getfield 15, 3) := by decide +kernel
theorem fwA_4 : decode fwA 4 = .ok (.aload_n 1, 1) := by decide +kernel
theorem fwA_5 : decode fwA 5 = .ok (.checkcast 19, 3) := by decide +kernel
theorem fwA_8 : decode fwA 8 = .ok (.invokevirtual 25, 3) := by decide +kernel
theorem fwA_11 : decode fwA 11 = .ok (.areturn, 1) := by decide +kernel
theorem fwP_0 : decode fwP 0 = .ok (.aload_n 1, 1) := by decide +kernel
theorem fwP_1 : decode fwP 1 = .ok (.checkcast 14, 3) := by decide +kernel
theorem fwP_4 : decode fwP 4 = .ok (.invokevirtual 18, 3) := by decide +kernel
theorem fwP_7 : decode fwP 7 = .ok (.ireturn, 1) := by decide +kernel
theorem bodyA {p : Program} {l : Launch} {e : Env} {R : Room} {s : State} {below : List Frame} {meth : Method} {c : Code} {U : State} {Z : State} {a0 : Array Value} {h : Heap} {Q : Option Value → Heap → List Loc → Prop} {cK : ClassId} {fa r th : Addr} {rm : Room} (hx : p.tables.exec = Jvm.exec) (Y : Stand p l e R s ⟨cK, 1⟩ #[.ref fa, .ref r] below meth c U [] 0 0) (hZ : Z.Warmed39 s.vm) (hw : ∀ d ∈ tables_1, d.before a0 Z = true) (md : Jvm.LamKit.Made Z cPL sgA cK) (hret : meth.sig.returnType = some (.object "java/lang/Object")) (hby : c.code = fwA) (hml : c.maxLocals = 2) (eU : U.heap = h)
    (G : FnV h fa cK #[.ref th]) (Er : Exa Z h r cRR) (Eth : Exa Z h th cPL) (hM : MetFree l Y0 (head1 [Cond.code Y0 prog_13_method_13_code 2 (some (.object cOL))] rm) (fun a U => a = #[.ref th, .ref r] ∧ Z.Warmed39 U.vm ∧ U.heap = h) (fun _ _ _ _ _ => True) (fun _ U o U' => ∃ v L, o = .returned v ∧ Q v U'.heap L ∧ FrameEnd U o U' L rm.cells rm.slots)) (hout : ∀ v h L, Q v h L → ∃ w, v = some (.ref w)) (hfr : rm.frames + 1 ≤ R.frames) (hlo : 0 + (2 + 11) + rm.locals ≤ R.locals) (hc : 0 + rm.cells ≤ R.cells) (hs : 0 + rm.slots ≤ R.slots) :
    Goes p l e R s ⟨cK, 1⟩ #[.ref fa, .ref r] below meth c Q U (entryFrame ⟨cK, 1⟩ #[.ref fa, .ref r] 2) := by
  refine Goes.cast (g2 := mkF ⟨cK, 1⟩ 0 #[rv fa, rv r] []) (by first | (simp [entryFrame, mkF, argsToLocals, Value.category]; done) | rfl) ?_
  refine Goes.step (T2 := U) (g2 := mkF ⟨cK, 1⟩ 1 #[rv fa, rv r] [(.ref fa)]) (fun _ hr => XS.aloadN Y.here hx rfl (hb hby fwA_0) rfl rfl hr) ?_
  refine Goes.step (T2 := U) (g2 := mkF ⟨cK, 1⟩ 4 #[rv fa, rv r] [(.ref th)]) (fun _ hr => own_getCap Y hx hZ rfl md cpA (tw hw 51 rfl) eU G (v := .ref th) rfl (g := mkF ⟨cK, 1⟩ 1 #[rv fa, rv r] [(.ref fa)]) rfl rfl (hb hby fwA_1) hr) ?_
  refine Goes.step (T2 := U) (g2 := mkF ⟨cK, 1⟩ 5 #[rv fa, rv r] [(.ref r), (.ref th)]) (fun _ hr => XS.aloadN Y.here hx rfl (hb hby fwA_4) rfl rfl hr) ?_
  refine Goes.step (T2 := U) (g2 := mkF ⟨cK, 1⟩ 8 #[rv fa, rv r] [(.ref r), (.ref th)]) (fun _ hr => own_castR Y hx hZ rfl md ctA eU (Ins.self Er) (g := mkF ⟨cK, 1⟩ 5 #[rv fa, rv r] [(.ref r), (.ref th)]) rfl rfl (hb hby fwA_5) hr) ?_
  obtain ⟨cl, kl, c1, c2, c3, c4, -⟩ := id Eth
  exact own_fwdGo Y hx hZ rfl md okA hby hml hret (argsT := [.ref r]) hM (tw hw 128 rfl) (tw hw 13 rfl) (tw hw 126 rfl) (tw hw 12 rfl) ⟨rfl, rfl, by decide +kernel⟩ (by decide) (fun t cell ht _ => by
      obtain ⟨t', mt, q1, q2, -, -⟩ := Cond.instanceMethod_spec (tw hw 126 rfl : (Jvm.Cond.instanceMethod Y0).before a0 Z = true)
      cases ht.symm.trans q1
      exact selectMethod_private q2 (Cond.privateMethod_at (tw hw 127 rfl : (Jvm.Cond.privateMethod Y0).before a0 Z = true) t mt q1 q2))
    ⟨cl, c1, fun q z => by rw [z] at c4; cases c4⟩ eU fwA_8 fwA_11 (lenOf pd_0 rfl) (fun v h L q => by obtain ⟨w, rfl⟩ := hout v h L q; exact Or.inr (Or.inr (Or.inl ⟨_, _, rfl, rfl, rfl, rfl, rfl⟩))) hfr hlo hc hs rfl rfl
theorem bodyP {p : Program} {l : Launch} {e : Env} {R : Room} {s : State} {below : List Frame} {meth : Method} {c : Code} {U : State} {Z : State} {a0 : Array Value} {h : Heap} {Q : Option Value → Heap → List Loc → Prop} {cK : ClassId} {fa r : Addr} {rm : Room} (hx : p.tables.exec = Jvm.exec) (Y : Stand p l e R s ⟨cK, 1⟩ #[.ref fa, .ref r] below meth c U [] 0 0) (hZ : Z.Warmed39 s.vm) (hw : ∀ d ∈ tables_1, d.before a0 Z = true) (md : Jvm.LamKit.Made Z cPL sgP cK) (hret : meth.sig.returnType = some .boolean) (hby : c.code = fwP) (hml : c.maxLocals = 2) (eU : U.heap = h)
    (Er : Exa Z h r cRR) (hM : MetFree l Y1 (head1 [Cond.code Y1 prog_14_method_5_code 1 (some .boolean)] rm) (fun a U => a = #[.ref r] ∧ Z.Warmed39 U.vm ∧ U.heap = h) (fun _ _ _ _ _ => True) (fun _ U o U' => ∃ v L, o = .returned v ∧ Q v U'.heap L ∧ FrameEnd U o U' L rm.cells rm.slots)) (hout : ∀ v h L, Q v h L → v = some (.int (0 : Int32)) ∨ v = some (.int (1 : Int32))) (hfr : rm.frames + 1 ≤ R.frames) (hlo : 0 + (1 + 11) + rm.locals ≤ R.locals) (hc : 0 + rm.cells ≤ R.cells) (hs : 0 + rm.slots ≤ R.slots) :
    Goes p l e R s ⟨cK, 1⟩ #[.ref fa, .ref r] below meth c Q U (entryFrame ⟨cK, 1⟩ #[.ref fa, .ref r] 2) := by
  refine Goes.cast (g2 := mkF ⟨cK, 1⟩ 0 #[rv fa, rv r] []) (by first | (simp [entryFrame, mkF, argsToLocals, Value.category]; done) | rfl) ?_
  refine Goes.step (T2 := U) (g2 := mkF ⟨cK, 1⟩ 1 #[rv fa, rv r] [(.ref r)]) (fun _ hr => XS.aloadN Y.here hx rfl (hb hby fwP_0) rfl rfl hr) ?_
  refine Goes.step (T2 := U) (g2 := mkF ⟨cK, 1⟩ 4 #[rv fa, rv r] [(.ref r)]) (fun _ hr => own_castR Y hx hZ rfl md ctP eU (Ins.self Er) (g := mkF ⟨cK, 1⟩ 1 #[rv fa, rv r] [(.ref r)]) rfl rfl (hb hby fwP_1) hr) ?_
  obtain ⟨cl, kl, c1, c2, c3, c4, -⟩ := id Er
  exact own_fwdGo Y hx hZ rfl md okP hby hml hret (argsT := []) hM (tw hw 173 rfl) (tw hw 96 rfl) (tw hw 172 rfl) (tw hw 95 rfl) ⟨rfl, rfl, by decide +kernel⟩ (by decide) (fun t cell ht hc => by
      cases c1.symm.trans hc
      obtain ⟨c5, r5, m5, q1, q2, q3, q4, -⟩ := Cond.selects_spec ((tw hw 171 rfl) : (Jvm.Cond.selects cRR Y1 Y1).before a0 Z = true)
      cases c2.symm.trans q1
      cases (State.methodFound?_of_named ht (by decide)).symm.trans q2
      cases ht.symm.trans q3
      exact q4)
    ⟨cl, c1, fun q z => by rw [z] at c4; cases c4⟩ eU fwP_4 fwP_7 (lenOf pd_1 rfl) (fun v h L q => by rcases hout v h L q with rfl | rfl <;> exact Or.inl ⟨_, _, rfl, by simp, rfl, rfl, rfl⟩) hfr hlo hc hs rfl rfl
theorem d0_0 : decode jdk_2650_method_3_code 0 = .ok (.aload_n 0, 1) := by decide +kernel
theorem d0_1 : decode jdk_2650_method_3_code 1 = .ok (.invokespecial 1, 3) := by decide +kernel
theorem d0_4 : decode jdk_2650_method_3_code 4 = .ok (.aload_n 0, 1) := by decide +kernel
theorem d0_5 : decode jdk_2650_method_3_code 5 = .ok (.iconst 1, 1) := by decide +kernel
theorem d0_6 : decode jdk_2650_method_3_code 6 = .ok (.putfield 7, 3) := by decide +kernel
theorem d0_9 : decode jdk_2650_method_3_code 9 = .ok (.aload_n 0, 1) := by decide +kernel
theorem d0_10 : decode jdk_2650_method_3_code 10 = .ok (.lload_n 1, 1) := by decide +kernel
theorem d0_11 : decode jdk_2650_method_3_code 11 = .ok (.putfield 13, 3) := by decide +kernel
theorem d0_14 : decode jdk_2650_method_3_code 14 = .ok (.return_, 1) := by decide +kernel
theorem pn_java_util_OptionalLong : plainName cOL = true := by first | (simp [plainName, overriddenIn]; done) | decide +kernel
def Q_rm_oli (Z : State) (a1 : Addr) (q1 : Int64) (h0 : Heap) (n0 : Nat) (v : Option Value) (h : Heap) (L : List Loc) : Prop := v = none ∧ Fr n0 L ∧ Keep h0 h [a1] ∧ Fld Z h a1 cOL nIP "Z" (.int (1 : Int32)) ∧ Fld Z h a1 cOL "value" "J" (.long q1)
set_option maxRecDepth 65536 in
set_option maxHeartbeats 40000000 in
theorem rm_oli (l : Launch) (Z : State) (a0 : Array Value) (hw : ∀ d ∈ tables_1, d.before a0 Z = true) (ws : List Jvm.Cond) (a1 : Addr) (q1 : Int64) (h0 : Heap) (n0 : Nat) (Z0 : n0 ≤ h0.size) (O0 : Old Z n0 h0) (E_a1 : Exa Z h0 a1 cOL) (F_a1_isPresent : Fld Z h0 a1 cOL nIP "Z" (.int (0 : Int32))) (F_a1_value : Fld Z h0 a1 cOL "value" "J" (.long (0 : Int64))) (ge_a1 : n0 ≤ a1) :
    MetFree l Y2 (head1 (Cond.code Y2 jdk_2650_method_3_code 3 none :: ws) r0) (fun a U => a = #[(.ref a1), (.long q1)] ∧ Z.Warmed39 U.vm ∧ U.heap = h0) (fun _ _ _ _ _ => True) (fun _ U o U' => ∃ v L, o = .returned v ∧ Q_rm_oli Z a1 q1 h0 n0 v U'.heap L ∧ FrameEnd U o U' L r0.cells r0.slots) := by
  refine MetFree.of_bodySF (plainFor_of_name pn_java_util_OptionalLong) hisR ?_
  intro p e s m args below meth c s₁ Bd hml0 hP hK
  obtain ⟨rfl, hZ, hh⟩ := hP
  have hx := Bd.exec
  have hby := Bd.bytes
  have hml : c.maxLocals = 3 := hml0
  have hown : s.vm.findClass cOL = some m.cls := findClass_of_methodNamed Bd.named
  have hnm := (name_of_methodNamed Bd.named Bd.method).1
  have X0 : Stand p l e r0 s m #[(.ref a1), (.long q1)] below meth c s₁ [] 0 0 := Stand.of_body Bd
  have e0 : s₁.heap = h0 := by rw [← hh, Bd.state]; rfl
  have N0 := Fr.nil n0
  refine Goes.out (l := l) (c := c) (R := r0) (Q := Q_rm_oli Z a1 q1 h0 n0) Bd.notSynchronized ?_
  refine Goes.cast (g2 := mkF m 0 #[rv a1, .val (.long q1), .second] []) (by first | (simp [entryFrame, mkF, argsToLocals, Value.category]; done) | rfl) ?_
  have K0 : Keep h0 h0 [a1] := Keep.refl h0 _
  refine gs s₁ (mkF m 1 #[rv a1, .val (.long q1), .second] [(.ref a1)]) (fun _ hr => XS.aloadN X0.here hx rfl (hb hby d0_0) rfl rfl hr) ?_
  obtain ⟨T2, X2, e2, st2⟩ := initO X0 hx hZ hown (tw hw 91 rfl) (tw hw 23 rfl) (tw hw 24 rfl) e0 (g := (mkF m 1 #[rv a1, .val (.long q1), .second] [(.ref a1)])) rfl (by rw [hml]; rfl) rfl (hb hby d0_1) (by decide) (W := 0) (wle rfl) (by decide)
  refine gs T2 (mkF m 4 #[rv a1, .val (.long q1), .second] []) st2 ?_
  refine gs T2 (mkF m 5 #[rv a1, .val (.long q1), .second] [(.ref a1)]) (fun _ hr => XS.aloadN X2.here hx rfl (hb hby d0_4) rfl rfl hr) ?_
  refine gs T2 (mkF m 6 #[rv a1, .val (.long q1), .second] [(.int (1 : Int32)), (.ref a1)]) (fun _ hr => XS.iconst X2.here hx rfl (hb hby d0_5) hr) ?_
  obtain ⟨T3, h3, X3, e3, W3, st3⟩ := putFN X2 hx hZ hown (tw hw 81 rfl) Via.refl e2 F_a1_isPresent E_a1 (Or.inr ⟨(tw hw 82 rfl), rfl, hnm⟩) (tw hw 87 rfl) (ty := .boolean) (v' := (.int (1 : Int32))) (by decide) rfl rfl (g := (mkF m 6 #[rv a1, .val (.long q1), .second] [(.int (1 : Int32)), (.ref a1)])) rfl rfl (hb hby d0_6)
  have E_a1_3 : Exa Z h3 a1 cOL := E_a1.wr W3
  have F_a1_value_3 : Fld Z h3 a1 cOL "value" "J" (.long (0 : Int64)) := F_a1_value.other W3 (Or.inr (slot_ne (Or.inr (tw hw 93 rfl)) (Or.inr (tw hw 82 rfl)) (by decide) (t := .long) (t' := .boolean) (by decide) (by decide)))
  have K3 : Keep h0 h3 [a1] := K0.wr W3 (Or.inl (List.mem_of_getElem? (i := 0) rfl))
  have N3 := Fr.snoc X3 N0 ge_a1
  have F_a1_isPresent_3 : Fld Z h3 a1 cOL nIP "Z" (.int (1 : Int32)) := F_a1_isPresent.same W3
  refine gs T3 (mkF m 9 #[rv a1, .val (.long q1), .second] []) st3 ?_
  refine gs T3 (mkF m 10 #[rv a1, .val (.long q1), .second] [(.ref a1)]) (fun _ hr => XS.aloadN X3.here hx rfl (hb hby d0_9) rfl rfl hr) ?_
  refine gs T3 (mkF m 11 #[rv a1, .val (.long q1), .second] [(.long q1), (.ref a1)]) (fun _ hr => XT.lloadN X3.here hx rfl (hb hby d0_10) rfl hr) ?_
  obtain ⟨T4, h4, X4, e4, W4, st4⟩ := putF X3 hx hZ hown (host := "") (Or.inl (tw hw 92 rfl)) Via.refl e3 F_a1_value_3 E_a1_3 (Or.inr ⟨(tw hw 93 rfl), rfl, hnm⟩) (tw hw 87 rfl) (ty := .long) (by decide) rfl rfl (g := (mkF m 11 #[rv a1, .val (.long q1), .second] [(.long q1), (.ref a1)])) rfl rfl (hb hby d0_11)
  have F_a1_isPresent_4 : Fld Z h4 a1 cOL nIP "Z" (.int (1 : Int32)) := F_a1_isPresent_3.other W4 (Or.inr (slot_ne (Or.inr (tw hw 82 rfl)) (Or.inr (tw hw 93 rfl)) (by decide) (t := .boolean) (t' := .long) (by decide) (by decide)))
  have K4 : Keep h0 h4 [a1] := K3.wr W4 (Or.inl (List.mem_of_getElem? (i := 0) rfl))
  have N4 := Fr.snoc X4 N3 ge_a1
  have F_a1_value_4 : Fld Z h4 a1 cOL "value" "J" (.long q1) := F_a1_value_3.same W4
  refine gs T4 (mkF m 14 #[rv a1, .val (.long q1), .second] []) st4 ?_
  exact Goes.ret (v := none) X4 (by decide) (by decide) (fun _ => rfl) (by show Q_rm_oli Z a1 q1 h0 n0 _ T4.heap _; rw [e4]; exact ⟨rfl, N4, K4, F_a1_isPresent_4, F_a1_value_4⟩) (fun fs hr => X4.returnOut hx Bd.returns (hb hby d0_14) hr)
theorem d1_0 : decode jdk_2650_method_4_code 0 = .ok (.new 8, 3) := by decide +kernel
theorem d1_3 : decode jdk_2650_method_4_code 3 = .ok (.dup, 1) := by decide +kernel
theorem d1_4 : decode jdk_2650_method_4_code 4 = .ok (.lload_n 0, 1) := by decide +kernel
theorem d1_5 : decode jdk_2650_method_4_code 5 = .ok (.invokespecial 21, 3) := by decide +kernel
theorem d1_8 : decode jdk_2650_method_4_code 8 = .ok (.areturn, 1) := by decide +kernel
def Q_rm_olof (Z : State) (q1 : Int64) (h0 : Heap) (n0 : Nat) (v : Option Value) (h : Heap) (L : List Loc) : Prop := ∃ w : Addr, v = some (.ref w) ∧ Fr n0 L ∧ Keep h0 h [] ∧ h0.size ≤ w ∧ Exa Z h w cOL ∧ Fld Z h w cOL nIP "Z" (.int (1 : Int32)) ∧ Fld Z h w cOL "value" "J" (.long q1)
set_option maxRecDepth 65536 in
set_option maxHeartbeats 40000000 in
theorem rm_olof (l : Launch) (Z : State) (a0 : Array Value) (hw : ∀ d ∈ tables_1, d.before a0 Z = true) (ws : List Jvm.Cond) (q1 : Int64) (h0 : Heap) (n0 : Nat) (Z0 : n0 ≤ h0.size) (O0 : Old Z n0 h0) :
    MetFree l Y3 (head1 (Cond.code Y3 jdk_2650_method_4_code 2 (some (.object cOL)) :: ws) r1) (fun a U => a = #[(.long q1)] ∧ Z.Warmed39 U.vm ∧ U.heap = h0) (fun _ _ _ _ _ => True) (fun _ U o U' => ∃ v L, o = .returned v ∧ Q_rm_olof Z q1 h0 n0 v U'.heap L ∧ FrameEnd U o U' L r1.cells r1.slots) := by
  refine MetFree.of_bodySF (plainFor_of_name pn_java_util_OptionalLong) hisR ?_
  intro p e s m args below meth c s₁ Bd hml0 hP hK
  obtain ⟨rfl, hZ, hh⟩ := hP
  have hx := Bd.exec
  have hby := Bd.bytes
  have hml : c.maxLocals = 2 := hml0
  have hown : s.vm.findClass cOL = some m.cls := findClass_of_methodNamed Bd.named
  have hnm := (name_of_methodNamed Bd.named Bd.method).1
  have X0 : Stand p l e r1 s m #[(.long q1)] below meth c s₁ [] 0 0 := Stand.of_body Bd
  have e0 : s₁.heap = h0 := by rw [← hh, Bd.state]; rfl
  have N0 := Fr.nil n0
  refine Goes.out (l := l) (c := c) (R := r1) (Q := Q_rm_olof Z q1 h0 n0) Bd.notSynchronized ?_
  refine Goes.cast (g2 := mkF m 0 #[.val (.long q1), .second] []) (by first | (simp [entryFrame, mkF, argsToLocals, Value.category]; done) | rfl) ?_
  have K0 : Keep h0 h0 [] := Keep.refl h0 _
  have hws : ∀ x ∈ ([] : List Addr), n0 ≤ x := all0
  obtain ⟨T5, h5, X5, e5, E5, A5, D5, -, st5⟩ := newO X0 hx hZ hown (tw hw 86 rfl) (tw hw 87 rfl) (tw hw 3 rfl) e0 (g := (mkF m 0 #[.val (.long q1), .second] [])) rfl (hb hby d1_0) (by decide) (by decide)
  obtain ⟨b5, g5⟩ : ∃ z, z = h0.size := ⟨_, rfl⟩
  rw [← g5] at A5 D5 st5
  have sz_b5 : h0.size ≤ b5 := Nat.le_trans K0.1 (Nat.le_of_eq g5.symm)
  have ge_b5 : n0 ≤ b5 := Nat.le_trans Z0 sz_b5
  have K5 : Keep h0 h5 [] := K0.ext E5
  have F_b5_isPresent_5 : Fld Z h5 b5 cOL nIP "Z" (.int (0 : Int32)) := D5 (Or.inr (tw hw 82 rfl)) (ty := .boolean) (by decide)
  have F_b5_value_5 : Fld Z h5 b5 cOL "value" "J" (.long (0 : Int64)) := D5 (Or.inr (tw hw 93 rfl)) (ty := .long) (by decide)
  refine gs T5 (mkF m 3 #[.val (.long q1), .second] [(.ref b5)]) st5 ?_
  refine gs T5 (mkF m 4 #[.val (.long q1), .second] [(.ref b5), (.ref b5)]) (fun _ hr => XS.dup X5.here hx rfl (hb hby d1_3) rfl rfl hr) ?_
  refine gs T5 (mkF m 5 #[.val (.long q1), .second] [(.long q1), (.ref b5), (.ref b5)]) (fun _ hr => XT.lloadN X5.here hx rfl (hb hby d1_4) rfl hr) ?_
  have Zs6 : n0 ≤ h5.size := Nat.le_trans Z0 K5.1
  obtain ⟨_, _, ⟨T7, L7, k7, n7⟩, -, X7, ⟨Lc7, hQ7, l7, y7, z7⟩, st7⟩ := X5.specialBack hx (y := Y2) rfl hown (mvT hZ (tw hw 88 rfl)) (mvT hZ (tw hw 89 rfl)) (mvT hZ (tw hw 90 rfl)) (by decide) (backOf (W := 1) (rm_oli l Z a0 hw [] b5 q1 h5 n0 Zs6 (Old.keep O0 K5 hws) A5 F_b5_isPresent_5 F_b5_value_5 ge_b5) hZ (tw hw 90 rfl) (tw hw 3 rfl) (by decide) (by decide)) (g := (mkF m 5 #[.val (.long q1), .second] [(.long q1), (.ref b5), (.ref b5)])) rfl (by rw [hml]; rfl) (Steps.refl _) (a := b5) (argsL := [(.long q1)]) (rest := [(.ref b5)]) (lenOf pd_2 rfl) rfl (wle rfl) (hb hby d1_5) (fun _ _ => ⟨rfl, e5, (by decide : 1 + 0 ≤ _), (by decide : 2 + 0 ≤ _)⟩)
  dsimp only [Pt.U, Pt.locs, Pt.cells, Pt.slots] at X7 l7 y7 z7 st7 hQ7
  subst l7 y7 z7
  obtain ⟨rfl, N7q, Kc7, P7_0, P7_1⟩ := hQ7
  have N7 := Fr.app N0 N7q
  have E_b5_7 : Exa Z T7.heap b5 cOL := A5.keep Kc7
  have K7 : Keep h0 T7.heap [] := K5.trans Kc7 (allS (Or.inr sz_b5) all0)
  have F_b5_isPresent_7c : Fld Z T7.heap b5 cOL nIP "Z" (.int (1 : Int32)) := P7_0
  have F_b5_value_7c : Fld Z T7.heap b5 cOL "value" "J" (.long q1) := P7_1
  refine gs T7 (mkF m 8 #[.val (.long q1), .second] [(.ref b5)]) (fun _ hr => st7.trans hr) ?_
  exact Goes.ret (v := some (.ref b5)) X7 (by decide) (by decide) (fun h => by rw [Bd.returns] at h; cases h) (by show Q_rm_olof Z q1 h0 n0 _ T7.heap _; exact ⟨b5, rfl, N7, K7, sz_b5, E_b5_7, F_b5_isPresent_7c, F_b5_value_7c⟩) (fun fs hr => retOut X7 hx Bd.returns rfl (Or.inr (Or.inr (Or.inr (Or.inr ⟨rfl, rfl, rfl⟩)))) (hb hby d1_8) hr)
theorem d2_0 : decode jdk_2650_method_2_code 0 = .ok (.getstatic 17, 3) := by decide +kernel
theorem d2_3 : decode jdk_2650_method_2_code 3 = .ok (.areturn, 1) := by decide +kernel
def Q_rm_olem (Z : State) (em : Addr) (h0 : Heap) (n0 : Nat) (v : Option Value) (h : Heap) (L : List Loc) : Prop := v = some (.ref em) ∧ Fr n0 L ∧ h = h0
set_option maxRecDepth 65536 in
set_option maxHeartbeats 40000000 in
theorem rm_olem (l : Launch) (Z : State) (a0 : Array Value) (hw : ∀ d ∈ tables_1, d.before a0 Z = true) (ws : List Jvm.Cond) (em : Addr) (h0 : Heap) (n0 : Nat) (Z0 : n0 ≤ h0.size) (O0 : Old Z n0 h0) (S_OptionalLong_EMPTY_old : Sta Z Z.heap cOL "EMPTY" dOL (.ref em)) :
    MetFree l Y4 (head1 (Cond.code Y4 jdk_2650_method_2_code 0 (some (.object cOL)) :: ws) r2) (fun a U => a = #[] ∧ Z.Warmed39 U.vm ∧ U.heap = h0) (fun _ _ _ _ _ => True) (fun _ U o U' => ∃ v L, o = .returned v ∧ Q_rm_olem Z em h0 n0 v U'.heap L ∧ FrameEnd U o U' L r2.cells r2.slots) := by
  refine MetFree.of_bodySF (plainFor_of_name pn_java_util_OptionalLong) hisR ?_
  intro p e s m args below meth c s₁ Bd hml0 hP hK
  obtain ⟨rfl, hZ, hh⟩ := hP
  have hx := Bd.exec
  have hby := Bd.bytes
  have hml : c.maxLocals = 0 := hml0
  have hown : s.vm.findClass cOL = some m.cls := findClass_of_methodNamed Bd.named
  have hnm := (name_of_methodNamed Bd.named Bd.method).1
  have X0 : Stand p l e r2 s m #[] below meth c s₁ [] 0 0 := Stand.of_body Bd
  have e0 : s₁.heap = h0 := by rw [← hh, Bd.state]; rfl
  have N0 := Fr.nil n0
  refine Goes.out (l := l) (c := c) (R := r2) (Q := Q_rm_olem Z em h0 n0) Bd.notSynchronized ?_
  refine Goes.cast (g2 := mkF m 0 #[] []) (by first | (simp [entryFrame, mkF, argsToLocals, Value.category]; done) | rfl) ?_
  have K0 : Keep h0 h0 [] := Keep.refl h0 _
  have hws : ∀ x ∈ ([] : List Addr), n0 ≤ x := all0
  obtain ⟨T8, X8, e8, st8⟩ := getS2 X0 hx hZ hown (host := "") (Or.inl (tw hw 5 rfl)) Via.refl e0 (S_OptionalLong_EMPTY_old.ext (Old.keep O0 K0 hws).2) (g := (mkF m 0 #[] [])) rfl (hb hby d2_0)
  refine gs T8 (mkF m 3 #[] [(.ref em)]) st8 ?_
  exact Goes.ret (v := some (.ref em)) X8 (by decide) (by decide) (fun h => by rw [Bd.returns] at h; cases h) ⟨rfl, N0, e8⟩ (fun fs hr => retOut X8 hx Bd.returns rfl (Or.inr (Or.inr (Or.inr (Or.inr ⟨rfl, rfl, rfl⟩)))) (hb hby d2_3) hr)
theorem d3_0 : decode jdk_2650_method_6_code 0 = .ok (.aload_n 0, 1) := by decide +kernel
theorem d3_1 : decode jdk_2650_method_6_code 1 = .ok (.getfield 7, 3) := by decide +kernel
theorem d3_4 : decode jdk_2650_method_6_code 4 = .ok (.ireturn, 1) := by decide +kernel
def Q_rm_olp0 (Z : State) (a1 : Addr) (h0 : Heap) (n0 : Nat) (v : Option Value) (h : Heap) (L : List Loc) : Prop := v = some (.int (0 : Int32)) ∧ Fr n0 L ∧ h = h0
set_option maxRecDepth 65536 in
set_option maxHeartbeats 40000000 in
theorem rm_olp0 (l : Launch) (Z : State) (a0 : Array Value) (hw : ∀ d ∈ tables_1, d.before a0 Z = true) (ws : List Jvm.Cond) (a1 : Addr) (h0 : Heap) (n0 : Nat) (Z0 : n0 ≤ h0.size) (O0 : Old Z n0 h0) (F_a1_isPresent : Fld Z h0 a1 cOL nIP "Z" (.int (0 : Int32))) :
    MetFree l Y5 (head1 (Cond.code Y5 jdk_2650_method_6_code 1 (some .boolean) :: ws) r2) (fun a U => a = #[(.ref a1)] ∧ Z.Warmed39 U.vm ∧ U.heap = h0) (fun _ _ _ _ _ => True) (fun _ U o U' => ∃ v L, o = .returned v ∧ Q_rm_olp0 Z a1 h0 n0 v U'.heap L ∧ FrameEnd U o U' L r2.cells r2.slots) := by
  refine MetFree.of_bodySF (plainFor_of_name pn_java_util_OptionalLong) hisR ?_
  intro p e s m args below meth c s₁ Bd hml0 hP hK
  obtain ⟨rfl, hZ, hh⟩ := hP
  have hx := Bd.exec
  have hby := Bd.bytes
  have hml : c.maxLocals = 1 := hml0
  have hown : s.vm.findClass cOL = some m.cls := findClass_of_methodNamed Bd.named
  have hnm := (name_of_methodNamed Bd.named Bd.method).1
  have X0 : Stand p l e r2 s m #[(.ref a1)] below meth c s₁ [] 0 0 := Stand.of_body Bd
  have e0 : s₁.heap = h0 := by rw [← hh, Bd.state]; rfl
  have N0 := Fr.nil n0
  refine Goes.out (l := l) (c := c) (R := r2) (Q := Q_rm_olp0 Z a1 h0 n0) Bd.notSynchronized ?_
  refine Goes.cast (g2 := mkF m 0 #[rv a1] []) (by first | (simp [entryFrame, mkF, argsToLocals, Value.category]; done) | rfl) ?_
  refine gs s₁ (mkF m 1 #[rv a1] [(.ref a1)]) (fun _ hr => XS.aloadN X0.here hx rfl (hb hby d3_0) rfl rfl hr) ?_
  obtain ⟨T9, X9, e9, st9⟩ := getF X0 hx hZ hown (host := "") (Or.inl (tw hw 81 rfl)) Via.refl e0 F_a1_isPresent (g := (mkF m 1 #[rv a1] [(.ref a1)])) rfl rfl (hb hby d3_1)
  refine gs T9 (mkF m 4 #[rv a1] [(.int (0 : Int32))]) st9 ?_
  exact Goes.ret (v := some (.int (0 : Int32))) X9 (by decide) (by decide) (fun h => by rw [Bd.returns] at h; cases h) ⟨rfl, N0, e9⟩ (fun fs hr => retN X9 hx (t := .boolean) Bd.returns (by simp) (hb hby d3_4) hr)
theorem d4_0 : decode jdk_2650_method_7_code 0 = .ok (.aload_n 0, 1) := by decide +kernel
theorem d4_1 : decode jdk_2650_method_7_code 1 = .ok (.getfield 7, 3) := by decide +kernel
theorem d4_4 : decode jdk_2650_method_7_code 4 = .ok (.ifCond .ne 7, 3) := by decide +kernel
theorem d4_7 : decode jdk_2650_method_7_code 7 = .ok (.iconst 1, 1) := by decide +kernel
theorem d4_8 : decode jdk_2650_method_7_code 8 = .ok (.goto 4, 3) := by decide +kernel
theorem d4_12 : decode jdk_2650_method_7_code 12 = .ok (.ireturn, 1) := by decide +kernel
def Q_rm_ole0 (Z : State) (a1 : Addr) (h0 : Heap) (n0 : Nat) (v : Option Value) (h : Heap) (L : List Loc) : Prop := v = some (.int (1 : Int32)) ∧ Fr n0 L ∧ h = h0
set_option maxRecDepth 65536 in
set_option maxHeartbeats 40000000 in
theorem rm_ole0 (l : Launch) (Z : State) (a0 : Array Value) (hw : ∀ d ∈ tables_1, d.before a0 Z = true) (ws : List Jvm.Cond) (a1 : Addr) (h0 : Heap) (n0 : Nat) (Z0 : n0 ≤ h0.size) (O0 : Old Z n0 h0) (F_a1_isPresent : Fld Z h0 a1 cOL nIP "Z" (.int (0 : Int32))) :
    MetFree l Y6 (head1 (Cond.code Y6 jdk_2650_method_7_code 1 (some .boolean) :: ws) r2) (fun a U => a = #[(.ref a1)] ∧ Z.Warmed39 U.vm ∧ U.heap = h0) (fun _ _ _ _ _ => True) (fun _ U o U' => ∃ v L, o = .returned v ∧ Q_rm_ole0 Z a1 h0 n0 v U'.heap L ∧ FrameEnd U o U' L r2.cells r2.slots) := by
  refine MetFree.of_bodySF (plainFor_of_name pn_java_util_OptionalLong) hisR ?_
  intro p e s m args below meth c s₁ Bd hml0 hP hK
  obtain ⟨rfl, hZ, hh⟩ := hP
  have hx := Bd.exec
  have hby := Bd.bytes
  have hml : c.maxLocals = 1 := hml0
  have hown : s.vm.findClass cOL = some m.cls := findClass_of_methodNamed Bd.named
  have hnm := (name_of_methodNamed Bd.named Bd.method).1
  have X0 : Stand p l e r2 s m #[(.ref a1)] below meth c s₁ [] 0 0 := Stand.of_body Bd
  have e0 : s₁.heap = h0 := by rw [← hh, Bd.state]; rfl
  have N0 := Fr.nil n0
  refine Goes.out (l := l) (c := c) (R := r2) (Q := Q_rm_ole0 Z a1 h0 n0) Bd.notSynchronized ?_
  refine Goes.cast (g2 := mkF m 0 #[rv a1] []) (by first | (simp [entryFrame, mkF, argsToLocals, Value.category]; done) | rfl) ?_
  refine gs s₁ (mkF m 1 #[rv a1] [(.ref a1)]) (fun _ hr => XS.aloadN X0.here hx rfl (hb hby d4_0) rfl rfl hr) ?_
  obtain ⟨T10, X10, e10, st10⟩ := getF X0 hx hZ hown (host := "") (Or.inl (tw hw 81 rfl)) Via.refl e0 F_a1_isPresent (g := (mkF m 1 #[rv a1] [(.ref a1)])) rfl rfl (hb hby d4_1)
  refine gs T10 (mkF m 4 #[rv a1] [(.int (0 : Int32))]) st10 ?_
  refine gs T10 (mkF m 7 #[rv a1] []) (fun _ hr => XS.ifNo X10.here hx rfl (hb hby d4_4) rfl ((if0 _ _).trans (teq (by decide : (0 : Int32) = (0 : Int32))).2) hr) ?_
  refine gs T10 (mkF m 8 #[rv a1] [(.int (1 : Int32))]) (fun _ hr => XS.iconst X10.here hx rfl (hb hby d4_7) hr) ?_
  refine gs T10 (mkF m 12 #[rv a1] [(.int (1 : Int32))]) (fun _ hr => XS.goto X10.here hx rfl (pc0 := 8) (pc' := 12) rfl (hb hby d4_8) (by decide) (by decide) hr) ?_
  exact Goes.ret (v := some (.int (1 : Int32))) X10 (by decide) (by decide) (fun h => by rw [Bd.returns] at h; cases h) ⟨rfl, N0, e10⟩ (fun fs hr => retN X10 hx (t := .boolean) Bd.returns (by simp) (hb hby d4_12) hr)
def Q_rm_olp1 (Z : State) (a1 : Addr) (h0 : Heap) (n0 : Nat) (v : Option Value) (h : Heap) (L : List Loc) : Prop := v = some (.int (1 : Int32)) ∧ Fr n0 L ∧ h = h0
set_option maxRecDepth 65536 in
set_option maxHeartbeats 40000000 in
theorem rm_olp1 (l : Launch) (Z : State) (a0 : Array Value) (hw : ∀ d ∈ tables_1, d.before a0 Z = true) (ws : List Jvm.Cond) (a1 : Addr) (h0 : Heap) (n0 : Nat) (Z0 : n0 ≤ h0.size) (O0 : Old Z n0 h0) (F_a1_isPresent : Fld Z h0 a1 cOL nIP "Z" (.int (1 : Int32))) :
    MetFree l Y5 (head1 (Cond.code Y5 jdk_2650_method_6_code 1 (some .boolean) :: ws) r2) (fun a U => a = #[(.ref a1)] ∧ Z.Warmed39 U.vm ∧ U.heap = h0) (fun _ _ _ _ _ => True) (fun _ U o U' => ∃ v L, o = .returned v ∧ Q_rm_olp1 Z a1 h0 n0 v U'.heap L ∧ FrameEnd U o U' L r2.cells r2.slots) := by
  refine MetFree.of_bodySF (plainFor_of_name pn_java_util_OptionalLong) hisR ?_
  intro p e s m args below meth c s₁ Bd hml0 hP hK
  obtain ⟨rfl, hZ, hh⟩ := hP
  have hx := Bd.exec
  have hby := Bd.bytes
  have hml : c.maxLocals = 1 := hml0
  have hown : s.vm.findClass cOL = some m.cls := findClass_of_methodNamed Bd.named
  have hnm := (name_of_methodNamed Bd.named Bd.method).1
  have X0 : Stand p l e r2 s m #[(.ref a1)] below meth c s₁ [] 0 0 := Stand.of_body Bd
  have e0 : s₁.heap = h0 := by rw [← hh, Bd.state]; rfl
  have N0 := Fr.nil n0
  refine Goes.out (l := l) (c := c) (R := r2) (Q := Q_rm_olp1 Z a1 h0 n0) Bd.notSynchronized ?_
  refine Goes.cast (g2 := mkF m 0 #[rv a1] []) (by first | (simp [entryFrame, mkF, argsToLocals, Value.category]; done) | rfl) ?_
  refine gs s₁ (mkF m 1 #[rv a1] [(.ref a1)]) (fun _ hr => XS.aloadN X0.here hx rfl (hb hby d3_0) rfl rfl hr) ?_
  obtain ⟨T11, X11, e11, st11⟩ := getF X0 hx hZ hown (host := "") (Or.inl (tw hw 81 rfl)) Via.refl e0 F_a1_isPresent (g := (mkF m 1 #[rv a1] [(.ref a1)])) rfl rfl (hb hby d3_1)
  refine gs T11 (mkF m 4 #[rv a1] [(.int (1 : Int32))]) st11 ?_
  exact Goes.ret (v := some (.int (1 : Int32))) X11 (by decide) (by decide) (fun h => by rw [Bd.returns] at h; cases h) ⟨rfl, N0, e11⟩ (fun fs hr => retN X11 hx (t := .boolean) Bd.returns (by simp) (hb hby d3_4) hr)
theorem d4_11 : decode jdk_2650_method_7_code 11 = .ok (.iconst 0, 1) := by decide +kernel
def Q_rm_ole1 (Z : State) (a1 : Addr) (h0 : Heap) (n0 : Nat) (v : Option Value) (h : Heap) (L : List Loc) : Prop := v = some (.int (0 : Int32)) ∧ Fr n0 L ∧ h = h0
set_option maxRecDepth 65536 in
set_option maxHeartbeats 40000000 in
theorem rm_ole1 (l : Launch) (Z : State) (a0 : Array Value) (hw : ∀ d ∈ tables_1, d.before a0 Z = true) (ws : List Jvm.Cond) (a1 : Addr) (h0 : Heap) (n0 : Nat) (Z0 : n0 ≤ h0.size) (O0 : Old Z n0 h0) (F_a1_isPresent : Fld Z h0 a1 cOL nIP "Z" (.int (1 : Int32))) :
    MetFree l Y6 (head1 (Cond.code Y6 jdk_2650_method_7_code 1 (some .boolean) :: ws) r2) (fun a U => a = #[(.ref a1)] ∧ Z.Warmed39 U.vm ∧ U.heap = h0) (fun _ _ _ _ _ => True) (fun _ U o U' => ∃ v L, o = .returned v ∧ Q_rm_ole1 Z a1 h0 n0 v U'.heap L ∧ FrameEnd U o U' L r2.cells r2.slots) := by
  refine MetFree.of_bodySF (plainFor_of_name pn_java_util_OptionalLong) hisR ?_
  intro p e s m args below meth c s₁ Bd hml0 hP hK
  obtain ⟨rfl, hZ, hh⟩ := hP
  have hx := Bd.exec
  have hby := Bd.bytes
  have hml : c.maxLocals = 1 := hml0
  have hown : s.vm.findClass cOL = some m.cls := findClass_of_methodNamed Bd.named
  have hnm := (name_of_methodNamed Bd.named Bd.method).1
  have X0 : Stand p l e r2 s m #[(.ref a1)] below meth c s₁ [] 0 0 := Stand.of_body Bd
  have e0 : s₁.heap = h0 := by rw [← hh, Bd.state]; rfl
  have N0 := Fr.nil n0
  refine Goes.out (l := l) (c := c) (R := r2) (Q := Q_rm_ole1 Z a1 h0 n0) Bd.notSynchronized ?_
  refine Goes.cast (g2 := mkF m 0 #[rv a1] []) (by first | (simp [entryFrame, mkF, argsToLocals, Value.category]; done) | rfl) ?_
  refine gs s₁ (mkF m 1 #[rv a1] [(.ref a1)]) (fun _ hr => XS.aloadN X0.here hx rfl (hb hby d4_0) rfl rfl hr) ?_
  obtain ⟨T12, X12, e12, st12⟩ := getF X0 hx hZ hown (host := "") (Or.inl (tw hw 81 rfl)) Via.refl e0 F_a1_isPresent (g := (mkF m 1 #[rv a1] [(.ref a1)])) rfl rfl (hb hby d4_1)
  refine gs T12 (mkF m 4 #[rv a1] [(.int (1 : Int32))]) st12 ?_
  refine gs T12 (mkF m 11 #[rv a1] []) (fun _ hr => XS.ifYes X12.here hx rfl (pc0 := 4) (pc' := 11) rfl (hb hby d4_4) rfl ((if0 _ _).trans (feq (by decide : ¬ ((1 : Int32) = (0 : Int32)))).2) (by decide) (by decide) hr) ?_
  refine gs T12 (mkF m 12 #[rv a1] [(.int (0 : Int32))]) (fun _ hr => XS.iconst X12.here hx rfl (hb hby d4_11) hr) ?_
  exact Goes.ret (v := some (.int (0 : Int32))) X12 (by decide) (by decide) (fun h => by rw [Bd.returns] at h; cases h) ⟨rfl, N0, e12⟩ (fun fs hr => retN X12 hx (t := .boolean) Bd.returns (by simp) (hb hby d4_12) hr)
theorem d5_0 : decode jdk_2650_method_5_code 0 = .ok (.aload_n 0, 1) := by decide +kernel
theorem d5_1 : decode jdk_2650_method_5_code 1 = .ok (.getfield 7, 3) := by decide +kernel
theorem d5_4 : decode jdk_2650_method_5_code 4 = .ok (.ifCond .ne 13, 3) := by decide +kernel
theorem d5_17 : decode jdk_2650_method_5_code 17 = .ok (.aload_n 0, 1) := by decide +kernel
theorem d5_18 : decode jdk_2650_method_5_code 18 = .ok (.getfield 13, 3) := by decide +kernel
theorem d5_21 : decode jdk_2650_method_5_code 21 = .ok (.lreturn, 1) := by decide +kernel
def Q_rm_olg (Z : State) (a1 : Addr) (q1 : Int64) (h0 : Heap) (n0 : Nat) (v : Option Value) (h : Heap) (L : List Loc) : Prop := v = some (.long q1) ∧ Fr n0 L ∧ h = h0
set_option maxRecDepth 65536 in
set_option maxHeartbeats 40000000 in
theorem rm_olg (l : Launch) (Z : State) (a0 : Array Value) (hw : ∀ d ∈ tables_1, d.before a0 Z = true) (ws : List Jvm.Cond) (a1 : Addr) (q1 : Int64) (h0 : Heap) (n0 : Nat) (Z0 : n0 ≤ h0.size) (O0 : Old Z n0 h0) (F_a1_isPresent : Fld Z h0 a1 cOL nIP "Z" (.int (1 : Int32))) (F_a1_value : Fld Z h0 a1 cOL "value" "J" (.long q1)) :
    MetFree l Y7 (head1 (Cond.code Y7 jdk_2650_method_5_code 1 (some .long) :: ws) r2) (fun a U => a = #[(.ref a1)] ∧ Z.Warmed39 U.vm ∧ U.heap = h0) (fun _ _ _ _ _ => True) (fun _ U o U' => ∃ v L, o = .returned v ∧ Q_rm_olg Z a1 q1 h0 n0 v U'.heap L ∧ FrameEnd U o U' L r2.cells r2.slots) := by
  refine MetFree.of_bodySF (plainFor_of_name pn_java_util_OptionalLong) hisR ?_
  intro p e s m args below meth c s₁ Bd hml0 hP hK
  obtain ⟨rfl, hZ, hh⟩ := hP
  have hx := Bd.exec
  have hby := Bd.bytes
  have hml : c.maxLocals = 1 := hml0
  have hown : s.vm.findClass cOL = some m.cls := findClass_of_methodNamed Bd.named
  have hnm := (name_of_methodNamed Bd.named Bd.method).1
  have X0 : Stand p l e r2 s m #[(.ref a1)] below meth c s₁ [] 0 0 := Stand.of_body Bd
  have e0 : s₁.heap = h0 := by rw [← hh, Bd.state]; rfl
  have N0 := Fr.nil n0
  refine Goes.out (l := l) (c := c) (R := r2) (Q := Q_rm_olg Z a1 q1 h0 n0) Bd.notSynchronized ?_
  refine Goes.cast (g2 := mkF m 0 #[rv a1] []) (by first | (simp [entryFrame, mkF, argsToLocals, Value.category]; done) | rfl) ?_
  refine gs s₁ (mkF m 1 #[rv a1] [(.ref a1)]) (fun _ hr => XS.aloadN X0.here hx rfl (hb hby d5_0) rfl rfl hr) ?_
  obtain ⟨T13, X13, e13, st13⟩ := getF X0 hx hZ hown (host := "") (Or.inl (tw hw 81 rfl)) Via.refl e0 F_a1_isPresent (g := (mkF m 1 #[rv a1] [(.ref a1)])) rfl rfl (hb hby d5_1)
  refine gs T13 (mkF m 4 #[rv a1] [(.int (1 : Int32))]) st13 ?_
  refine gs T13 (mkF m 17 #[rv a1] []) (fun _ hr => XS.ifYes X13.here hx rfl (pc0 := 4) (pc' := 17) rfl (hb hby d5_4) rfl ((if0 _ _).trans (feq (by decide : ¬ ((1 : Int32) = (0 : Int32)))).2) (by decide) (by decide) hr) ?_
  refine gs T13 (mkF m 18 #[rv a1] [(.ref a1)]) (fun _ hr => XS.aloadN X13.here hx rfl (hb hby d5_17) rfl rfl hr) ?_
  obtain ⟨T14, X14, e14, st14⟩ := getF X13 hx hZ hown (host := "") (Or.inl (tw hw 92 rfl)) Via.refl e13 F_a1_value (g := (mkF m 18 #[rv a1] [(.ref a1)])) rfl rfl (hb hby d5_18)
  refine gs T14 (mkF m 21 #[rv a1] [(.long q1)]) st14 ?_
  exact Goes.ret (v := some (.long q1)) X14 (by decide) (by decide) (fun h => by rw [Bd.returns] at h; cases h) ⟨rfl, N0, e14⟩ (fun fs hr => retOut X14 hx Bd.returns rfl (Or.inr (Or.inl ⟨rfl, rfl, _, rfl⟩)) (hb hby d5_21) hr)
theorem d6_0 : decode jdk_2650_method_11_code 0 = .ok (.aload_n 0, 1) := by decide +kernel
theorem d6_1 : decode jdk_2650_method_11_code 1 = .ok (.getfield 7, 3) := by decide +kernel
theorem d6_4 : decode jdk_2650_method_11_code 4 = .ok (.ifCond .eq 10, 3) := by decide +kernel
theorem d6_7 : decode jdk_2650_method_11_code 7 = .ok (.aload_n 0, 1) := by decide +kernel
theorem d6_8 : decode jdk_2650_method_11_code 8 = .ok (.getfield 13, 3) := by decide +kernel
theorem d6_11 : decode jdk_2650_method_11_code 11 = .ok (.goto 4, 3) := by decide +kernel
theorem d6_15 : decode jdk_2650_method_11_code 15 = .ok (.lreturn, 1) := by decide +kernel
def Q_rm_olo1 (Z : State) (a1 : Addr) (q1 : Int64) (q2 : Int64) (h0 : Heap) (n0 : Nat) (v : Option Value) (h : Heap) (L : List Loc) : Prop := v = some (.long q1) ∧ Fr n0 L ∧ h = h0
set_option maxRecDepth 65536 in
set_option maxHeartbeats 40000000 in
theorem rm_olo1 (l : Launch) (Z : State) (a0 : Array Value) (hw : ∀ d ∈ tables_1, d.before a0 Z = true) (ws : List Jvm.Cond) (a1 : Addr) (q1 : Int64) (q2 : Int64) (h0 : Heap) (n0 : Nat) (Z0 : n0 ≤ h0.size) (O0 : Old Z n0 h0) (F_a1_isPresent : Fld Z h0 a1 cOL nIP "Z" (.int (1 : Int32))) (F_a1_value : Fld Z h0 a1 cOL "value" "J" (.long q1)) :
    MetFree l Y8 (head1 (Cond.code Y8 jdk_2650_method_11_code 3 (some .long) :: ws) r2) (fun a U => a = #[(.ref a1), (.long q2)] ∧ Z.Warmed39 U.vm ∧ U.heap = h0) (fun _ _ _ _ _ => True) (fun _ U o U' => ∃ v L, o = .returned v ∧ Q_rm_olo1 Z a1 q1 q2 h0 n0 v U'.heap L ∧ FrameEnd U o U' L r2.cells r2.slots) := by
  refine MetFree.of_bodySF (plainFor_of_name pn_java_util_OptionalLong) hisR ?_
  intro p e s m args below meth c s₁ Bd hml0 hP hK
  obtain ⟨rfl, hZ, hh⟩ := hP
  have hx := Bd.exec
  have hby := Bd.bytes
  have hml : c.maxLocals = 3 := hml0
  have hown : s.vm.findClass cOL = some m.cls := findClass_of_methodNamed Bd.named
  have hnm := (name_of_methodNamed Bd.named Bd.method).1
  have X0 : Stand p l e r2 s m #[(.ref a1), (.long q2)] below meth c s₁ [] 0 0 := Stand.of_body Bd
  have e0 : s₁.heap = h0 := by rw [← hh, Bd.state]; rfl
  have N0 := Fr.nil n0
  refine Goes.out (l := l) (c := c) (R := r2) (Q := Q_rm_olo1 Z a1 q1 q2 h0 n0) Bd.notSynchronized ?_
  refine Goes.cast (g2 := mkF m 0 #[rv a1, .val (.long q2), .second] []) (by first | (simp [entryFrame, mkF, argsToLocals, Value.category]; done) | rfl) ?_
  refine gs s₁ (mkF m 1 #[rv a1, .val (.long q2), .second] [(.ref a1)]) (fun _ hr => XS.aloadN X0.here hx rfl (hb hby d6_0) rfl rfl hr) ?_
  obtain ⟨T15, X15, e15, st15⟩ := getF X0 hx hZ hown (host := "") (Or.inl (tw hw 81 rfl)) Via.refl e0 F_a1_isPresent (g := (mkF m 1 #[rv a1, .val (.long q2), .second] [(.ref a1)])) rfl rfl (hb hby d6_1)
  refine gs T15 (mkF m 4 #[rv a1, .val (.long q2), .second] [(.int (1 : Int32))]) st15 ?_
  refine gs T15 (mkF m 7 #[rv a1, .val (.long q2), .second] []) (fun _ hr => XS.ifNo X15.here hx rfl (hb hby d6_4) rfl ((if0 _ _).trans (feq (by decide : ¬ ((1 : Int32) = (0 : Int32)))).1) hr) ?_
  refine gs T15 (mkF m 8 #[rv a1, .val (.long q2), .second] [(.ref a1)]) (fun _ hr => XS.aloadN X15.here hx rfl (hb hby d6_7) rfl rfl hr) ?_
  obtain ⟨T16, X16, e16, st16⟩ := getF X15 hx hZ hown (host := "") (Or.inl (tw hw 92 rfl)) Via.refl e15 F_a1_value (g := (mkF m 8 #[rv a1, .val (.long q2), .second] [(.ref a1)])) rfl rfl (hb hby d6_8)
  refine gs T16 (mkF m 11 #[rv a1, .val (.long q2), .second] [(.long q1)]) st16 ?_
  refine gs T16 (mkF m 15 #[rv a1, .val (.long q2), .second] [(.long q1)]) (fun _ hr => XS.goto X16.here hx rfl (pc0 := 11) (pc' := 15) rfl (hb hby d6_11) (by decide) (by decide) hr) ?_
  exact Goes.ret (v := some (.long q1)) X16 (by decide) (by decide) (fun h => by rw [Bd.returns] at h; cases h) ⟨rfl, N0, e16⟩ (fun fs hr => retOut X16 hx Bd.returns rfl (Or.inr (Or.inl ⟨rfl, rfl, _, rfl⟩)) (hb hby d6_15) hr)
theorem d6_14 : decode jdk_2650_method_11_code 14 = .ok (.lload_n 1, 1) := by decide +kernel
def Q_rm_olo0 (Z : State) (a1 : Addr) (q2 : Int64) (h0 : Heap) (n0 : Nat) (v : Option Value) (h : Heap) (L : List Loc) : Prop := v = some (.long q2) ∧ Fr n0 L ∧ h = h0
set_option maxRecDepth 65536 in
set_option maxHeartbeats 40000000 in
theorem rm_olo0 (l : Launch) (Z : State) (a0 : Array Value) (hw : ∀ d ∈ tables_1, d.before a0 Z = true) (ws : List Jvm.Cond) (a1 : Addr) (q2 : Int64) (h0 : Heap) (n0 : Nat) (Z0 : n0 ≤ h0.size) (O0 : Old Z n0 h0) (F_a1_isPresent : Fld Z h0 a1 cOL nIP "Z" (.int (0 : Int32))) :
    MetFree l Y8 (head1 (Cond.code Y8 jdk_2650_method_11_code 3 (some .long) :: ws) r2) (fun a U => a = #[(.ref a1), (.long q2)] ∧ Z.Warmed39 U.vm ∧ U.heap = h0) (fun _ _ _ _ _ => True) (fun _ U o U' => ∃ v L, o = .returned v ∧ Q_rm_olo0 Z a1 q2 h0 n0 v U'.heap L ∧ FrameEnd U o U' L r2.cells r2.slots) := by
  refine MetFree.of_bodySF (plainFor_of_name pn_java_util_OptionalLong) hisR ?_
  intro p e s m args below meth c s₁ Bd hml0 hP hK
  obtain ⟨rfl, hZ, hh⟩ := hP
  have hx := Bd.exec
  have hby := Bd.bytes
  have hml : c.maxLocals = 3 := hml0
  have hown : s.vm.findClass cOL = some m.cls := findClass_of_methodNamed Bd.named
  have hnm := (name_of_methodNamed Bd.named Bd.method).1
  have X0 : Stand p l e r2 s m #[(.ref a1), (.long q2)] below meth c s₁ [] 0 0 := Stand.of_body Bd
  have e0 : s₁.heap = h0 := by rw [← hh, Bd.state]; rfl
  have N0 := Fr.nil n0
  refine Goes.out (l := l) (c := c) (R := r2) (Q := Q_rm_olo0 Z a1 q2 h0 n0) Bd.notSynchronized ?_
  refine Goes.cast (g2 := mkF m 0 #[rv a1, .val (.long q2), .second] []) (by first | (simp [entryFrame, mkF, argsToLocals, Value.category]; done) | rfl) ?_
  refine gs s₁ (mkF m 1 #[rv a1, .val (.long q2), .second] [(.ref a1)]) (fun _ hr => XS.aloadN X0.here hx rfl (hb hby d6_0) rfl rfl hr) ?_
  obtain ⟨T17, X17, e17, st17⟩ := getF X0 hx hZ hown (host := "") (Or.inl (tw hw 81 rfl)) Via.refl e0 F_a1_isPresent (g := (mkF m 1 #[rv a1, .val (.long q2), .second] [(.ref a1)])) rfl rfl (hb hby d6_1)
  refine gs T17 (mkF m 4 #[rv a1, .val (.long q2), .second] [(.int (0 : Int32))]) st17 ?_
  refine gs T17 (mkF m 14 #[rv a1, .val (.long q2), .second] []) (fun _ hr => XS.ifYes X17.here hx rfl (pc0 := 4) (pc' := 14) rfl (hb hby d6_4) rfl ((if0 _ _).trans (teq (by decide : (0 : Int32) = (0 : Int32))).1) (by decide) (by decide) hr) ?_
  refine gs T17 (mkF m 15 #[rv a1, .val (.long q2), .second] [(.long q2)]) (fun _ hr => XT.lloadN X17.here hx rfl (hb hby d6_14) rfl hr) ?_
  exact Goes.ret (v := some (.long q2)) X17 (by decide) (by decide) (fun h => by rw [Bd.returns] at h; cases h) ⟨rfl, N0, e17⟩ (fun fs hr => retOut X17 hx Bd.returns rfl (Or.inr (Or.inl ⟨rfl, rfl, _, rfl⟩)) (hb hby d6_15) hr)
theorem d7_0 : decode jdk_31_method_11_code 0 = .ok (.aload_n 0, 1) := by decide +kernel
theorem d7_1 : decode jdk_31_method_11_code 1 = .ok (.ifnonnull 12, 3) := by decide +kernel
theorem d7_13 : decode jdk_31_method_11_code 13 = .ok (.aload_n 0, 1) := by decide +kernel
theorem d7_14 : decode jdk_31_method_11_code 14 = .ok (.areturn, 1) := by decide +kernel
theorem pn_java_util_Objects : plainName "java/util/Objects" = true := by first | (simp [plainName, overriddenIn]; done) | decide +kernel
def Q_rm_rnn2 (Z : State) (a1 : Addr) (a2 : Addr) (h0 : Heap) (n0 : Nat) (v : Option Value) (h : Heap) (L : List Loc) : Prop := v = some (.ref a1) ∧ Fr n0 L ∧ h = h0
set_option maxRecDepth 65536 in
set_option maxHeartbeats 40000000 in
theorem rm_rnn2 (l : Launch) (Z : State) (a0 : Array Value) (hw : ∀ d ∈ tables_1, d.before a0 Z = true) (ws : List Jvm.Cond) (a1 : Addr) (a2 : Addr) (h0 : Heap) (n0 : Nat) (Z0 : n0 ≤ h0.size) (O0 : Old Z n0 h0) :
    MetFree l Y9 (head1 (Cond.code Y9 jdk_31_method_11_code 2 (some (.object "java/lang/Object")) :: ws) r2) (fun a U => a = #[(.ref a1), (.ref a2)] ∧ Z.Warmed39 U.vm ∧ U.heap = h0) (fun _ _ _ _ _ => True) (fun _ U o U' => ∃ v L, o = .returned v ∧ Q_rm_rnn2 Z a1 a2 h0 n0 v U'.heap L ∧ FrameEnd U o U' L r2.cells r2.slots) := by
  refine MetFree.of_bodySF (plainFor_of_name pn_java_util_Objects) hisR ?_
  intro p e s m args below meth c s₁ Bd hml0 hP hK
  obtain ⟨rfl, hZ, hh⟩ := hP
  have hx := Bd.exec
  have hby := Bd.bytes
  have hml : c.maxLocals = 2 := hml0
  have hown : s.vm.findClass "java/util/Objects" = some m.cls := findClass_of_methodNamed Bd.named
  have hnm := (name_of_methodNamed Bd.named Bd.method).1
  have X0 : Stand p l e r2 s m #[(.ref a1), (.ref a2)] below meth c s₁ [] 0 0 := Stand.of_body Bd
  have e0 : s₁.heap = h0 := by rw [← hh, Bd.state]; rfl
  have N0 := Fr.nil n0
  refine Goes.out (l := l) (c := c) (R := r2) (Q := Q_rm_rnn2 Z a1 a2 h0 n0) Bd.notSynchronized ?_
  refine Goes.cast (g2 := mkF m 0 #[rv a1, rv a2] []) (by first | (simp [entryFrame, mkF, argsToLocals, Value.category]; done) | rfl) ?_
  refine gs s₁ (mkF m 1 #[rv a1, rv a2] [(.ref a1)]) (fun _ hr => XS.aloadN X0.here hx rfl (hb hby d7_0) rfl rfl hr) ?_
  refine gs s₁ (mkF m 13 #[rv a1, rv a2] []) (fun _ hr => XT.ifnonnullYes X0.here hx rfl (pc0 := 1) (pc' := 13) rfl (hb hby d7_1) rfl (by decide) (by decide) hr) ?_
  refine gs s₁ (mkF m 14 #[rv a1, rv a2] [(.ref a1)]) (fun _ hr => XS.aloadN X0.here hx rfl (hb hby d7_13) rfl rfl hr) ?_
  exact Goes.ret (v := some (.ref a1)) X0 (by decide) (by decide) (fun h => by rw [Bd.returns] at h; cases h) ⟨rfl, N0, e0⟩ (fun fs hr => retOut X0 hx Bd.returns rfl (Or.inr (Or.inr (Or.inr (Or.inr ⟨rfl, rfl, rfl⟩)))) (hb hby d7_14) hr)
theorem d8_0 : decode jdk_30_method_1_code 0 = .ok (.aload_n 0, 1) := by decide +kernel
theorem d8_1 : decode jdk_30_method_1_code 1 = .ok (.invokespecial 1, 3) := by decide +kernel
theorem d8_4 : decode jdk_30_method_1_code 4 = .ok (.return_, 1) := by decide +kernel
theorem pn_java_lang_Record : plainName cRec = true := by first | (simp [plainName, overriddenIn]; done) | decide +kernel
def Q_rm_rec (Z : State) (a1 : Addr) (h0 : Heap) (n0 : Nat) (v : Option Value) (h : Heap) (L : List Loc) : Prop := v = none ∧ Fr n0 L ∧ h = h0
set_option maxRecDepth 65536 in
set_option maxHeartbeats 40000000 in
theorem rm_rec (l : Launch) (Z : State) (a0 : Array Value) (hw : ∀ d ∈ tables_1, d.before a0 Z = true) (ws : List Jvm.Cond) (a1 : Addr) (h0 : Heap) (n0 : Nat) (Z0 : n0 ≤ h0.size) (O0 : Old Z n0 h0) :
    MetFree l Y10 (head1 (Cond.code Y10 jdk_30_method_1_code 1 none :: ws) r0) (fun a U => a = #[(.ref a1)] ∧ Z.Warmed39 U.vm ∧ U.heap = h0) (fun _ _ _ _ _ => True) (fun _ U o U' => ∃ v L, o = .returned v ∧ Q_rm_rec Z a1 h0 n0 v U'.heap L ∧ FrameEnd U o U' L r0.cells r0.slots) := by
  refine MetFree.of_bodySF (plainFor_of_name pn_java_lang_Record) hisR ?_
  intro p e s m args below meth c s₁ Bd hml0 hP hK
  obtain ⟨rfl, hZ, hh⟩ := hP
  have hx := Bd.exec
  have hby := Bd.bytes
  have hml : c.maxLocals = 1 := hml0
  have hown : s.vm.findClass cRec = some m.cls := findClass_of_methodNamed Bd.named
  have hnm := (name_of_methodNamed Bd.named Bd.method).1
  have X0 : Stand p l e r0 s m #[(.ref a1)] below meth c s₁ [] 0 0 := Stand.of_body Bd
  have e0 : s₁.heap = h0 := by rw [← hh, Bd.state]; rfl
  have N0 := Fr.nil n0
  refine Goes.out (l := l) (c := c) (R := r0) (Q := Q_rm_rec Z a1 h0 n0) Bd.notSynchronized ?_
  refine Goes.cast (g2 := mkF m 0 #[rv a1] []) (by first | (simp [entryFrame, mkF, argsToLocals, Value.category]; done) | rfl) ?_
  refine gs s₁ (mkF m 1 #[rv a1] [(.ref a1)]) (fun _ hr => XS.aloadN X0.here hx rfl (hb hby d8_0) rfl rfl hr) ?_
  obtain ⟨T19, X19, e19, st19⟩ := initO X0 hx hZ hown (tw hw 22 rfl) (tw hw 23 rfl) (tw hw 24 rfl) e0 (g := (mkF m 1 #[rv a1] [(.ref a1)])) rfl (by rw [hml]; rfl) rfl (hb hby d8_1) (by decide) (W := 0) (wle rfl) (by decide)
  refine gs T19 (mkF m 4 #[rv a1] []) st19 ?_
  exact Goes.ret (v := none) X19 (by decide) (by decide) (fun _ => rfl) ⟨rfl, N0, e19⟩ (fun fs hr => X19.returnOut hx Bd.returns (hb hby d8_4) hr)
theorem d9_0 : decode prog_14_method_5_code 0 = .ok (.aload_n 0, 1) := by decide +kernel
theorem d9_1 : decode prog_14_method_5_code 1 = .ok (.getfield 17, 3) := by decide +kernel
theorem d9_4 : decode prog_14_method_5_code 4 = .ok (.ireturn, 1) := by decide +kernel
theorem pn_com_example_log_lag_gauge_loglaggauge_model_PositionLag_RecordsRead : plainName cRR = true := by first | (simp [plainName, overriddenIn]; done) | decide +kernel
def Q_rm_onlyMarkersLeft0 (Z : State) (a1 : Addr) (h0 : Heap) (n0 : Nat) (v : Option Value) (h : Heap) (L : List Loc) : Prop := v = some (.int (0 : Int32)) ∧ Fr n0 L ∧ h = h0
set_option maxRecDepth 65536 in
set_option maxHeartbeats 40000000 in
theorem rm_onlyMarkersLeft0 (l : Launch) (Z : State) (a0 : Array Value) (hw : ∀ d ∈ tables_1, d.before a0 Z = true) (ws : List Jvm.Cond) (a1 : Addr) (h0 : Heap) (n0 : Nat) (Z0 : n0 ≤ h0.size) (O0 : Old Z n0 h0) (F_a1_onlyMarkersLeft : Fld Z h0 a1 cRR nOM "Z" (.int (0 : Int32))) :
    MetFree l Y1 (head1 (Cond.code Y1 prog_14_method_5_code 1 (some .boolean) :: ws) r2) (fun a U => a = #[(.ref a1)] ∧ Z.Warmed39 U.vm ∧ U.heap = h0) (fun _ _ _ _ _ => True) (fun _ U o U' => ∃ v L, o = .returned v ∧ Q_rm_onlyMarkersLeft0 Z a1 h0 n0 v U'.heap L ∧ FrameEnd U o U' L r2.cells r2.slots) := by
  refine MetFree.of_bodySF (plainFor_of_name pn_com_example_log_lag_gauge_loglaggauge_model_PositionLag_RecordsRead) hisR ?_
  intro p e s m args below meth c s₁ Bd hml0 hP hK
  obtain ⟨rfl, hZ, hh⟩ := hP
  have hx := Bd.exec
  have hby := Bd.bytes
  have hml : c.maxLocals = 1 := hml0
  have hown : s.vm.findClass cRR = some m.cls := findClass_of_methodNamed Bd.named
  have hnm := (name_of_methodNamed Bd.named Bd.method).1
  have X0 : Stand p l e r2 s m #[(.ref a1)] below meth c s₁ [] 0 0 := Stand.of_body Bd
  have e0 : s₁.heap = h0 := by rw [← hh, Bd.state]; rfl
  have N0 := Fr.nil n0
  refine Goes.out (l := l) (c := c) (R := r2) (Q := Q_rm_onlyMarkersLeft0 Z a1 h0 n0) Bd.notSynchronized ?_
  refine Goes.cast (g2 := mkF m 0 #[rv a1] []) (by first | (simp [entryFrame, mkF, argsToLocals, Value.category]; done) | rfl) ?_
  refine gs s₁ (mkF m 1 #[rv a1] [(.ref a1)]) (fun _ hr => XS.aloadN X0.here hx rfl (hb hby d9_0) rfl rfl hr) ?_
  obtain ⟨T20, X20, e20, st20⟩ := getF X0 hx hZ hown (host := "") (Or.inl (tw hw 104 rfl)) Via.refl e0 F_a1_onlyMarkersLeft (g := (mkF m 1 #[rv a1] [(.ref a1)])) rfl rfl (hb hby d9_1)
  refine gs T20 (mkF m 4 #[rv a1] [(.int (0 : Int32))]) st20 ?_
  exact Goes.ret (v := some (.int (0 : Int32))) X20 (by decide) (by decide) (fun h => by rw [Bd.returns] at h; cases h) ⟨rfl, N0, e20⟩ (fun fs hr => retN X20 hx (t := .boolean) Bd.returns (by simp) (hb hby d9_4) hr)
def Q_rm_onlyMarkersLeft1 (Z : State) (a1 : Addr) (h0 : Heap) (n0 : Nat) (v : Option Value) (h : Heap) (L : List Loc) : Prop := v = some (.int (1 : Int32)) ∧ Fr n0 L ∧ h = h0
set_option maxRecDepth 65536 in
set_option maxHeartbeats 40000000 in
theorem rm_onlyMarkersLeft1 (l : Launch) (Z : State) (a0 : Array Value) (hw : ∀ d ∈ tables_1, d.before a0 Z = true) (ws : List Jvm.Cond) (a1 : Addr) (h0 : Heap) (n0 : Nat) (Z0 : n0 ≤ h0.size) (O0 : Old Z n0 h0) (F_a1_onlyMarkersLeft : Fld Z h0 a1 cRR nOM "Z" (.int (1 : Int32))) :
    MetFree l Y1 (head1 (Cond.code Y1 prog_14_method_5_code 1 (some .boolean) :: ws) r2) (fun a U => a = #[(.ref a1)] ∧ Z.Warmed39 U.vm ∧ U.heap = h0) (fun _ _ _ _ _ => True) (fun _ U o U' => ∃ v L, o = .returned v ∧ Q_rm_onlyMarkersLeft1 Z a1 h0 n0 v U'.heap L ∧ FrameEnd U o U' L r2.cells r2.slots) := by
  refine MetFree.of_bodySF (plainFor_of_name pn_com_example_log_lag_gauge_loglaggauge_model_PositionLag_RecordsRead) hisR ?_
  intro p e s m args below meth c s₁ Bd hml0 hP hK
  obtain ⟨rfl, hZ, hh⟩ := hP
  have hx := Bd.exec
  have hby := Bd.bytes
  have hml : c.maxLocals = 1 := hml0
  have hown : s.vm.findClass cRR = some m.cls := findClass_of_methodNamed Bd.named
  have hnm := (name_of_methodNamed Bd.named Bd.method).1
  have X0 : Stand p l e r2 s m #[(.ref a1)] below meth c s₁ [] 0 0 := Stand.of_body Bd
  have e0 : s₁.heap = h0 := by rw [← hh, Bd.state]; rfl
  have N0 := Fr.nil n0
  refine Goes.out (l := l) (c := c) (R := r2) (Q := Q_rm_onlyMarkersLeft1 Z a1 h0 n0) Bd.notSynchronized ?_
  refine Goes.cast (g2 := mkF m 0 #[rv a1] []) (by first | (simp [entryFrame, mkF, argsToLocals, Value.category]; done) | rfl) ?_
  refine gs s₁ (mkF m 1 #[rv a1] [(.ref a1)]) (fun _ hr => XS.aloadN X0.here hx rfl (hb hby d9_0) rfl rfl hr) ?_
  obtain ⟨T21, X21, e21, st21⟩ := getF X0 hx hZ hown (host := "") (Or.inl (tw hw 104 rfl)) Via.refl e0 F_a1_onlyMarkersLeft (g := (mkF m 1 #[rv a1] [(.ref a1)])) rfl rfl (hb hby d9_1)
  refine gs T21 (mkF m 4 #[rv a1] [(.int (1 : Int32))]) st21 ?_
  exact Goes.ret (v := some (.int (1 : Int32))) X21 (by decide) (by decide) (fun h => by rw [Bd.returns] at h; cases h) ⟨rfl, N0, e21⟩ (fun fs hr => retN X21 hx (t := .boolean) Bd.returns (by simp) (hb hby d9_4) hr)
theorem d10_0 : decode prog_14_method_8_code 0 = .ok (.aload_n 0, 1) := by decide +kernel
theorem d10_1 : decode prog_14_method_8_code 1 = .ok (.getfield 28, 3) := by decide +kernel
theorem d10_4 : decode prog_14_method_8_code 4 = .ok (.lreturn, 1) := by decide +kernel
def Q_rm_lookedAt (Z : State) (a1 : Addr) (q1 : Int64) (h0 : Heap) (n0 : Nat) (v : Option Value) (h : Heap) (L : List Loc) : Prop := v = some (.long q1) ∧ Fr n0 L ∧ h = h0
set_option maxRecDepth 65536 in
set_option maxHeartbeats 40000000 in
theorem rm_lookedAt (l : Launch) (Z : State) (a0 : Array Value) (hw : ∀ d ∈ tables_1, d.before a0 Z = true) (ws : List Jvm.Cond) (a1 : Addr) (q1 : Int64) (h0 : Heap) (n0 : Nat) (Z0 : n0 ≤ h0.size) (O0 : Old Z n0 h0) (F_a1_lookedAt : Fld Z h0 a1 cRR "lookedAt" "J" (.long q1)) :
    MetFree l Y11 (head1 (Cond.code Y11 prog_14_method_8_code 1 (some .long) :: ws) r2) (fun a U => a = #[(.ref a1)] ∧ Z.Warmed39 U.vm ∧ U.heap = h0) (fun _ _ _ _ _ => True) (fun _ U o U' => ∃ v L, o = .returned v ∧ Q_rm_lookedAt Z a1 q1 h0 n0 v U'.heap L ∧ FrameEnd U o U' L r2.cells r2.slots) := by
  refine MetFree.of_bodySF (plainFor_of_name pn_com_example_log_lag_gauge_loglaggauge_model_PositionLag_RecordsRead) hisR ?_
  intro p e s m args below meth c s₁ Bd hml0 hP hK
  obtain ⟨rfl, hZ, hh⟩ := hP
  have hx := Bd.exec
  have hby := Bd.bytes
  have hml : c.maxLocals = 1 := hml0
  have hown : s.vm.findClass cRR = some m.cls := findClass_of_methodNamed Bd.named
  have hnm := (name_of_methodNamed Bd.named Bd.method).1
  have X0 : Stand p l e r2 s m #[(.ref a1)] below meth c s₁ [] 0 0 := Stand.of_body Bd
  have e0 : s₁.heap = h0 := by rw [← hh, Bd.state]; rfl
  have N0 := Fr.nil n0
  refine Goes.out (l := l) (c := c) (R := r2) (Q := Q_rm_lookedAt Z a1 q1 h0 n0) Bd.notSynchronized ?_
  refine Goes.cast (g2 := mkF m 0 #[rv a1] []) (by first | (simp [entryFrame, mkF, argsToLocals, Value.category]; done) | rfl) ?_
  refine gs s₁ (mkF m 1 #[rv a1] [(.ref a1)]) (fun _ hr => XS.aloadN X0.here hx rfl (hb hby d10_0) rfl rfl hr) ?_
  obtain ⟨T22, X22, e22, st22⟩ := getF X0 hx hZ hown (host := "") (Or.inl (tw hw 110 rfl)) Via.refl e0 F_a1_lookedAt (g := (mkF m 1 #[rv a1] [(.ref a1)])) rfl rfl (hb hby d10_1)
  refine gs T22 (mkF m 4 #[rv a1] [(.long q1)]) st22 ?_
  exact Goes.ret (v := some (.long q1)) X22 (by decide) (by decide) (fun h => by rw [Bd.returns] at h; cases h) ⟨rfl, N0, e22⟩ (fun fs hr => retOut X22 hx Bd.returns rfl (Or.inr (Or.inl ⟨rfl, rfl, _, rfl⟩)) (hb hby d10_4) hr)
theorem d11_0 : decode prog_14_method_6_code 0 = .ok (.aload_n 0, 1) := by decide +kernel
theorem d11_1 : decode prog_14_method_6_code 1 = .ok (.getfield 23, 3) := by decide +kernel
theorem d11_4 : decode prog_14_method_6_code 4 = .ok (.areturn, 1) := by decide +kernel
def Q_rm_firstUnreadTimestamp (Z : State) (a1 : Addr) (w1 : Addr) (h0 : Heap) (n0 : Nat) (v : Option Value) (h : Heap) (L : List Loc) : Prop := v = some (.ref w1) ∧ Fr n0 L ∧ h = h0
set_option maxRecDepth 65536 in
set_option maxHeartbeats 40000000 in
theorem rm_firstUnreadTimestamp (l : Launch) (Z : State) (a0 : Array Value) (hw : ∀ d ∈ tables_1, d.before a0 Z = true) (ws : List Jvm.Cond) (a1 : Addr) (w1 : Addr) (h0 : Heap) (n0 : Nat) (Z0 : n0 ≤ h0.size) (O0 : Old Z n0 h0) (F_a1_firstUnreadTimestamp : Fld Z h0 a1 cRR nLT dOL (.ref w1)) :
    MetFree l Y12 (head1 (Cond.code Y12 prog_14_method_6_code 1 (some (.object cOL)) :: ws) r2) (fun a U => a = #[(.ref a1)] ∧ Z.Warmed39 U.vm ∧ U.heap = h0) (fun _ _ _ _ _ => True) (fun _ U o U' => ∃ v L, o = .returned v ∧ Q_rm_firstUnreadTimestamp Z a1 w1 h0 n0 v U'.heap L ∧ FrameEnd U o U' L r2.cells r2.slots) := by
  refine MetFree.of_bodySF (plainFor_of_name pn_com_example_log_lag_gauge_loglaggauge_model_PositionLag_RecordsRead) hisR ?_
  intro p e s m args below meth c s₁ Bd hml0 hP hK
  obtain ⟨rfl, hZ, hh⟩ := hP
  have hx := Bd.exec
  have hby := Bd.bytes
  have hml : c.maxLocals = 1 := hml0
  have hown : s.vm.findClass cRR = some m.cls := findClass_of_methodNamed Bd.named
  have hnm := (name_of_methodNamed Bd.named Bd.method).1
  have X0 : Stand p l e r2 s m #[(.ref a1)] below meth c s₁ [] 0 0 := Stand.of_body Bd
  have e0 : s₁.heap = h0 := by rw [← hh, Bd.state]; rfl
  have N0 := Fr.nil n0
  refine Goes.out (l := l) (c := c) (R := r2) (Q := Q_rm_firstUnreadTimestamp Z a1 w1 h0 n0) Bd.notSynchronized ?_
  refine Goes.cast (g2 := mkF m 0 #[rv a1] []) (by first | (simp [entryFrame, mkF, argsToLocals, Value.category]; done) | rfl) ?_
  refine gs s₁ (mkF m 1 #[rv a1] [(.ref a1)]) (fun _ hr => XS.aloadN X0.here hx rfl (hb hby d11_0) rfl rfl hr) ?_
  obtain ⟨T23, X23, e23, st23⟩ := getF X0 hx hZ hown (host := "") (Or.inl (tw hw 106 rfl)) Via.refl e0 F_a1_firstUnreadTimestamp (g := (mkF m 1 #[rv a1] [(.ref a1)])) rfl rfl (hb hby d11_1)
  refine gs T23 (mkF m 4 #[rv a1] [(.ref w1)]) st23 ?_
  exact Goes.ret (v := some (.ref w1)) X23 (by decide) (by decide) (fun h => by rw [Bd.returns] at h; cases h) ⟨rfl, N0, e23⟩ (fun fs hr => retOut X23 hx Bd.returns rfl (Or.inr (Or.inr (Or.inr (Or.inr ⟨rfl, rfl, rfl⟩)))) (hb hby d11_4) hr)
theorem d12_0 : decode jdk_31_method_10_code 0 = .ok (.aload_n 0, 1) := by decide +kernel
theorem d12_1 : decode jdk_31_method_10_code 1 = .ok (.ifnonnull 11, 3) := by decide +kernel
theorem d12_12 : decode jdk_31_method_10_code 12 = .ok (.aload_n 0, 1) := by decide +kernel
theorem d12_13 : decode jdk_31_method_10_code 13 = .ok (.areturn, 1) := by decide +kernel
def Q_rm_rnn1 (Z : State) (a1 : Addr) (h0 : Heap) (n0 : Nat) (v : Option Value) (h : Heap) (L : List Loc) : Prop := v = some (.ref a1) ∧ Fr n0 L ∧ h = h0
set_option maxRecDepth 65536 in
set_option maxHeartbeats 40000000 in
theorem rm_rnn1 (l : Launch) (Z : State) (a0 : Array Value) (hw : ∀ d ∈ tables_1, d.before a0 Z = true) (ws : List Jvm.Cond) (a1 : Addr) (h0 : Heap) (n0 : Nat) (Z0 : n0 ≤ h0.size) (O0 : Old Z n0 h0) :
    MetFree l Y13 (head1 (Cond.code Y13 jdk_31_method_10_code 1 (some (.object "java/lang/Object")) :: ws) r2) (fun a U => a = #[(.ref a1)] ∧ Z.Warmed39 U.vm ∧ U.heap = h0) (fun _ _ _ _ _ => True) (fun _ U o U' => ∃ v L, o = .returned v ∧ Q_rm_rnn1 Z a1 h0 n0 v U'.heap L ∧ FrameEnd U o U' L r2.cells r2.slots) := by
  refine MetFree.of_bodySF (plainFor_of_name pn_java_util_Objects) hisR ?_
  intro p e s m args below meth c s₁ Bd hml0 hP hK
  obtain ⟨rfl, hZ, hh⟩ := hP
  have hx := Bd.exec
  have hby := Bd.bytes
  have hml : c.maxLocals = 1 := hml0
  have hown : s.vm.findClass "java/util/Objects" = some m.cls := findClass_of_methodNamed Bd.named
  have hnm := (name_of_methodNamed Bd.named Bd.method).1
  have X0 : Stand p l e r2 s m #[(.ref a1)] below meth c s₁ [] 0 0 := Stand.of_body Bd
  have e0 : s₁.heap = h0 := by rw [← hh, Bd.state]; rfl
  have N0 := Fr.nil n0
  refine Goes.out (l := l) (c := c) (R := r2) (Q := Q_rm_rnn1 Z a1 h0 n0) Bd.notSynchronized ?_
  refine Goes.cast (g2 := mkF m 0 #[rv a1] []) (by first | (simp [entryFrame, mkF, argsToLocals, Value.category]; done) | rfl) ?_
  refine gs s₁ (mkF m 1 #[rv a1] [(.ref a1)]) (fun _ hr => XS.aloadN X0.here hx rfl (hb hby d12_0) rfl rfl hr) ?_
  refine gs s₁ (mkF m 12 #[rv a1] []) (fun _ hr => XT.ifnonnullYes X0.here hx rfl (pc0 := 1) (pc' := 12) rfl (hb hby d12_1) rfl (by decide) (by decide) hr) ?_
  refine gs s₁ (mkF m 13 #[rv a1] [(.ref a1)]) (fun _ hr => XS.aloadN X0.here hx rfl (hb hby d12_12) rfl rfl hr) ?_
  exact Goes.ret (v := some (.ref a1)) X0 (by decide) (by decide) (fun h => by rw [Bd.returns] at h; cases h) ⟨rfl, N0, e0⟩ (fun fs hr => retOut X0 hx Bd.returns rfl (Or.inr (Or.inr (Or.inr (Or.inr ⟨rfl, rfl, rfl⟩)))) (hb hby d12_13) hr)
theorem d13_0 : decode jdk_32_method_2_code 0 = .ok (.aload_n 0, 1) := by decide +kernel
theorem d13_1 : decode jdk_32_method_2_code 1 = .ok (.invokespecial 7, 3) := by decide +kernel
theorem d13_4 : decode jdk_32_method_2_code 4 = .ok (.aload_n 0, 1) := by decide +kernel
theorem d13_5 : decode jdk_32_method_2_code 5 = .ok (.aload_n 1, 1) := by decide +kernel
theorem d13_6 : decode jdk_32_method_2_code 6 = .ok (.putfield 13, 3) := by decide +kernel
theorem d13_9 : decode jdk_32_method_2_code 9 = .ok (.return_, 1) := by decide +kernel
theorem pn_java_util_Optional : plainName cOP = true := by first | (simp [plainName, overriddenIn]; done) | decide +kernel
def Q_rm_oin (Z : State) (a1 : Addr) (w1 : Addr) (h0 : Heap) (n0 : Nat) (v : Option Value) (h : Heap) (L : List Loc) : Prop := v = none ∧ Fr n0 L ∧ Keep h0 h [a1] ∧ Fld Z h a1 cOP "value" dOB (.ref w1)
set_option maxRecDepth 65536 in
set_option maxHeartbeats 40000000 in
theorem rm_oin (l : Launch) (Z : State) (a0 : Array Value) (hw : ∀ d ∈ tables_1, d.before a0 Z = true) (ws : List Jvm.Cond) (a1 : Addr) (w1 : Addr) (h0 : Heap) (n0 : Nat) (Z0 : n0 ≤ h0.size) (O0 : Old Z n0 h0) (E_a1 : Exa Z h0 a1 cOP) (F_a1_value : Fld Z h0 a1 cOP "value" dOB .null) (ge_a1 : n0 ≤ a1) :
    MetFree l Y14 (head1 (Cond.code Y14 jdk_32_method_2_code 2 none :: ws) r0) (fun a U => a = #[(.ref a1), (.ref w1)] ∧ Z.Warmed39 U.vm ∧ U.heap = h0) (fun _ _ _ _ _ => True) (fun _ U o U' => ∃ v L, o = .returned v ∧ Q_rm_oin Z a1 w1 h0 n0 v U'.heap L ∧ FrameEnd U o U' L r0.cells r0.slots) := by
  refine MetFree.of_bodySF (plainFor_of_name pn_java_util_Optional) hisR ?_
  intro p e s m args below meth c s₁ Bd hml0 hP hK
  obtain ⟨rfl, hZ, hh⟩ := hP
  have hx := Bd.exec
  have hby := Bd.bytes
  have hml : c.maxLocals = 2 := hml0
  have hown : s.vm.findClass cOP = some m.cls := findClass_of_methodNamed Bd.named
  have hnm := (name_of_methodNamed Bd.named Bd.method).1
  have X0 : Stand p l e r0 s m #[(.ref a1), (.ref w1)] below meth c s₁ [] 0 0 := Stand.of_body Bd
  have e0 : s₁.heap = h0 := by rw [← hh, Bd.state]; rfl
  have N0 := Fr.nil n0
  refine Goes.out (l := l) (c := c) (R := r0) (Q := Q_rm_oin Z a1 w1 h0 n0) Bd.notSynchronized ?_
  refine Goes.cast (g2 := mkF m 0 #[rv a1, rv w1] []) (by first | (simp [entryFrame, mkF, argsToLocals, Value.category]; done) | rfl) ?_
  have K0 : Keep h0 h0 [a1] := Keep.refl h0 _
  refine gs s₁ (mkF m 1 #[rv a1, rv w1] [(.ref a1)]) (fun _ hr => XS.aloadN X0.here hx rfl (hb hby d13_0) rfl rfl hr) ?_
  obtain ⟨T25, X25, e25, st25⟩ := initO X0 hx hZ hown (tw hw 121 rfl) (tw hw 23 rfl) (tw hw 24 rfl) e0 (g := (mkF m 1 #[rv a1, rv w1] [(.ref a1)])) rfl (by rw [hml]; rfl) rfl (hb hby d13_1) (by decide) (W := 0) (wle rfl) (by decide)
  refine gs T25 (mkF m 4 #[rv a1, rv w1] []) st25 ?_
  refine gs T25 (mkF m 5 #[rv a1, rv w1] [(.ref a1)]) (fun _ hr => XS.aloadN X25.here hx rfl (hb hby d13_4) rfl rfl hr) ?_
  refine gs T25 (mkF m 6 #[rv a1, rv w1] [(.ref w1), (.ref a1)]) (fun _ hr => XS.aloadN X25.here hx rfl (hb hby d13_5) rfl rfl hr) ?_
  obtain ⟨T26, h26, X26, e26, W26, st26⟩ := putF X25 hx hZ hown (host := "") (Or.inl (tw hw 65 rfl)) Via.refl e25 F_a1_value E_a1 (Or.inr ⟨(tw hw 66 rfl), rfl, hnm⟩) (tw hw 116 rfl) (ty := (.object "java/lang/Object")) (by decide) rfl rfl (g := (mkF m 6 #[rv a1, rv w1] [(.ref w1), (.ref a1)])) rfl rfl (hb hby d13_6)
  have K26 : Keep h0 h26 [a1] := K0.wr W26 (Or.inl (List.mem_of_getElem? (i := 0) rfl))
  have N26 := Fr.snoc X26 N0 ge_a1
  have F_a1_value_26 : Fld Z h26 a1 cOP "value" dOB (.ref w1) := F_a1_value.same W26
  refine gs T26 (mkF m 9 #[rv a1, rv w1] []) st26 ?_
  exact Goes.ret (v := none) X26 (by decide) (by decide) (fun _ => rfl) (by show Q_rm_oin Z a1 w1 h0 n0 _ T26.heap _; rw [e26]; exact ⟨rfl, N26, K26, F_a1_value_26⟩) (fun fs hr => X26.returnOut hx Bd.returns (hb hby d13_9) hr)
theorem d14_0 : decode jdk_32_method_3_code 0 = .ok (.new 2, 3) := by decide +kernel
theorem d14_3 : decode jdk_32_method_3_code 3 = .ok (.dup, 1) := by decide +kernel
theorem d14_4 : decode jdk_32_method_3_code 4 = .ok (.aload_n 0, 1) := by decide +kernel
theorem d14_5 : decode jdk_32_method_3_code 5 = .ok (.invokestatic 17, 3) := by decide +kernel
theorem d14_8 : decode jdk_32_method_3_code 8 = .ok (.invokespecial 23, 3) := by decide +kernel
theorem d14_11 : decode jdk_32_method_3_code 11 = .ok (.areturn, 1) := by decide +kernel
def Q_rm_oof (Z : State) (w1 : Addr) (h0 : Heap) (n0 : Nat) (v : Option Value) (h : Heap) (L : List Loc) : Prop := ∃ w : Addr, v = some (.ref w) ∧ Fr n0 L ∧ Keep h0 h [] ∧ h0.size ≤ w ∧ Exa Z h w cOP ∧ Fld Z h w cOP "value" dOB (.ref w1)
set_option maxRecDepth 65536 in
set_option maxHeartbeats 40000000 in
theorem rm_oof (l : Launch) (Z : State) (a0 : Array Value) (hw : ∀ d ∈ tables_1, d.before a0 Z = true) (ws : List Jvm.Cond) (w1 : Addr) (h0 : Heap) (n0 : Nat) (Z0 : n0 ≤ h0.size) (O0 : Old Z n0 h0) :
    MetFree l Y15 (head1 (Cond.code Y15 jdk_32_method_3_code 1 (some (.object cOP)) :: ws) r3) (fun a U => a = #[(.ref w1)] ∧ Z.Warmed39 U.vm ∧ U.heap = h0) (fun _ _ _ _ _ => True) (fun _ U o U' => ∃ v L, o = .returned v ∧ Q_rm_oof Z w1 h0 n0 v U'.heap L ∧ FrameEnd U o U' L r3.cells r3.slots) := by
  refine MetFree.of_bodySF (plainFor_of_name pn_java_util_Optional) hisR ?_
  intro p e s m args below meth c s₁ Bd hml0 hP hK
  obtain ⟨rfl, hZ, hh⟩ := hP
  have hx := Bd.exec
  have hby := Bd.bytes
  have hml : c.maxLocals = 1 := hml0
  have hown : s.vm.findClass cOP = some m.cls := findClass_of_methodNamed Bd.named
  have hnm := (name_of_methodNamed Bd.named Bd.method).1
  have X0 : Stand p l e r3 s m #[(.ref w1)] below meth c s₁ [] 0 0 := Stand.of_body Bd
  have e0 : s₁.heap = h0 := by rw [← hh, Bd.state]; rfl
  have N0 := Fr.nil n0
  refine Goes.out (l := l) (c := c) (R := r3) (Q := Q_rm_oof Z w1 h0 n0) Bd.notSynchronized ?_
  refine Goes.cast (g2 := mkF m 0 #[rv w1] []) (by first | (simp [entryFrame, mkF, argsToLocals, Value.category]; done) | rfl) ?_
  have K0 : Keep h0 h0 [] := Keep.refl h0 _
  have hws : ∀ x ∈ ([] : List Addr), n0 ≤ x := all0
  obtain ⟨T27, h27, X27, e27, E27, A27, D27, -, st27⟩ := newO X0 hx hZ hown (tw hw 115 rfl) (tw hw 116 rfl) (tw hw 8 rfl) e0 (g := (mkF m 0 #[rv w1] [])) rfl (hb hby d14_0) (by decide) (by decide)
  obtain ⟨b27, g27⟩ : ∃ z, z = h0.size := ⟨_, rfl⟩
  rw [← g27] at A27 D27 st27
  have sz_b27 : h0.size ≤ b27 := Nat.le_trans K0.1 (Nat.le_of_eq g27.symm)
  have ge_b27 : n0 ≤ b27 := Nat.le_trans Z0 sz_b27
  have K27 : Keep h0 h27 [] := K0.ext E27
  have F_b27_value_27 : Fld Z h27 b27 cOP "value" dOB .null := D27 (Or.inr (tw hw 66 rfl)) (ty := (.object "java/lang/Object")) (by decide)
  refine gs T27 (mkF m 3 #[rv w1] [(.ref b27)]) st27 ?_
  refine gs T27 (mkF m 4 #[rv w1] [(.ref b27), (.ref b27)]) (fun _ hr => XS.dup X27.here hx rfl (hb hby d14_3) rfl rfl hr) ?_
  refine gs T27 (mkF m 5 #[rv w1] [(.ref w1), (.ref b27), (.ref b27)]) (fun _ hr => XS.aloadN X27.here hx rfl (hb hby d14_4) rfl rfl hr) ?_
  have Zs28 : n0 ≤ h27.size := Nat.le_trans Z0 K27.1
  obtain ⟨_, _, ⟨T29, L29, k29, n29⟩, -, X29, ⟨Lc29, hQ29, l29, y29, z29⟩, st29⟩ := LawKit.callS X27 hx (y := Y13) hown (mvT hZ (tw hw 57 rfl)) (mvT hZ (tw hw 58 rfl)) (mvT hZ (tw hw 35 rfl)) (mvT hZ (tw hw 59 rfl)) (by decide) (backOf (W := 2) (rm_rnn1 l Z a0 hw [] w1 h27 n0 Zs28 (Old.keep O0 K27 hws)) hZ (tw hw 59 rfl) (tw hw 35 rfl) (by decide) (by decide)) (g := (mkF m 5 #[rv w1] [(.ref w1), (.ref b27), (.ref b27)])) rfl (by rw [hml]; rfl) (argsL := [(.ref w1)]) (rest := [(.ref b27), (.ref b27)]) (lenOf pd_3 rfl) rfl (wle rfl) (hb hby d14_5) (fun _ _ => ⟨rfl, e27, (by decide : 1 + 0 ≤ _), (by decide : 1 + 0 ≤ _)⟩)
  dsimp only [Pt.U, Pt.locs, Pt.cells, Pt.slots] at X29 l29 y29 z29 st29 hQ29
  subst l29 y29 z29
  obtain ⟨rfl, N29q, e29⟩ := hQ29
  have N29 := Fr.app N0 N29q
  refine gs T29 (mkF m 8 #[rv w1] [(.ref w1), (.ref b27), (.ref b27)]) st29 ?_
  have Zs30 : n0 ≤ h27.size := Nat.le_trans Z0 K27.1
  obtain ⟨_, _, ⟨T31, L31, k31, n31⟩, -, X31, ⟨Lc31, hQ31, l31, y31, z31⟩, st31⟩ := X29.specialBack hx (y := Y14) rfl hown (mvT hZ (tw hw 117 rfl)) (mvT hZ (tw hw 118 rfl)) (mvT hZ (tw hw 120 rfl)) (by decide) (backOf (W := 1) (rm_oin l Z a0 hw [] b27 w1 h27 n0 Zs30 (Old.keep O0 K27 hws) A27 F_b27_value_27 ge_b27) hZ (tw hw 120 rfl) (tw hw 8 rfl) (by decide) (by decide)) (g := (mkF m 8 #[rv w1] [(.ref w1), (.ref b27), (.ref b27)])) rfl (by rw [hml]; rfl) (Steps.refl _) (a := b27) (argsL := [(.ref w1)]) (rest := [(.ref b27)]) (lenOf pd_4 rfl) rfl (wle rfl) (hb hby d14_8) (fun _ _ => ⟨rfl, e29, (by decide : 1 + 0 ≤ _), (by decide : 1 + 0 ≤ _)⟩)
  dsimp only [Pt.U, Pt.locs, Pt.cells, Pt.slots] at X31 l31 y31 z31 st31 hQ31
  subst l31 y31 z31
  obtain ⟨rfl, N31q, Kc31, P31_0⟩ := hQ31
  have N31 := Fr.app N29 N31q
  have E_b27_31 : Exa Z T31.heap b27 cOP := A27.keep Kc31
  have K31 : Keep h0 T31.heap [] := K27.trans Kc31 (allS (Or.inr sz_b27) all0)
  have F_b27_value_31c : Fld Z T31.heap b27 cOP "value" dOB (.ref w1) := P31_0
  refine gs T31 (mkF m 11 #[rv w1] [(.ref b27)]) (fun _ hr => st31.trans hr) ?_
  exact Goes.ret (v := some (.ref b27)) X31 (by decide) (by decide) (fun h => by rw [Bd.returns] at h; cases h) (by show Q_rm_oof Z w1 h0 n0 _ T31.heap _; exact ⟨b27, rfl, N31, K31, sz_b27, E_b27_31, F_b27_value_31c⟩) (fun fs hr => retOut X31 hx Bd.returns rfl (Or.inr (Or.inr (Or.inr (Or.inr ⟨rfl, rfl, rfl⟩)))) (hb hby d14_11) hr)
theorem d15_0 : decode jdk_32_method_4_code 0 = .ok (.aload_n 0, 1) := by decide +kernel
theorem d15_1 : decode jdk_32_method_4_code 1 = .ok (.ifnonnull 9, 3) := by decide +kernel
theorem d15_10 : decode jdk_32_method_4_code 10 = .ok (.new 2, 3) := by decide +kernel
theorem d15_13 : decode jdk_32_method_4_code 13 = .ok (.dup, 1) := by decide +kernel
theorem d15_14 : decode jdk_32_method_4_code 14 = .ok (.aload_n 0, 1) := by decide +kernel
theorem d15_15 : decode jdk_32_method_4_code 15 = .ok (.invokespecial 23, 3) := by decide +kernel
theorem d15_18 : decode jdk_32_method_4_code 18 = .ok (.areturn, 1) := by decide +kernel
def Q_rm_oofn (Z : State) (w1 : Addr) (h0 : Heap) (n0 : Nat) (v : Option Value) (h : Heap) (L : List Loc) : Prop := ∃ w : Addr, v = some (.ref w) ∧ Fr n0 L ∧ Keep h0 h [] ∧ h0.size ≤ w ∧ Exa Z h w cOP ∧ Fld Z h w cOP "value" dOB (.ref w1)
set_option maxRecDepth 65536 in
set_option maxHeartbeats 40000000 in
theorem rm_oofn (l : Launch) (Z : State) (a0 : Array Value) (hw : ∀ d ∈ tables_1, d.before a0 Z = true) (ws : List Jvm.Cond) (w1 : Addr) (h0 : Heap) (n0 : Nat) (Z0 : n0 ≤ h0.size) (O0 : Old Z n0 h0) :
    MetFree l Y16 (head1 (Cond.code Y16 jdk_32_method_4_code 1 (some (.object cOP)) :: ws) r3) (fun a U => a = #[(.ref w1)] ∧ Z.Warmed39 U.vm ∧ U.heap = h0) (fun _ _ _ _ _ => True) (fun _ U o U' => ∃ v L, o = .returned v ∧ Q_rm_oofn Z w1 h0 n0 v U'.heap L ∧ FrameEnd U o U' L r3.cells r3.slots) := by
  refine MetFree.of_bodySF (plainFor_of_name pn_java_util_Optional) hisR ?_
  intro p e s m args below meth c s₁ Bd hml0 hP hK
  obtain ⟨rfl, hZ, hh⟩ := hP
  have hx := Bd.exec
  have hby := Bd.bytes
  have hml : c.maxLocals = 1 := hml0
  have hown : s.vm.findClass cOP = some m.cls := findClass_of_methodNamed Bd.named
  have hnm := (name_of_methodNamed Bd.named Bd.method).1
  have X0 : Stand p l e r3 s m #[(.ref w1)] below meth c s₁ [] 0 0 := Stand.of_body Bd
  have e0 : s₁.heap = h0 := by rw [← hh, Bd.state]; rfl
  have N0 := Fr.nil n0
  refine Goes.out (l := l) (c := c) (R := r3) (Q := Q_rm_oofn Z w1 h0 n0) Bd.notSynchronized ?_
  refine Goes.cast (g2 := mkF m 0 #[rv w1] []) (by first | (simp [entryFrame, mkF, argsToLocals, Value.category]; done) | rfl) ?_
  have K0 : Keep h0 h0 [] := Keep.refl h0 _
  have hws : ∀ x ∈ ([] : List Addr), n0 ≤ x := all0
  refine gs s₁ (mkF m 1 #[rv w1] [(.ref w1)]) (fun _ hr => XS.aloadN X0.here hx rfl (hb hby d15_0) rfl rfl hr) ?_
  refine gs s₁ (mkF m 10 #[rv w1] []) (fun _ hr => XT.ifnonnullYes X0.here hx rfl (pc0 := 1) (pc' := 10) rfl (hb hby d15_1) rfl (by decide) (by decide) hr) ?_
  obtain ⟨T32, h32, X32, e32, E32, A32, D32, -, st32⟩ := newO X0 hx hZ hown (tw hw 115 rfl) (tw hw 116 rfl) (tw hw 8 rfl) e0 (g := (mkF m 10 #[rv w1] [])) rfl (hb hby d15_10) (by decide) (by decide)
  obtain ⟨b32, g32⟩ : ∃ z, z = h0.size := ⟨_, rfl⟩
  rw [← g32] at A32 D32 st32
  have sz_b32 : h0.size ≤ b32 := Nat.le_trans K0.1 (Nat.le_of_eq g32.symm)
  have ge_b32 : n0 ≤ b32 := Nat.le_trans Z0 sz_b32
  have K32 : Keep h0 h32 [] := K0.ext E32
  have F_b32_value_32 : Fld Z h32 b32 cOP "value" dOB .null := D32 (Or.inr (tw hw 66 rfl)) (ty := (.object "java/lang/Object")) (by decide)
  refine gs T32 (mkF m 13 #[rv w1] [(.ref b32)]) st32 ?_
  refine gs T32 (mkF m 14 #[rv w1] [(.ref b32), (.ref b32)]) (fun _ hr => XS.dup X32.here hx rfl (hb hby d15_13) rfl rfl hr) ?_
  refine gs T32 (mkF m 15 #[rv w1] [(.ref w1), (.ref b32), (.ref b32)]) (fun _ hr => XS.aloadN X32.here hx rfl (hb hby d15_14) rfl rfl hr) ?_
  have Zs33 : n0 ≤ h32.size := Nat.le_trans Z0 K32.1
  obtain ⟨_, _, ⟨T34, L34, k34, n34⟩, -, X34, ⟨Lc34, hQ34, l34, y34, z34⟩, st34⟩ := X32.specialBack hx (y := Y14) rfl hown (mvT hZ (tw hw 117 rfl)) (mvT hZ (tw hw 118 rfl)) (mvT hZ (tw hw 120 rfl)) (by decide) (backOf (W := 1) (rm_oin l Z a0 hw [] b32 w1 h32 n0 Zs33 (Old.keep O0 K32 hws) A32 F_b32_value_32 ge_b32) hZ (tw hw 120 rfl) (tw hw 8 rfl) (by decide) (by decide)) (g := (mkF m 15 #[rv w1] [(.ref w1), (.ref b32), (.ref b32)])) rfl (by rw [hml]; rfl) (Steps.refl _) (a := b32) (argsL := [(.ref w1)]) (rest := [(.ref b32)]) (lenOf pd_4 rfl) rfl (wle rfl) (hb hby d15_15) (fun _ _ => ⟨rfl, e32, (by decide : 1 + 0 ≤ _), (by decide : 1 + 0 ≤ _)⟩)
  dsimp only [Pt.U, Pt.locs, Pt.cells, Pt.slots] at X34 l34 y34 z34 st34 hQ34
  subst l34 y34 z34
  obtain ⟨rfl, N34q, Kc34, P34_0⟩ := hQ34
  have N34 := Fr.app N0 N34q
  have E_b32_34 : Exa Z T34.heap b32 cOP := A32.keep Kc34
  have K34 : Keep h0 T34.heap [] := K32.trans Kc34 (allS (Or.inr sz_b32) all0)
  have F_b32_value_34c : Fld Z T34.heap b32 cOP "value" dOB (.ref w1) := P34_0
  refine gs T34 (mkF m 18 #[rv w1] [(.ref b32)]) (fun _ hr => st34.trans hr) ?_
  exact Goes.ret (v := some (.ref b32)) X34 (by decide) (by decide) (fun h => by rw [Bd.returns] at h; cases h) (by show Q_rm_oofn Z w1 h0 n0 _ T34.heap _; exact ⟨b32, rfl, N34, K34, sz_b32, E_b32_34, F_b32_value_34c⟩) (fun fs hr => retOut X34 hx Bd.returns rfl (Or.inr (Or.inr (Or.inr (Or.inr ⟨rfl, rfl, rfl⟩)))) (hb hby d15_18) hr)
theorem d16_0 : decode jdk_32_method_1_code 0 = .ok (.getstatic 1, 3) := by decide +kernel
theorem d16_3 : decode jdk_32_method_1_code 3 = .ok (.astore_n 0, 1) := by decide +kernel
theorem d16_4 : decode jdk_32_method_1_code 4 = .ok (.aload_n 0, 1) := by decide +kernel
theorem d16_5 : decode jdk_32_method_1_code 5 = .ok (.areturn, 1) := by decide +kernel
def Q_rm_oem (Z : State) (eo : Addr) (h0 : Heap) (n0 : Nat) (v : Option Value) (h : Heap) (L : List Loc) : Prop := v = some (.ref eo) ∧ Fr n0 L ∧ h = h0
set_option maxRecDepth 65536 in
set_option maxHeartbeats 40000000 in
theorem rm_oem (l : Launch) (Z : State) (a0 : Array Value) (hw : ∀ d ∈ tables_1, d.before a0 Z = true) (ws : List Jvm.Cond) (eo : Addr) (h0 : Heap) (n0 : Nat) (Z0 : n0 ≤ h0.size) (O0 : Old Z n0 h0) (S_Optional_EMPTY_old : Sta Z Z.heap cOP "EMPTY" dOP (.ref eo)) :
    MetFree l Y17 (head1 (Cond.code Y17 jdk_32_method_1_code 1 (some (.object cOP)) :: ws) r2) (fun a U => a = #[] ∧ Z.Warmed39 U.vm ∧ U.heap = h0) (fun _ _ _ _ _ => True) (fun _ U o U' => ∃ v L, o = .returned v ∧ Q_rm_oem Z eo h0 n0 v U'.heap L ∧ FrameEnd U o U' L r2.cells r2.slots) := by
  refine MetFree.of_bodySF (plainFor_of_name pn_java_util_Optional) hisR ?_
  intro p e s m args below meth c s₁ Bd hml0 hP hK
  obtain ⟨rfl, hZ, hh⟩ := hP
  have hx := Bd.exec
  have hby := Bd.bytes
  have hml : c.maxLocals = 1 := hml0
  have hown : s.vm.findClass cOP = some m.cls := findClass_of_methodNamed Bd.named
  have hnm := (name_of_methodNamed Bd.named Bd.method).1
  have X0 : Stand p l e r2 s m #[] below meth c s₁ [] 0 0 := Stand.of_body Bd
  have e0 : s₁.heap = h0 := by rw [← hh, Bd.state]; rfl
  have N0 := Fr.nil n0
  refine Goes.out (l := l) (c := c) (R := r2) (Q := Q_rm_oem Z eo h0 n0) Bd.notSynchronized ?_
  refine Goes.cast (g2 := mkF m 0 #[.unset] []) (by first | (simp [entryFrame, mkF, argsToLocals, Value.category]; done) | rfl) ?_
  have K0 : Keep h0 h0 [] := Keep.refl h0 _
  have hws : ∀ x ∈ ([] : List Addr), n0 ≤ x := all0
  obtain ⟨T35, X35, e35, st35⟩ := getS2 X0 hx hZ hown (host := "") (Or.inl (tw hw 10 rfl)) Via.refl e0 (S_Optional_EMPTY_old.ext (Old.keep O0 K0 hws).2) (g := (mkF m 0 #[.unset] [])) rfl (hb hby d16_0)
  refine gs T35 (mkF m 3 #[.unset] [(.ref eo)]) st35 ?_
  refine gs T35 (mkF m 4 #[rv eo] []) (fun _ hr => XS.astoreN X35.here hx rfl (hb hby d16_3) rfl rfl (l' := #[rv eo]) rfl hr) ?_
  refine gs T35 (mkF m 5 #[rv eo] [(.ref eo)]) (fun _ hr => XS.aloadN X35.here hx rfl (hb hby d16_4) rfl rfl hr) ?_
  exact Goes.ret (v := some (.ref eo)) X35 (by decide) (by decide) (fun h => by rw [Bd.returns] at h; cases h) ⟨rfl, N0, e35⟩ (fun fs hr => retOut X35 hx Bd.returns rfl (Or.inr (Or.inr (Or.inr (Or.inr ⟨rfl, rfl, rfl⟩)))) (hb hby d16_5) hr)
theorem d17_0 : decode jdk_32_method_7_code 0 = .ok (.aload_n 0, 1) := by decide +kernel
theorem d17_1 : decode jdk_32_method_7_code 1 = .ok (.getfield 13, 3) := by decide +kernel
theorem d17_4 : decode jdk_32_method_7_code 4 = .ok (.ifnonnull 7, 3) := by decide +kernel
theorem d17_7 : decode jdk_32_method_7_code 7 = .ok (.iconst 1, 1) := by decide +kernel
theorem d17_8 : decode jdk_32_method_7_code 8 = .ok (.goto 4, 3) := by decide +kernel
theorem d17_12 : decode jdk_32_method_7_code 12 = .ok (.ireturn, 1) := by decide +kernel
def Q_rm_oise0 (Z : State) (a1 : Addr) (h0 : Heap) (n0 : Nat) (v : Option Value) (h : Heap) (L : List Loc) : Prop := v = some (.int (1 : Int32)) ∧ Fr n0 L ∧ h = h0
set_option maxRecDepth 65536 in
set_option maxHeartbeats 40000000 in
theorem rm_oise0 (l : Launch) (Z : State) (a0 : Array Value) (hw : ∀ d ∈ tables_1, d.before a0 Z = true) (ws : List Jvm.Cond) (a1 : Addr) (h0 : Heap) (n0 : Nat) (Z0 : n0 ≤ h0.size) (O0 : Old Z n0 h0) (F_a1_value : Fld Z h0 a1 cOP "value" dOB .null) :
    MetFree l Y18 (head1 (Cond.code Y18 jdk_32_method_7_code 1 (some .boolean) :: ws) r2) (fun a U => a = #[(.ref a1)] ∧ Z.Warmed39 U.vm ∧ U.heap = h0) (fun _ _ _ _ _ => True) (fun _ U o U' => ∃ v L, o = .returned v ∧ Q_rm_oise0 Z a1 h0 n0 v U'.heap L ∧ FrameEnd U o U' L r2.cells r2.slots) := by
  refine MetFree.of_bodySF (plainFor_of_name pn_java_util_Optional) hisR ?_
  intro p e s m args below meth c s₁ Bd hml0 hP hK
  obtain ⟨rfl, hZ, hh⟩ := hP
  have hx := Bd.exec
  have hby := Bd.bytes
  have hml : c.maxLocals = 1 := hml0
  have hown : s.vm.findClass cOP = some m.cls := findClass_of_methodNamed Bd.named
  have hnm := (name_of_methodNamed Bd.named Bd.method).1
  have X0 : Stand p l e r2 s m #[(.ref a1)] below meth c s₁ [] 0 0 := Stand.of_body Bd
  have e0 : s₁.heap = h0 := by rw [← hh, Bd.state]; rfl
  have N0 := Fr.nil n0
  refine Goes.out (l := l) (c := c) (R := r2) (Q := Q_rm_oise0 Z a1 h0 n0) Bd.notSynchronized ?_
  refine Goes.cast (g2 := mkF m 0 #[rv a1] []) (by first | (simp [entryFrame, mkF, argsToLocals, Value.category]; done) | rfl) ?_
  refine gs s₁ (mkF m 1 #[rv a1] [(.ref a1)]) (fun _ hr => XS.aloadN X0.here hx rfl (hb hby d17_0) rfl rfl hr) ?_
  obtain ⟨T36, X36, e36, st36⟩ := getF X0 hx hZ hown (host := "") (Or.inl (tw hw 65 rfl)) Via.refl e0 F_a1_value (g := (mkF m 1 #[rv a1] [(.ref a1)])) rfl rfl (hb hby d17_1)
  refine gs T36 (mkF m 4 #[rv a1] [.null]) st36 ?_
  refine gs T36 (mkF m 7 #[rv a1] []) (fun _ hr => XT.ifnonnullNo X36.here hx rfl (hb hby d17_4) rfl hr) ?_
  refine gs T36 (mkF m 8 #[rv a1] [(.int (1 : Int32))]) (fun _ hr => XS.iconst X36.here hx rfl (hb hby d17_7) hr) ?_
  refine gs T36 (mkF m 12 #[rv a1] [(.int (1 : Int32))]) (fun _ hr => XS.goto X36.here hx rfl (pc0 := 8) (pc' := 12) rfl (hb hby d17_8) (by decide) (by decide) hr) ?_
  exact Goes.ret (v := some (.int (1 : Int32))) X36 (by decide) (by decide) (fun h => by rw [Bd.returns] at h; cases h) ⟨rfl, N0, e36⟩ (fun fs hr => retN X36 hx (t := .boolean) Bd.returns (by simp) (hb hby d17_12) hr)
theorem d18_0 : decode jdk_32_method_6_code 0 = .ok (.aload_n 0, 1) := by decide +kernel
theorem d18_1 : decode jdk_32_method_6_code 1 = .ok (.getfield 13, 3) := by decide +kernel
theorem d18_4 : decode jdk_32_method_6_code 4 = .ok (.ifnull 7, 3) := by decide +kernel
theorem d18_11 : decode jdk_32_method_6_code 11 = .ok (.iconst 0, 1) := by decide +kernel
theorem d18_12 : decode jdk_32_method_6_code 12 = .ok (.ireturn, 1) := by decide +kernel
def Q_rm_oisp0 (Z : State) (a1 : Addr) (h0 : Heap) (n0 : Nat) (v : Option Value) (h : Heap) (L : List Loc) : Prop := v = some (.int (0 : Int32)) ∧ Fr n0 L ∧ h = h0
set_option maxRecDepth 65536 in
set_option maxHeartbeats 40000000 in
theorem rm_oisp0 (l : Launch) (Z : State) (a0 : Array Value) (hw : ∀ d ∈ tables_1, d.before a0 Z = true) (ws : List Jvm.Cond) (a1 : Addr) (h0 : Heap) (n0 : Nat) (Z0 : n0 ≤ h0.size) (O0 : Old Z n0 h0) (F_a1_value : Fld Z h0 a1 cOP "value" dOB .null) :
    MetFree l Y19 (head1 (Cond.code Y19 jdk_32_method_6_code 1 (some .boolean) :: ws) r2) (fun a U => a = #[(.ref a1)] ∧ Z.Warmed39 U.vm ∧ U.heap = h0) (fun _ _ _ _ _ => True) (fun _ U o U' => ∃ v L, o = .returned v ∧ Q_rm_oisp0 Z a1 h0 n0 v U'.heap L ∧ FrameEnd U o U' L r2.cells r2.slots) := by
  refine MetFree.of_bodySF (plainFor_of_name pn_java_util_Optional) hisR ?_
  intro p e s m args below meth c s₁ Bd hml0 hP hK
  obtain ⟨rfl, hZ, hh⟩ := hP
  have hx := Bd.exec
  have hby := Bd.bytes
  have hml : c.maxLocals = 1 := hml0
  have hown : s.vm.findClass cOP = some m.cls := findClass_of_methodNamed Bd.named
  have hnm := (name_of_methodNamed Bd.named Bd.method).1
  have X0 : Stand p l e r2 s m #[(.ref a1)] below meth c s₁ [] 0 0 := Stand.of_body Bd
  have e0 : s₁.heap = h0 := by rw [← hh, Bd.state]; rfl
  have N0 := Fr.nil n0
  refine Goes.out (l := l) (c := c) (R := r2) (Q := Q_rm_oisp0 Z a1 h0 n0) Bd.notSynchronized ?_
  refine Goes.cast (g2 := mkF m 0 #[rv a1] []) (by first | (simp [entryFrame, mkF, argsToLocals, Value.category]; done) | rfl) ?_
  refine gs s₁ (mkF m 1 #[rv a1] [(.ref a1)]) (fun _ hr => XS.aloadN X0.here hx rfl (hb hby d18_0) rfl rfl hr) ?_
  obtain ⟨T37, X37, e37, st37⟩ := getF X0 hx hZ hown (host := "") (Or.inl (tw hw 65 rfl)) Via.refl e0 F_a1_value (g := (mkF m 1 #[rv a1] [(.ref a1)])) rfl rfl (hb hby d18_1)
  refine gs T37 (mkF m 4 #[rv a1] [.null]) st37 ?_
  refine gs T37 (mkF m 11 #[rv a1] []) (fun _ hr => XS.ifnullYes X37.here hx rfl (pc0 := 4) (pc' := 11) rfl (hb hby d18_4) rfl (by decide) (by decide) hr) ?_
  refine gs T37 (mkF m 12 #[rv a1] [(.int (0 : Int32))]) (fun _ hr => XS.iconst X37.here hx rfl (hb hby d18_11) hr) ?_
  exact Goes.ret (v := some (.int (0 : Int32))) X37 (by decide) (by decide) (fun h => by rw [Bd.returns] at h; cases h) ⟨rfl, N0, e37⟩ (fun fs hr => retN X37 hx (t := .boolean) Bd.returns (by simp) (hb hby d18_12) hr)
theorem d19_0 : decode jdk_32_method_15_code 0 = .ok (.aload_n 0, 1) := by decide +kernel
theorem d19_1 : decode jdk_32_method_15_code 1 = .ok (.getfield 13, 3) := by decide +kernel
theorem d19_4 : decode jdk_32_method_15_code 4 = .ok (.ifnull 10, 3) := by decide +kernel
theorem d19_14 : decode jdk_32_method_15_code 14 = .ok (.aload_n 1, 1) := by decide +kernel
theorem d19_15 : decode jdk_32_method_15_code 15 = .ok (.areturn, 1) := by decide +kernel
def Q_rm_oore0 (Z : State) (a1 : Addr) (w2 : Addr) (h0 : Heap) (n0 : Nat) (v : Option Value) (h : Heap) (L : List Loc) : Prop := v = some (.ref w2) ∧ Fr n0 L ∧ h = h0
set_option maxRecDepth 65536 in
set_option maxHeartbeats 40000000 in
theorem rm_oore0 (l : Launch) (Z : State) (a0 : Array Value) (hw : ∀ d ∈ tables_1, d.before a0 Z = true) (ws : List Jvm.Cond) (a1 : Addr) (w2 : Addr) (h0 : Heap) (n0 : Nat) (Z0 : n0 ≤ h0.size) (O0 : Old Z n0 h0) (F_a1_value : Fld Z h0 a1 cOP "value" dOB .null) :
    MetFree l Y20 (head1 (Cond.code Y20 jdk_32_method_15_code 2 (some (.object "java/lang/Object")) :: ws) r2) (fun a U => a = #[(.ref a1), (.ref w2)] ∧ Z.Warmed39 U.vm ∧ U.heap = h0) (fun _ _ _ _ _ => True) (fun _ U o U' => ∃ v L, o = .returned v ∧ Q_rm_oore0 Z a1 w2 h0 n0 v U'.heap L ∧ FrameEnd U o U' L r2.cells r2.slots) := by
  refine MetFree.of_bodySF (plainFor_of_name pn_java_util_Optional) hisR ?_
  intro p e s m args below meth c s₁ Bd hml0 hP hK
  obtain ⟨rfl, hZ, hh⟩ := hP
  have hx := Bd.exec
  have hby := Bd.bytes
  have hml : c.maxLocals = 2 := hml0
  have hown : s.vm.findClass cOP = some m.cls := findClass_of_methodNamed Bd.named
  have hnm := (name_of_methodNamed Bd.named Bd.method).1
  have X0 : Stand p l e r2 s m #[(.ref a1), (.ref w2)] below meth c s₁ [] 0 0 := Stand.of_body Bd
  have e0 : s₁.heap = h0 := by rw [← hh, Bd.state]; rfl
  have N0 := Fr.nil n0
  refine Goes.out (l := l) (c := c) (R := r2) (Q := Q_rm_oore0 Z a1 w2 h0 n0) Bd.notSynchronized ?_
  refine Goes.cast (g2 := mkF m 0 #[rv a1, rv w2] []) (by first | (simp [entryFrame, mkF, argsToLocals, Value.category]; done) | rfl) ?_
  refine gs s₁ (mkF m 1 #[rv a1, rv w2] [(.ref a1)]) (fun _ hr => XS.aloadN X0.here hx rfl (hb hby d19_0) rfl rfl hr) ?_
  obtain ⟨T38, X38, e38, st38⟩ := getF X0 hx hZ hown (host := "") (Or.inl (tw hw 65 rfl)) Via.refl e0 F_a1_value (g := (mkF m 1 #[rv a1, rv w2] [(.ref a1)])) rfl rfl (hb hby d19_1)
  refine gs T38 (mkF m 4 #[rv a1, rv w2] [.null]) st38 ?_
  refine gs T38 (mkF m 14 #[rv a1, rv w2] []) (fun _ hr => XS.ifnullYes X38.here hx rfl (pc0 := 4) (pc' := 14) rfl (hb hby d19_4) rfl (by decide) (by decide) hr) ?_
  refine gs T38 (mkF m 15 #[rv a1, rv w2] [(.ref w2)]) (fun _ hr => XS.aloadN X38.here hx rfl (hb hby d19_14) rfl rfl hr) ?_
  exact Goes.ret (v := some (.ref w2)) X38 (by decide) (by decide) (fun h => by rw [Bd.returns] at h; cases h) ⟨rfl, N0, e38⟩ (fun fs hr => retOut X38 hx Bd.returns rfl (Or.inr (Or.inr (Or.inr (Or.inr ⟨rfl, rfl, rfl⟩)))) (hb hby d19_15) hr)
theorem d17_11 : decode jdk_32_method_7_code 11 = .ok (.iconst 0, 1) := by decide +kernel
def Q_rm_oise1 (Z : State) (a1 : Addr) (w1 : Addr) (h0 : Heap) (n0 : Nat) (v : Option Value) (h : Heap) (L : List Loc) : Prop := v = some (.int (0 : Int32)) ∧ Fr n0 L ∧ h = h0
set_option maxRecDepth 65536 in
set_option maxHeartbeats 40000000 in
theorem rm_oise1 (l : Launch) (Z : State) (a0 : Array Value) (hw : ∀ d ∈ tables_1, d.before a0 Z = true) (ws : List Jvm.Cond) (a1 : Addr) (w1 : Addr) (h0 : Heap) (n0 : Nat) (Z0 : n0 ≤ h0.size) (O0 : Old Z n0 h0) (F_a1_value : Fld Z h0 a1 cOP "value" dOB (.ref w1)) :
    MetFree l Y18 (head1 (Cond.code Y18 jdk_32_method_7_code 1 (some .boolean) :: ws) r2) (fun a U => a = #[(.ref a1)] ∧ Z.Warmed39 U.vm ∧ U.heap = h0) (fun _ _ _ _ _ => True) (fun _ U o U' => ∃ v L, o = .returned v ∧ Q_rm_oise1 Z a1 w1 h0 n0 v U'.heap L ∧ FrameEnd U o U' L r2.cells r2.slots) := by
  refine MetFree.of_bodySF (plainFor_of_name pn_java_util_Optional) hisR ?_
  intro p e s m args below meth c s₁ Bd hml0 hP hK
  obtain ⟨rfl, hZ, hh⟩ := hP
  have hx := Bd.exec
  have hby := Bd.bytes
  have hml : c.maxLocals = 1 := hml0
  have hown : s.vm.findClass cOP = some m.cls := findClass_of_methodNamed Bd.named
  have hnm := (name_of_methodNamed Bd.named Bd.method).1
  have X0 : Stand p l e r2 s m #[(.ref a1)] below meth c s₁ [] 0 0 := Stand.of_body Bd
  have e0 : s₁.heap = h0 := by rw [← hh, Bd.state]; rfl
  have N0 := Fr.nil n0
  refine Goes.out (l := l) (c := c) (R := r2) (Q := Q_rm_oise1 Z a1 w1 h0 n0) Bd.notSynchronized ?_
  refine Goes.cast (g2 := mkF m 0 #[rv a1] []) (by first | (simp [entryFrame, mkF, argsToLocals, Value.category]; done) | rfl) ?_
  refine gs s₁ (mkF m 1 #[rv a1] [(.ref a1)]) (fun _ hr => XS.aloadN X0.here hx rfl (hb hby d17_0) rfl rfl hr) ?_
  obtain ⟨T39, X39, e39, st39⟩ := getF X0 hx hZ hown (host := "") (Or.inl (tw hw 65 rfl)) Via.refl e0 F_a1_value (g := (mkF m 1 #[rv a1] [(.ref a1)])) rfl rfl (hb hby d17_1)
  refine gs T39 (mkF m 4 #[rv a1] [(.ref w1)]) st39 ?_
  refine gs T39 (mkF m 11 #[rv a1] []) (fun _ hr => XT.ifnonnullYes X39.here hx rfl (pc0 := 4) (pc' := 11) rfl (hb hby d17_4) rfl (by decide) (by decide) hr) ?_
  refine gs T39 (mkF m 12 #[rv a1] [(.int (0 : Int32))]) (fun _ hr => XS.iconst X39.here hx rfl (hb hby d17_11) hr) ?_
  exact Goes.ret (v := some (.int (0 : Int32))) X39 (by decide) (by decide) (fun h => by rw [Bd.returns] at h; cases h) ⟨rfl, N0, e39⟩ (fun fs hr => retN X39 hx (t := .boolean) Bd.returns (by simp) (hb hby d17_12) hr)
theorem d18_7 : decode jdk_32_method_6_code 7 = .ok (.iconst 1, 1) := by decide +kernel
theorem d18_8 : decode jdk_32_method_6_code 8 = .ok (.goto 4, 3) := by decide +kernel
def Q_rm_oisp1 (Z : State) (a1 : Addr) (w1 : Addr) (h0 : Heap) (n0 : Nat) (v : Option Value) (h : Heap) (L : List Loc) : Prop := v = some (.int (1 : Int32)) ∧ Fr n0 L ∧ h = h0
set_option maxRecDepth 65536 in
set_option maxHeartbeats 40000000 in
theorem rm_oisp1 (l : Launch) (Z : State) (a0 : Array Value) (hw : ∀ d ∈ tables_1, d.before a0 Z = true) (ws : List Jvm.Cond) (a1 : Addr) (w1 : Addr) (h0 : Heap) (n0 : Nat) (Z0 : n0 ≤ h0.size) (O0 : Old Z n0 h0) (F_a1_value : Fld Z h0 a1 cOP "value" dOB (.ref w1)) :
    MetFree l Y19 (head1 (Cond.code Y19 jdk_32_method_6_code 1 (some .boolean) :: ws) r2) (fun a U => a = #[(.ref a1)] ∧ Z.Warmed39 U.vm ∧ U.heap = h0) (fun _ _ _ _ _ => True) (fun _ U o U' => ∃ v L, o = .returned v ∧ Q_rm_oisp1 Z a1 w1 h0 n0 v U'.heap L ∧ FrameEnd U o U' L r2.cells r2.slots) := by
  refine MetFree.of_bodySF (plainFor_of_name pn_java_util_Optional) hisR ?_
  intro p e s m args below meth c s₁ Bd hml0 hP hK
  obtain ⟨rfl, hZ, hh⟩ := hP
  have hx := Bd.exec
  have hby := Bd.bytes
  have hml : c.maxLocals = 1 := hml0
  have hown : s.vm.findClass cOP = some m.cls := findClass_of_methodNamed Bd.named
  have hnm := (name_of_methodNamed Bd.named Bd.method).1
  have X0 : Stand p l e r2 s m #[(.ref a1)] below meth c s₁ [] 0 0 := Stand.of_body Bd
  have e0 : s₁.heap = h0 := by rw [← hh, Bd.state]; rfl
  have N0 := Fr.nil n0
  refine Goes.out (l := l) (c := c) (R := r2) (Q := Q_rm_oisp1 Z a1 w1 h0 n0) Bd.notSynchronized ?_
  refine Goes.cast (g2 := mkF m 0 #[rv a1] []) (by first | (simp [entryFrame, mkF, argsToLocals, Value.category]; done) | rfl) ?_
  refine gs s₁ (mkF m 1 #[rv a1] [(.ref a1)]) (fun _ hr => XS.aloadN X0.here hx rfl (hb hby d18_0) rfl rfl hr) ?_
  obtain ⟨T40, X40, e40, st40⟩ := getF X0 hx hZ hown (host := "") (Or.inl (tw hw 65 rfl)) Via.refl e0 F_a1_value (g := (mkF m 1 #[rv a1] [(.ref a1)])) rfl rfl (hb hby d18_1)
  refine gs T40 (mkF m 4 #[rv a1] [(.ref w1)]) st40 ?_
  refine gs T40 (mkF m 7 #[rv a1] []) (fun _ hr => XS.ifnullNo X40.here hx rfl (hb hby d18_4) rfl hr) ?_
  refine gs T40 (mkF m 8 #[rv a1] [(.int (1 : Int32))]) (fun _ hr => XS.iconst X40.here hx rfl (hb hby d18_7) hr) ?_
  refine gs T40 (mkF m 12 #[rv a1] [(.int (1 : Int32))]) (fun _ hr => XS.goto X40.here hx rfl (pc0 := 8) (pc' := 12) rfl (hb hby d18_8) (by decide) (by decide) hr) ?_
  exact Goes.ret (v := some (.int (1 : Int32))) X40 (by decide) (by decide) (fun h => by rw [Bd.returns] at h; cases h) ⟨rfl, N0, e40⟩ (fun fs hr => retN X40 hx (t := .boolean) Bd.returns (by simp) (hb hby d18_12) hr)
theorem d19_7 : decode jdk_32_method_15_code 7 = .ok (.aload_n 0, 1) := by decide +kernel
theorem d19_8 : decode jdk_32_method_15_code 8 = .ok (.getfield 13, 3) := by decide +kernel
theorem d19_11 : decode jdk_32_method_15_code 11 = .ok (.goto 4, 3) := by decide +kernel
def Q_rm_oore1 (Z : State) (a1 : Addr) (w1 : Addr) (w2 : Addr) (h0 : Heap) (n0 : Nat) (v : Option Value) (h : Heap) (L : List Loc) : Prop := v = some (.ref w1) ∧ Fr n0 L ∧ h = h0
set_option maxRecDepth 65536 in
set_option maxHeartbeats 40000000 in
theorem rm_oore1 (l : Launch) (Z : State) (a0 : Array Value) (hw : ∀ d ∈ tables_1, d.before a0 Z = true) (ws : List Jvm.Cond) (a1 : Addr) (w1 : Addr) (w2 : Addr) (h0 : Heap) (n0 : Nat) (Z0 : n0 ≤ h0.size) (O0 : Old Z n0 h0) (F_a1_value : Fld Z h0 a1 cOP "value" dOB (.ref w1)) :
    MetFree l Y20 (head1 (Cond.code Y20 jdk_32_method_15_code 2 (some (.object "java/lang/Object")) :: ws) r2) (fun a U => a = #[(.ref a1), (.ref w2)] ∧ Z.Warmed39 U.vm ∧ U.heap = h0) (fun _ _ _ _ _ => True) (fun _ U o U' => ∃ v L, o = .returned v ∧ Q_rm_oore1 Z a1 w1 w2 h0 n0 v U'.heap L ∧ FrameEnd U o U' L r2.cells r2.slots) := by
  refine MetFree.of_bodySF (plainFor_of_name pn_java_util_Optional) hisR ?_
  intro p e s m args below meth c s₁ Bd hml0 hP hK
  obtain ⟨rfl, hZ, hh⟩ := hP
  have hx := Bd.exec
  have hby := Bd.bytes
  have hml : c.maxLocals = 2 := hml0
  have hown : s.vm.findClass cOP = some m.cls := findClass_of_methodNamed Bd.named
  have hnm := (name_of_methodNamed Bd.named Bd.method).1
  have X0 : Stand p l e r2 s m #[(.ref a1), (.ref w2)] below meth c s₁ [] 0 0 := Stand.of_body Bd
  have e0 : s₁.heap = h0 := by rw [← hh, Bd.state]; rfl
  have N0 := Fr.nil n0
  refine Goes.out (l := l) (c := c) (R := r2) (Q := Q_rm_oore1 Z a1 w1 w2 h0 n0) Bd.notSynchronized ?_
  refine Goes.cast (g2 := mkF m 0 #[rv a1, rv w2] []) (by first | (simp [entryFrame, mkF, argsToLocals, Value.category]; done) | rfl) ?_
  refine gs s₁ (mkF m 1 #[rv a1, rv w2] [(.ref a1)]) (fun _ hr => XS.aloadN X0.here hx rfl (hb hby d19_0) rfl rfl hr) ?_
  obtain ⟨T41, X41, e41, st41⟩ := getF X0 hx hZ hown (host := "") (Or.inl (tw hw 65 rfl)) Via.refl e0 F_a1_value (g := (mkF m 1 #[rv a1, rv w2] [(.ref a1)])) rfl rfl (hb hby d19_1)
  refine gs T41 (mkF m 4 #[rv a1, rv w2] [(.ref w1)]) st41 ?_
  refine gs T41 (mkF m 7 #[rv a1, rv w2] []) (fun _ hr => XS.ifnullNo X41.here hx rfl (hb hby d19_4) rfl hr) ?_
  refine gs T41 (mkF m 8 #[rv a1, rv w2] [(.ref a1)]) (fun _ hr => XS.aloadN X41.here hx rfl (hb hby d19_7) rfl rfl hr) ?_
  obtain ⟨T42, X42, e42, st42⟩ := getF X41 hx hZ hown (host := "") (Or.inl (tw hw 65 rfl)) Via.refl e41 F_a1_value (g := (mkF m 8 #[rv a1, rv w2] [(.ref a1)])) rfl rfl (hb hby d19_8)
  refine gs T42 (mkF m 11 #[rv a1, rv w2] [(.ref w1)]) st42 ?_
  refine gs T42 (mkF m 15 #[rv a1, rv w2] [(.ref w1)]) (fun _ hr => XS.goto X42.here hx rfl (pc0 := 11) (pc' := 15) rfl (hb hby d19_11) (by decide) (by decide) hr) ?_
  exact Goes.ret (v := some (.ref w1)) X42 (by decide) (by decide) (fun h => by rw [Bd.returns] at h; cases h) ⟨rfl, N0, e42⟩ (fun fs hr => retOut X42 hx Bd.returns rfl (Or.inr (Or.inr (Or.inr (Or.inr ⟨rfl, rfl, rfl⟩)))) (hb hby d19_15) hr)
theorem d20_0 : decode prog_18_method_2_code 0 = .ok (.aload_n 0, 1) := by decide +kernel
theorem d20_1 : decode prog_18_method_2_code 1 = .ok (.invokevirtual 7, 3) := by decide +kernel
theorem d20_4 : decode prog_18_method_2_code 4 = .ok (.ifCond .ne 22, 3) := by decide +kernel
theorem d20_7 : decode prog_18_method_2_code 7 = .ok (.aload_n 1, 1) := by decide +kernel
theorem d20_8 : decode prog_18_method_2_code 8 = .ok (.invokevirtual 7, 3) := by decide +kernel
theorem d20_11 : decode prog_18_method_2_code 11 = .ok (.ifCond .ne 15, 3) := by decide +kernel
theorem d20_14 : decode prog_18_method_2_code 14 = .ok (.aload_n 1, 1) := by decide +kernel
theorem d20_15 : decode prog_18_method_2_code 15 = .ok (.invokevirtual 13, 3) := by decide +kernel
theorem d20_18 : decode prog_18_method_2_code 18 = .ok (.aload_n 0, 1) := by decide +kernel
theorem d20_19 : decode prog_18_method_2_code 19 = .ok (.invokevirtual 13, 3) := by decide +kernel
theorem d20_22 : decode prog_18_method_2_code 22 = .ok (.lcmp, 1) := by decide +kernel
theorem d20_23 : decode prog_18_method_2_code 23 = .ok (.ifCond .le 10, 3) := by decide +kernel
theorem d20_26 : decode prog_18_method_2_code 26 = .ok (.invokestatic 17, 3) := by decide +kernel
theorem d20_29 : decode prog_18_method_2_code 29 = .ok (.astore_n 2, 1) := by decide +kernel
theorem d20_30 : decode prog_18_method_2_code 30 = .ok (.goto 16, 3) := by decide +kernel
theorem d20_46 : decode prog_18_method_2_code 46 = .ok (.aload_n 2, 1) := by decide +kernel
theorem d20_47 : decode prog_18_method_2_code 47 = .ok (.areturn, 1) := by decide +kernel
theorem pn_com_example_log_lag_gauge_loglaggauge_model_Trailing : plainName "com/example/log_lag_gauge/loglaggauge/model/Trailing" = true := by first | (simp [plainName, overriddenIn]; done) | decide +kernel
def Q_rm_offgt (Z : State) (a1 : Addr) (a2 : Addr) (q1 : Int64) (q2 : Int64) (em : Addr) (h0 : Heap) (n0 : Nat) (v : Option Value) (h : Heap) (L : List Loc) : Prop := v = some (.ref em) ∧ Fr n0 L ∧ Keep h0 h []
set_option maxRecDepth 65536 in
set_option maxHeartbeats 40000000 in
theorem rm_offgt (l : Launch) (Z : State) (a0 : Array Value) (hw : ∀ d ∈ tables_1, d.before a0 Z = true) (ws : List Jvm.Cond) (a1 : Addr) (a2 : Addr) (q1 : Int64) (q2 : Int64) (em : Addr) (h0 : Heap) (n0 : Nat) (Z0 : n0 ≤ h0.size) (O0 : Old Z n0 h0) (E_a1 : Exa Z h0 a1 cOL) (F_a1_isPresent : Fld Z h0 a1 cOL nIP "Z" (.int (1 : Int32))) (F_a1_value : Fld Z h0 a1 cOL "value" "J" (.long q2)) (E_a2 : Exa Z h0 a2 cOL) (F_a2_isPresent : Fld Z h0 a2 cOL nIP "Z" (.int (1 : Int32))) (F_a2_value : Fld Z h0 a2 cOL "value" "J" (.long q1)) (S_OptionalLong_EMPTY_old : Sta Z Z.heap cOL "EMPTY" dOL (.ref em)) (E_em_old : Exa Z Z.heap em cOL) (F_em_isPresent_old : Fld Z Z.heap em cOL nIP "Z" (.int (0 : Int32))) (F_em_value_old : Fld Z Z.heap em cOL "value" "J" (.long (0 : Int64))) (hgt : (0 : Int32) < (XT.cmpL q1 q2)) :
    MetFree l Y21 (head1 (Cond.code Y21 prog_18_method_2_code 3 (some (.object cOL)) :: ws) r4) (fun a U => a = #[(.ref a1), (.ref a2)] ∧ Z.Warmed39 U.vm ∧ U.heap = h0) (fun _ _ _ _ _ => True) (fun _ U o U' => ∃ v L, o = .returned v ∧ Q_rm_offgt Z a1 a2 q1 q2 em h0 n0 v U'.heap L ∧ FrameEnd U o U' L r4.cells r4.slots) := by
  refine MetFree.of_bodySF (plainFor_of_name pn_com_example_log_lag_gauge_loglaggauge_model_Trailing) hisR ?_
  intro p e s m args below meth c s₁ Bd hml0 hP hK
  obtain ⟨rfl, hZ, hh⟩ := hP
  have hx := Bd.exec
  have hby := Bd.bytes
  have hml : c.maxLocals = 3 := hml0
  have hown : s.vm.findClass "com/example/log_lag_gauge/loglaggauge/model/Trailing" = some m.cls := findClass_of_methodNamed Bd.named
  have hnm := (name_of_methodNamed Bd.named Bd.method).1
  have X0 : Stand p l e r4 s m #[(.ref a1), (.ref a2)] below meth c s₁ [] 0 0 := Stand.of_body Bd
  have e0 : s₁.heap = h0 := by rw [← hh, Bd.state]; rfl
  have N0 := Fr.nil n0
  refine Goes.out (l := l) (c := c) (R := r4) (Q := Q_rm_offgt Z a1 a2 q1 q2 em h0 n0) Bd.notSynchronized ?_
  refine Goes.cast (g2 := mkF m 0 #[rv a1, rv a2, .unset] []) (by first | (simp [entryFrame, mkF, argsToLocals, Value.category]; done) | rfl) ?_
  have K0 : Keep h0 h0 [] := Keep.refl h0 _
  have hws : ∀ x ∈ ([] : List Addr), n0 ≤ x := all0
  refine gs s₁ (mkF m 1 #[rv a1, rv a2, .unset] [(.ref a1)]) (fun _ hr => XS.aloadN X0.here hx rfl (hb hby d20_0) rfl rfl hr) ?_
  have Zs43 : n0 ≤ h0.size := Nat.le_trans Z0 K0.1
  obtain ⟨cq44, kq44, q44a, q44b, q44c⟩ := isOf hZ e0 E_a1
  obtain ⟨_, _, ⟨T44, L44, k44, n44⟩, -, X44, ⟨Lc44, hQ44, l44, y44, z44⟩, st44⟩ := X0.virtualBack hx (y := Y6) (z := Y6) hown (mvT hZ (tw hw 148 rfl)) (mvT hZ (tw hw 77 rfl)) (notFace_of_selects (args := #[]) (mvT hZ (tw hw 79 rfl))) (mvT hZ (tw hw 79 rfl)) (mvT hZ (tw hw 78 rfl)) (by decide) (backOf (W := 0) (rm_ole1 l Z a0 hw [] a1 h0 n0 Zs43 (Old.keep O0 K0 hws) F_a1_isPresent) hZ (tw hw 80 rfl) (tw hw 3 rfl) (by decide) (by decide)) q44a q44c (g := (mkF m 1 #[rv a1, rv a2, .unset] [(.ref a1)])) rfl (by rw [hml]; rfl) (Steps.refl _) (argsL := []) (rest := []) (lenOf pd_1 rfl) rfl (wle rfl) (hb hby d20_1) (fun _ _ => ⟨rfl, e0, (by decide : 0 + 0 ≤ _), (by decide : 0 + 0 ≤ _)⟩)
  dsimp only [Pt.U, Pt.locs, Pt.cells, Pt.slots] at X44 l44 y44 z44 st44 hQ44
  subst l44 y44 z44
  obtain ⟨rfl, N44q, e44⟩ := hQ44
  have N44 := Fr.app N0 N44q
  refine gs T44 (mkF m 4 #[rv a1, rv a2, .unset] [(.int (0 : Int32))]) (fun _ hr => st44.trans hr) ?_
  refine gs T44 (mkF m 7 #[rv a1, rv a2, .unset] []) (fun _ hr => XS.ifNo X44.here hx rfl (hb hby d20_4) rfl ((if0 _ _).trans (teq (by decide : (0 : Int32) = (0 : Int32))).2) hr) ?_
  refine gs T44 (mkF m 8 #[rv a1, rv a2, .unset] [(.ref a2)]) (fun _ hr => XS.aloadN X44.here hx rfl (hb hby d20_7) rfl rfl hr) ?_
  have Zs45 : n0 ≤ h0.size := Nat.le_trans Z0 K0.1
  obtain ⟨cq46, kq46, q46a, q46b, q46c⟩ := isOf hZ e44 E_a2
  obtain ⟨_, _, ⟨T46, L46, k46, n46⟩, -, X46, ⟨Lc46, hQ46, l46, y46, z46⟩, st46⟩ := X44.virtualBack hx (y := Y6) (z := Y6) hown (mvT hZ (tw hw 148 rfl)) (mvT hZ (tw hw 77 rfl)) (notFace_of_selects (args := #[]) (mvT hZ (tw hw 79 rfl))) (mvT hZ (tw hw 79 rfl)) (mvT hZ (tw hw 78 rfl)) (by decide) (backOf (W := 0) (rm_ole1 l Z a0 hw [] a2 h0 n0 Zs45 (Old.keep O0 K0 hws) F_a2_isPresent) hZ (tw hw 80 rfl) (tw hw 3 rfl) (by decide) (by decide)) q46a q46c (g := (mkF m 8 #[rv a1, rv a2, .unset] [(.ref a2)])) rfl (by rw [hml]; rfl) (Steps.refl _) (argsL := []) (rest := []) (lenOf pd_1 rfl) rfl (wle rfl) (hb hby d20_8) (fun _ _ => ⟨rfl, e44, (by decide : 0 + 0 ≤ _), (by decide : 0 + 0 ≤ _)⟩)
  dsimp only [Pt.U, Pt.locs, Pt.cells, Pt.slots] at X46 l46 y46 z46 st46 hQ46
  subst l46 y46 z46
  obtain ⟨rfl, N46q, e46⟩ := hQ46
  have N46 := Fr.app N44 N46q
  refine gs T46 (mkF m 11 #[rv a1, rv a2, .unset] [(.int (0 : Int32))]) (fun _ hr => st46.trans hr) ?_
  refine gs T46 (mkF m 14 #[rv a1, rv a2, .unset] []) (fun _ hr => XS.ifNo X46.here hx rfl (hb hby d20_11) rfl ((if0 _ _).trans (teq (by decide : (0 : Int32) = (0 : Int32))).2) hr) ?_
  refine gs T46 (mkF m 15 #[rv a1, rv a2, .unset] [(.ref a2)]) (fun _ hr => XS.aloadN X46.here hx rfl (hb hby d20_14) rfl rfl hr) ?_
  have Zs47 : n0 ≤ h0.size := Nat.le_trans Z0 K0.1
  obtain ⟨cq48, kq48, q48a, q48b, q48c⟩ := isOf hZ e46 E_a2
  obtain ⟨_, _, ⟨T48, L48, k48, n48⟩, -, X48, ⟨Lc48, hQ48, l48, y48, z48⟩, st48⟩ := X46.virtualBack hx (y := Y7) (z := Y7) hown (mvT hZ (tw hw 149 rfl)) (mvT hZ (tw hw 150 rfl)) (notFace_of_selects (args := #[]) (mvT hZ (tw hw 152 rfl))) (mvT hZ (tw hw 152 rfl)) (mvT hZ (tw hw 151 rfl)) (by decide) (backOf (W := 0) (rm_olg l Z a0 hw [] a2 q1 h0 n0 Zs47 (Old.keep O0 K0 hws) F_a2_isPresent F_a2_value) hZ (tw hw 153 rfl) (tw hw 3 rfl) (by decide) (by decide)) q48a q48c (g := (mkF m 15 #[rv a1, rv a2, .unset] [(.ref a2)])) rfl (by rw [hml]; rfl) (Steps.refl _) (argsL := []) (rest := []) (lenOf pd_5 rfl) rfl (wle rfl) (hb hby d20_15) (fun _ _ => ⟨rfl, e46, (by decide : 0 + 0 ≤ _), (by decide : 0 + 0 ≤ _)⟩)
  dsimp only [Pt.U, Pt.locs, Pt.cells, Pt.slots] at X48 l48 y48 z48 st48 hQ48
  subst l48 y48 z48
  obtain ⟨rfl, N48q, e48⟩ := hQ48
  have N48 := Fr.app N46 N48q
  refine gs T48 (mkF m 18 #[rv a1, rv a2, .unset] [(.long q1)]) (fun _ hr => st48.trans hr) ?_
  refine gs T48 (mkF m 19 #[rv a1, rv a2, .unset] [(.ref a1), (.long q1)]) (fun _ hr => XS.aloadN X48.here hx rfl (hb hby d20_18) rfl rfl hr) ?_
  have Zs49 : n0 ≤ h0.size := Nat.le_trans Z0 K0.1
  obtain ⟨cq50, kq50, q50a, q50b, q50c⟩ := isOf hZ e48 E_a1
  obtain ⟨_, _, ⟨T50, L50, k50, n50⟩, -, X50, ⟨Lc50, hQ50, l50, y50, z50⟩, st50⟩ := X48.virtualBack hx (y := Y7) (z := Y7) hown (mvT hZ (tw hw 149 rfl)) (mvT hZ (tw hw 150 rfl)) (notFace_of_selects (args := #[]) (mvT hZ (tw hw 152 rfl))) (mvT hZ (tw hw 152 rfl)) (mvT hZ (tw hw 151 rfl)) (by decide) (backOf (W := 2) (rm_olg l Z a0 hw [] a1 q2 h0 n0 Zs49 (Old.keep O0 K0 hws) F_a1_isPresent F_a1_value) hZ (tw hw 153 rfl) (tw hw 3 rfl) (by decide) (by decide)) q50a q50c (g := (mkF m 19 #[rv a1, rv a2, .unset] [(.ref a1), (.long q1)])) rfl (by rw [hml]; rfl) (Steps.refl _) (argsL := []) (rest := [(.long q1)]) (lenOf pd_5 rfl) rfl (wle rfl) (hb hby d20_19) (fun _ _ => ⟨rfl, e48, (by decide : 0 + 0 ≤ _), (by decide : 0 + 0 ≤ _)⟩)
  dsimp only [Pt.U, Pt.locs, Pt.cells, Pt.slots] at X50 l50 y50 z50 st50 hQ50
  subst l50 y50 z50
  obtain ⟨rfl, N50q, e50⟩ := hQ50
  have N50 := Fr.app N48 N50q
  refine gs T50 (mkF m 22 #[rv a1, rv a2, .unset] [(.long q2), (.long q1)]) (fun _ hr => st50.trans hr) ?_
  refine gs T50 (mkF m 23 #[rv a1, rv a2, .unset] [(.int (XT.cmpL q1 q2))]) (fun _ hr => XT.lcmp X50.here hx rfl (hb hby d20_22) rfl hr) ?_
  refine gs T50 (mkF m 26 #[rv a1, rv a2, .unset] []) (fun _ hr => XS.ifNo X50.here hx rfl (hb hby d20_23) rfl ((if0 _ _).trans (tlt (hgt : (0 : Int32) < (XT.cmpL q1 q2))).2.2.2) hr) ?_
  have Zs51 : n0 ≤ h0.size := Nat.le_trans Z0 K0.1
  obtain ⟨_, _, ⟨T52, L52, k52, n52⟩, -, X52, ⟨Lc52, hQ52, l52, y52, z52⟩, st52⟩ := LawKit.callS X50 hx (y := Y4) hown (mvT hZ (tw hw 203 rfl)) (mvT hZ (tw hw 2 rfl)) (mvT hZ (tw hw 3 rfl)) (mvT hZ (tw hw 4 rfl)) (by decide) (backOf (W := 0) (rm_olem l Z a0 hw [] em h0 n0 Zs51 (Old.keep O0 K0 hws) S_OptionalLong_EMPTY_old) hZ (tw hw 4 rfl) (tw hw 3 rfl) (by decide) (by decide)) (g := (mkF m 26 #[rv a1, rv a2, .unset] [])) rfl (by rw [hml]; rfl) (argsL := []) (rest := []) (lenOf pd_6 rfl) rfl (wle rfl) (hb hby d20_26) (fun _ _ => ⟨rfl, e50, (by decide : 0 + 0 ≤ _), (by decide : 0 + 0 ≤ _)⟩)
  dsimp only [Pt.U, Pt.locs, Pt.cells, Pt.slots] at X52 l52 y52 z52 st52 hQ52
  subst l52 y52 z52
  obtain ⟨rfl, N52q, e52⟩ := hQ52
  have N52 := Fr.app N50 N52q
  refine gs T52 (mkF m 29 #[rv a1, rv a2, .unset] [(.ref em)]) st52 ?_
  refine gs T52 (mkF m 30 #[rv a1, rv a2, rv em] []) (fun _ hr => XS.astoreN X52.here hx rfl (hb hby d20_29) rfl rfl (l' := #[rv a1, rv a2, rv em]) rfl hr) ?_
  refine gs T52 (mkF m 46 #[rv a1, rv a2, rv em] []) (fun _ hr => XS.goto X52.here hx rfl (pc0 := 30) (pc' := 46) rfl (hb hby d20_30) (by decide) (by decide) hr) ?_
  refine gs T52 (mkF m 47 #[rv a1, rv a2, rv em] [(.ref em)]) (fun _ hr => XS.aloadN X52.here hx rfl (hb hby d20_46) rfl rfl hr) ?_
  exact Goes.ret (v := some (.ref em)) X52 (by decide) (by decide) (fun h => by rw [Bd.returns] at h; cases h) (by show Q_rm_offgt Z a1 a2 q1 q2 em h0 n0 _ T52.heap _; rw [e52]; exact ⟨rfl, N52, K0⟩) (fun fs hr => retOut X52 hx Bd.returns rfl (Or.inr (Or.inr (Or.inr (Or.inr ⟨rfl, rfl, rfl⟩)))) (hb hby d20_47) hr)
theorem d20_33 : decode prog_18_method_2_code 33 = .ok (.aload_n 0, 1) := by decide +kernel
theorem d20_34 : decode prog_18_method_2_code 34 = .ok (.invokevirtual 13, 3) := by decide +kernel
theorem d20_37 : decode prog_18_method_2_code 37 = .ok (.aload_n 1, 1) := by decide +kernel
theorem d20_38 : decode prog_18_method_2_code 38 = .ok (.invokevirtual 13, 3) := by decide +kernel
theorem d20_41 : decode prog_18_method_2_code 41 = .ok (.lsub, 1) := by decide +kernel
theorem d20_42 : decode prog_18_method_2_code 42 = .ok (.invokestatic 21, 3) := by decide +kernel
theorem d20_45 : decode prog_18_method_2_code 45 = .ok (.astore_n 2, 1) := by decide +kernel
def Q_rm_offle (Z : State) (a1 : Addr) (a2 : Addr) (q1 : Int64) (q2 : Int64) (em : Addr) (h0 : Heap) (n0 : Nat) (v : Option Value) (h : Heap) (L : List Loc) : Prop := ∃ w : Addr, v = some (.ref w) ∧ Fr n0 L ∧ Keep h0 h [] ∧ h0.size ≤ w ∧ Exa Z h w cOL ∧ Fld Z h w cOL nIP "Z" (.int (1 : Int32)) ∧ Fld Z h w cOL "value" "J" (.long (q2 - q1))
set_option maxRecDepth 65536 in
set_option maxHeartbeats 40000000 in
theorem rm_offle (l : Launch) (Z : State) (a0 : Array Value) (hw : ∀ d ∈ tables_1, d.before a0 Z = true) (ws : List Jvm.Cond) (a1 : Addr) (a2 : Addr) (q1 : Int64) (q2 : Int64) (em : Addr) (h0 : Heap) (n0 : Nat) (Z0 : n0 ≤ h0.size) (O0 : Old Z n0 h0) (E_a1 : Exa Z h0 a1 cOL) (F_a1_isPresent : Fld Z h0 a1 cOL nIP "Z" (.int (1 : Int32))) (F_a1_value : Fld Z h0 a1 cOL "value" "J" (.long q2)) (E_a2 : Exa Z h0 a2 cOL) (F_a2_isPresent : Fld Z h0 a2 cOL nIP "Z" (.int (1 : Int32))) (F_a2_value : Fld Z h0 a2 cOL "value" "J" (.long q1)) (S_OptionalLong_EMPTY_old : Sta Z Z.heap cOL "EMPTY" dOL (.ref em)) (E_em_old : Exa Z Z.heap em cOL) (F_em_isPresent_old : Fld Z Z.heap em cOL nIP "Z" (.int (0 : Int32))) (F_em_value_old : Fld Z Z.heap em cOL "value" "J" (.long (0 : Int64))) (hle : ¬ ((0 : Int32) < (XT.cmpL q1 q2))) :
    MetFree l Y21 (head1 (Cond.code Y21 prog_18_method_2_code 3 (some (.object cOL)) :: ws) r5) (fun a U => a = #[(.ref a1), (.ref a2)] ∧ Z.Warmed39 U.vm ∧ U.heap = h0) (fun _ _ _ _ _ => True) (fun _ U o U' => ∃ v L, o = .returned v ∧ Q_rm_offle Z a1 a2 q1 q2 em h0 n0 v U'.heap L ∧ FrameEnd U o U' L r5.cells r5.slots) := by
  refine MetFree.of_bodySF (plainFor_of_name pn_com_example_log_lag_gauge_loglaggauge_model_Trailing) hisR ?_
  intro p e s m args below meth c s₁ Bd hml0 hP hK
  obtain ⟨rfl, hZ, hh⟩ := hP
  have hx := Bd.exec
  have hby := Bd.bytes
  have hml : c.maxLocals = 3 := hml0
  have hown : s.vm.findClass "com/example/log_lag_gauge/loglaggauge/model/Trailing" = some m.cls := findClass_of_methodNamed Bd.named
  have hnm := (name_of_methodNamed Bd.named Bd.method).1
  have X0 : Stand p l e r5 s m #[(.ref a1), (.ref a2)] below meth c s₁ [] 0 0 := Stand.of_body Bd
  have e0 : s₁.heap = h0 := by rw [← hh, Bd.state]; rfl
  have N0 := Fr.nil n0
  refine Goes.out (l := l) (c := c) (R := r5) (Q := Q_rm_offle Z a1 a2 q1 q2 em h0 n0) Bd.notSynchronized ?_
  refine Goes.cast (g2 := mkF m 0 #[rv a1, rv a2, .unset] []) (by first | (simp [entryFrame, mkF, argsToLocals, Value.category]; done) | rfl) ?_
  have K0 : Keep h0 h0 [] := Keep.refl h0 _
  have hws : ∀ x ∈ ([] : List Addr), n0 ≤ x := all0
  refine gs s₁ (mkF m 1 #[rv a1, rv a2, .unset] [(.ref a1)]) (fun _ hr => XS.aloadN X0.here hx rfl (hb hby d20_0) rfl rfl hr) ?_
  have Zs53 : n0 ≤ h0.size := Nat.le_trans Z0 K0.1
  obtain ⟨cq54, kq54, q54a, q54b, q54c⟩ := isOf hZ e0 E_a1
  obtain ⟨_, _, ⟨T54, L54, k54, n54⟩, -, X54, ⟨Lc54, hQ54, l54, y54, z54⟩, st54⟩ := X0.virtualBack hx (y := Y6) (z := Y6) hown (mvT hZ (tw hw 148 rfl)) (mvT hZ (tw hw 77 rfl)) (notFace_of_selects (args := #[]) (mvT hZ (tw hw 79 rfl))) (mvT hZ (tw hw 79 rfl)) (mvT hZ (tw hw 78 rfl)) (by decide) (backOf (W := 0) (rm_ole1 l Z a0 hw [] a1 h0 n0 Zs53 (Old.keep O0 K0 hws) F_a1_isPresent) hZ (tw hw 80 rfl) (tw hw 3 rfl) (by decide) (by decide)) q54a q54c (g := (mkF m 1 #[rv a1, rv a2, .unset] [(.ref a1)])) rfl (by rw [hml]; rfl) (Steps.refl _) (argsL := []) (rest := []) (lenOf pd_1 rfl) rfl (wle rfl) (hb hby d20_1) (fun _ _ => ⟨rfl, e0, (by decide : 0 + 0 ≤ _), (by decide : 0 + 0 ≤ _)⟩)
  dsimp only [Pt.U, Pt.locs, Pt.cells, Pt.slots] at X54 l54 y54 z54 st54 hQ54
  subst l54 y54 z54
  obtain ⟨rfl, N54q, e54⟩ := hQ54
  have N54 := Fr.app N0 N54q
  refine gs T54 (mkF m 4 #[rv a1, rv a2, .unset] [(.int (0 : Int32))]) (fun _ hr => st54.trans hr) ?_
  refine gs T54 (mkF m 7 #[rv a1, rv a2, .unset] []) (fun _ hr => XS.ifNo X54.here hx rfl (hb hby d20_4) rfl ((if0 _ _).trans (teq (by decide : (0 : Int32) = (0 : Int32))).2) hr) ?_
  refine gs T54 (mkF m 8 #[rv a1, rv a2, .unset] [(.ref a2)]) (fun _ hr => XS.aloadN X54.here hx rfl (hb hby d20_7) rfl rfl hr) ?_
  have Zs55 : n0 ≤ h0.size := Nat.le_trans Z0 K0.1
  obtain ⟨cq56, kq56, q56a, q56b, q56c⟩ := isOf hZ e54 E_a2
  obtain ⟨_, _, ⟨T56, L56, k56, n56⟩, -, X56, ⟨Lc56, hQ56, l56, y56, z56⟩, st56⟩ := X54.virtualBack hx (y := Y6) (z := Y6) hown (mvT hZ (tw hw 148 rfl)) (mvT hZ (tw hw 77 rfl)) (notFace_of_selects (args := #[]) (mvT hZ (tw hw 79 rfl))) (mvT hZ (tw hw 79 rfl)) (mvT hZ (tw hw 78 rfl)) (by decide) (backOf (W := 0) (rm_ole1 l Z a0 hw [] a2 h0 n0 Zs55 (Old.keep O0 K0 hws) F_a2_isPresent) hZ (tw hw 80 rfl) (tw hw 3 rfl) (by decide) (by decide)) q56a q56c (g := (mkF m 8 #[rv a1, rv a2, .unset] [(.ref a2)])) rfl (by rw [hml]; rfl) (Steps.refl _) (argsL := []) (rest := []) (lenOf pd_1 rfl) rfl (wle rfl) (hb hby d20_8) (fun _ _ => ⟨rfl, e54, (by decide : 0 + 0 ≤ _), (by decide : 0 + 0 ≤ _)⟩)
  dsimp only [Pt.U, Pt.locs, Pt.cells, Pt.slots] at X56 l56 y56 z56 st56 hQ56
  subst l56 y56 z56
  obtain ⟨rfl, N56q, e56⟩ := hQ56
  have N56 := Fr.app N54 N56q
  refine gs T56 (mkF m 11 #[rv a1, rv a2, .unset] [(.int (0 : Int32))]) (fun _ hr => st56.trans hr) ?_
  refine gs T56 (mkF m 14 #[rv a1, rv a2, .unset] []) (fun _ hr => XS.ifNo X56.here hx rfl (hb hby d20_11) rfl ((if0 _ _).trans (teq (by decide : (0 : Int32) = (0 : Int32))).2) hr) ?_
  refine gs T56 (mkF m 15 #[rv a1, rv a2, .unset] [(.ref a2)]) (fun _ hr => XS.aloadN X56.here hx rfl (hb hby d20_14) rfl rfl hr) ?_
  have Zs57 : n0 ≤ h0.size := Nat.le_trans Z0 K0.1
  obtain ⟨cq58, kq58, q58a, q58b, q58c⟩ := isOf hZ e56 E_a2
  obtain ⟨_, _, ⟨T58, L58, k58, n58⟩, -, X58, ⟨Lc58, hQ58, l58, y58, z58⟩, st58⟩ := X56.virtualBack hx (y := Y7) (z := Y7) hown (mvT hZ (tw hw 149 rfl)) (mvT hZ (tw hw 150 rfl)) (notFace_of_selects (args := #[]) (mvT hZ (tw hw 152 rfl))) (mvT hZ (tw hw 152 rfl)) (mvT hZ (tw hw 151 rfl)) (by decide) (backOf (W := 0) (rm_olg l Z a0 hw [] a2 q1 h0 n0 Zs57 (Old.keep O0 K0 hws) F_a2_isPresent F_a2_value) hZ (tw hw 153 rfl) (tw hw 3 rfl) (by decide) (by decide)) q58a q58c (g := (mkF m 15 #[rv a1, rv a2, .unset] [(.ref a2)])) rfl (by rw [hml]; rfl) (Steps.refl _) (argsL := []) (rest := []) (lenOf pd_5 rfl) rfl (wle rfl) (hb hby d20_15) (fun _ _ => ⟨rfl, e56, (by decide : 0 + 0 ≤ _), (by decide : 0 + 0 ≤ _)⟩)
  dsimp only [Pt.U, Pt.locs, Pt.cells, Pt.slots] at X58 l58 y58 z58 st58 hQ58
  subst l58 y58 z58
  obtain ⟨rfl, N58q, e58⟩ := hQ58
  have N58 := Fr.app N56 N58q
  refine gs T58 (mkF m 18 #[rv a1, rv a2, .unset] [(.long q1)]) (fun _ hr => st58.trans hr) ?_
  refine gs T58 (mkF m 19 #[rv a1, rv a2, .unset] [(.ref a1), (.long q1)]) (fun _ hr => XS.aloadN X58.here hx rfl (hb hby d20_18) rfl rfl hr) ?_
  have Zs59 : n0 ≤ h0.size := Nat.le_trans Z0 K0.1
  obtain ⟨cq60, kq60, q60a, q60b, q60c⟩ := isOf hZ e58 E_a1
  obtain ⟨_, _, ⟨T60, L60, k60, n60⟩, -, X60, ⟨Lc60, hQ60, l60, y60, z60⟩, st60⟩ := X58.virtualBack hx (y := Y7) (z := Y7) hown (mvT hZ (tw hw 149 rfl)) (mvT hZ (tw hw 150 rfl)) (notFace_of_selects (args := #[]) (mvT hZ (tw hw 152 rfl))) (mvT hZ (tw hw 152 rfl)) (mvT hZ (tw hw 151 rfl)) (by decide) (backOf (W := 2) (rm_olg l Z a0 hw [] a1 q2 h0 n0 Zs59 (Old.keep O0 K0 hws) F_a1_isPresent F_a1_value) hZ (tw hw 153 rfl) (tw hw 3 rfl) (by decide) (by decide)) q60a q60c (g := (mkF m 19 #[rv a1, rv a2, .unset] [(.ref a1), (.long q1)])) rfl (by rw [hml]; rfl) (Steps.refl _) (argsL := []) (rest := [(.long q1)]) (lenOf pd_5 rfl) rfl (wle rfl) (hb hby d20_19) (fun _ _ => ⟨rfl, e58, (by decide : 0 + 0 ≤ _), (by decide : 0 + 0 ≤ _)⟩)
  dsimp only [Pt.U, Pt.locs, Pt.cells, Pt.slots] at X60 l60 y60 z60 st60 hQ60
  subst l60 y60 z60
  obtain ⟨rfl, N60q, e60⟩ := hQ60
  have N60 := Fr.app N58 N60q
  refine gs T60 (mkF m 22 #[rv a1, rv a2, .unset] [(.long q2), (.long q1)]) (fun _ hr => st60.trans hr) ?_
  refine gs T60 (mkF m 23 #[rv a1, rv a2, .unset] [(.int (XT.cmpL q1 q2))]) (fun _ hr => XT.lcmp X60.here hx rfl (hb hby d20_22) rfl hr) ?_
  refine gs T60 (mkF m 33 #[rv a1, rv a2, .unset] []) (fun _ hr => XS.ifYes X60.here hx rfl (pc0 := 23) (pc' := 33) rfl (hb hby d20_23) rfl ((if0 _ _).trans (flt (hle : ¬ ((0 : Int32) < (XT.cmpL q1 q2)))).2.2.2) (by decide) (by decide) hr) ?_
  refine gs T60 (mkF m 34 #[rv a1, rv a2, .unset] [(.ref a1)]) (fun _ hr => XS.aloadN X60.here hx rfl (hb hby d20_33) rfl rfl hr) ?_
  have Zs61 : n0 ≤ h0.size := Nat.le_trans Z0 K0.1
  obtain ⟨cq62, kq62, q62a, q62b, q62c⟩ := isOf hZ e60 E_a1
  obtain ⟨_, _, ⟨T62, L62, k62, n62⟩, -, X62, ⟨Lc62, hQ62, l62, y62, z62⟩, st62⟩ := X60.virtualBack hx (y := Y7) (z := Y7) hown (mvT hZ (tw hw 149 rfl)) (mvT hZ (tw hw 150 rfl)) (notFace_of_selects (args := #[]) (mvT hZ (tw hw 152 rfl))) (mvT hZ (tw hw 152 rfl)) (mvT hZ (tw hw 151 rfl)) (by decide) (backOf (W := 0) (rm_olg l Z a0 hw [] a1 q2 h0 n0 Zs61 (Old.keep O0 K0 hws) F_a1_isPresent F_a1_value) hZ (tw hw 153 rfl) (tw hw 3 rfl) (by decide) (by decide)) q62a q62c (g := (mkF m 34 #[rv a1, rv a2, .unset] [(.ref a1)])) rfl (by rw [hml]; rfl) (Steps.refl _) (argsL := []) (rest := []) (lenOf pd_5 rfl) rfl (wle rfl) (hb hby d20_34) (fun _ _ => ⟨rfl, e60, (by decide : 0 + 0 ≤ _), (by decide : 0 + 0 ≤ _)⟩)
  dsimp only [Pt.U, Pt.locs, Pt.cells, Pt.slots] at X62 l62 y62 z62 st62 hQ62
  subst l62 y62 z62
  obtain ⟨rfl, N62q, e62⟩ := hQ62
  have N62 := Fr.app N60 N62q
  refine gs T62 (mkF m 37 #[rv a1, rv a2, .unset] [(.long q2)]) (fun _ hr => st62.trans hr) ?_
  refine gs T62 (mkF m 38 #[rv a1, rv a2, .unset] [(.ref a2), (.long q2)]) (fun _ hr => XS.aloadN X62.here hx rfl (hb hby d20_37) rfl rfl hr) ?_
  have Zs63 : n0 ≤ h0.size := Nat.le_trans Z0 K0.1
  obtain ⟨cq64, kq64, q64a, q64b, q64c⟩ := isOf hZ e62 E_a2
  obtain ⟨_, _, ⟨T64, L64, k64, n64⟩, -, X64, ⟨Lc64, hQ64, l64, y64, z64⟩, st64⟩ := X62.virtualBack hx (y := Y7) (z := Y7) hown (mvT hZ (tw hw 149 rfl)) (mvT hZ (tw hw 150 rfl)) (notFace_of_selects (args := #[]) (mvT hZ (tw hw 152 rfl))) (mvT hZ (tw hw 152 rfl)) (mvT hZ (tw hw 151 rfl)) (by decide) (backOf (W := 2) (rm_olg l Z a0 hw [] a2 q1 h0 n0 Zs63 (Old.keep O0 K0 hws) F_a2_isPresent F_a2_value) hZ (tw hw 153 rfl) (tw hw 3 rfl) (by decide) (by decide)) q64a q64c (g := (mkF m 38 #[rv a1, rv a2, .unset] [(.ref a2), (.long q2)])) rfl (by rw [hml]; rfl) (Steps.refl _) (argsL := []) (rest := [(.long q2)]) (lenOf pd_5 rfl) rfl (wle rfl) (hb hby d20_38) (fun _ _ => ⟨rfl, e62, (by decide : 0 + 0 ≤ _), (by decide : 0 + 0 ≤ _)⟩)
  dsimp only [Pt.U, Pt.locs, Pt.cells, Pt.slots] at X64 l64 y64 z64 st64 hQ64
  subst l64 y64 z64
  obtain ⟨rfl, N64q, e64⟩ := hQ64
  have N64 := Fr.app N62 N64q
  refine gs T64 (mkF m 41 #[rv a1, rv a2, .unset] [(.long q1), (.long q2)]) (fun _ hr => st64.trans hr) ?_
  refine gs T64 (mkF m 42 #[rv a1, rv a2, .unset] [(.long (q2 - q1))]) (fun _ hr => XT.lsub X64.here hx rfl (hb hby d20_41) rfl hr) ?_
  have Zs65 : n0 ≤ h0.size := Nat.le_trans Z0 K0.1
  obtain ⟨_, _, ⟨T66, L66, k66, n66⟩, -, X66, ⟨Lc66, hQ66, l66, y66, z66⟩, st66⟩ := LawKit.callS X64 hx (y := Y3) hown (mvT hZ (tw hw 154 rfl)) (mvT hZ (tw hw 84 rfl)) (mvT hZ (tw hw 3 rfl)) (mvT hZ (tw hw 85 rfl)) (by decide) (backOf (W := 0) (rm_olof l Z a0 hw [] (q2 - q1) h0 n0 Zs65 (Old.keep O0 K0 hws)) hZ (tw hw 85 rfl) (tw hw 3 rfl) (by decide) (by decide)) (g := (mkF m 42 #[rv a1, rv a2, .unset] [(.long (q2 - q1))])) rfl (by rw [hml]; rfl) (argsL := [(.long (q2 - q1))]) (rest := []) (lenOf pd_7 rfl) rfl (wle rfl) (hb hby d20_42) (fun _ _ => ⟨rfl, e64, (by decide : 0 + 1 ≤ _), (by decide : 0 + 2 ≤ _)⟩)
  dsimp only [Pt.U, Pt.locs, Pt.cells, Pt.slots] at X66 l66 y66 z66 st66 hQ66
  subst l66 y66 z66
  obtain ⟨w66, rfl, N66q, Kc66, P66_0, P66_1, P66_2, P66_3⟩ := hQ66
  have N66 := Fr.app N64 N66q
  have K66 : Keep h0 T66.heap [] := K0.trans Kc66 all0
  have sz_w66 : h0.size ≤ w66 := Nat.le_trans K0.1 P66_0
  have E_w66_66c : Exa Z T66.heap w66 cOL := P66_1
  have F_w66_isPresent_66c : Fld Z T66.heap w66 cOL nIP "Z" (.int (1 : Int32)) := P66_2
  have F_w66_value_66c : Fld Z T66.heap w66 cOL "value" "J" (.long (q2 - q1)) := P66_3
  refine gs T66 (mkF m 45 #[rv a1, rv a2, .unset] [(.ref w66)]) st66 ?_
  refine gs T66 (mkF m 46 #[rv a1, rv a2, rv w66] []) (fun _ hr => XS.astoreN X66.here hx rfl (hb hby d20_45) rfl rfl (l' := #[rv a1, rv a2, rv w66]) rfl hr) ?_
  refine gs T66 (mkF m 47 #[rv a1, rv a2, rv w66] [(.ref w66)]) (fun _ hr => XS.aloadN X66.here hx rfl (hb hby d20_46) rfl rfl hr) ?_
  exact Goes.ret (v := some (.ref w66)) X66 (by decide) (by decide) (fun h => by rw [Bd.returns] at h; cases h) (by show Q_rm_offle Z a1 a2 q1 q2 em h0 n0 _ T66.heap _; exact ⟨w66, rfl, N66, K66, sz_w66, E_w66_66c, F_w66_isPresent_66c, F_w66_value_66c⟩) (fun fs hr => retOut X66 hx Bd.returns rfl (Or.inr (Or.inr (Or.inr (Or.inr ⟨rfl, rfl, rfl⟩)))) (hb hby d20_47) hr)
theorem d21_0 : decode jdk_29_method_66_code 0 = .ok (.lload_n 0, 1) := by decide +kernel
theorem d21_1 : decode jdk_29_method_66_code 1 = .ok (.lload_n 2, 1) := by decide +kernel
theorem d21_2 : decode jdk_29_method_66_code 2 = .ok (.lcmp, 1) := by decide +kernel
theorem d21_3 : decode jdk_29_method_66_code 3 = .ok (.ifCond .lt 7, 3) := by decide +kernel
theorem d21_10 : decode jdk_29_method_66_code 10 = .ok (.lload_n 2, 1) := by decide +kernel
theorem d21_11 : decode jdk_29_method_66_code 11 = .ok (.lreturn, 1) := by decide +kernel
def Q_rm_max1 (Z : State) (q1 : Int64) (q2 : Int64) (h0 : Heap) (n0 : Nat) (v : Option Value) (h : Heap) (L : List Loc) : Prop := v = some (.long q2) ∧ Fr n0 L ∧ h = h0
set_option maxRecDepth 65536 in
set_option maxHeartbeats 40000000 in
theorem rm_max1 (l : Launch) (Z : State) (a0 : Array Value) (hw : ∀ d ∈ tables_1, d.before a0 Z = true) (ws : List Jvm.Cond) (q1 : Int64) (q2 : Int64) (h0 : Heap) (n0 : Nat) (Z0 : n0 ≤ h0.size) (O0 : Old Z n0 h0) (hm : (XT.cmpL q1 q2) < (0 : Int32)) :
    MetFree l Y22 (head1 (Cond.code Y22 jdk_29_method_66_code 4 (some .long) :: ws) r2) (fun a U => a = #[(.long q1), (.long q2)] ∧ Z.Warmed39 U.vm ∧ U.heap = h0) (fun _ _ _ _ _ => True) (fun _ U o U' => ∃ v L, o = .returned v ∧ Q_rm_max1 Z q1 q2 h0 n0 v U'.heap L ∧ FrameEnd U o U' L r2.cells r2.slots) := by
  refine MetFree.of_bodySF (Jvm.Free.JP.mathPlain rfl (by decide +kernel)) hisR ?_
  intro p e s m args below meth c s₁ Bd hml0 hP hK
  obtain ⟨rfl, hZ, hh⟩ := hP
  have hx := Bd.exec
  have hby := Bd.bytes
  have hml : c.maxLocals = 4 := hml0
  have hown : s.vm.findClass "java/lang/Math" = some m.cls := findClass_of_methodNamed Bd.named
  have hnm := (name_of_methodNamed Bd.named Bd.method).1
  have X0 : Stand p l e r2 s m #[(.long q1), (.long q2)] below meth c s₁ [] 0 0 := Stand.of_body Bd
  have e0 : s₁.heap = h0 := by rw [← hh, Bd.state]; rfl
  have N0 := Fr.nil n0
  refine Goes.out (l := l) (c := c) (R := r2) (Q := Q_rm_max1 Z q1 q2 h0 n0) Bd.notSynchronized ?_
  refine Goes.cast (g2 := mkF m 0 #[.val (.long q1), .second, .val (.long q2), .second] []) (by first | (simp [entryFrame, mkF, argsToLocals, Value.category]; done) | rfl) ?_
  refine gs s₁ (mkF m 1 #[.val (.long q1), .second, .val (.long q2), .second] [(.long q1)]) (fun _ hr => XT.lloadN X0.here hx rfl (hb hby d21_0) rfl hr) ?_
  refine gs s₁ (mkF m 2 #[.val (.long q1), .second, .val (.long q2), .second] [(.long q2), (.long q1)]) (fun _ hr => XT.lloadN X0.here hx rfl (hb hby d21_1) rfl hr) ?_
  refine gs s₁ (mkF m 3 #[.val (.long q1), .second, .val (.long q2), .second] [(.int (XT.cmpL q1 q2))]) (fun _ hr => XT.lcmp X0.here hx rfl (hb hby d21_2) rfl hr) ?_
  refine gs s₁ (mkF m 10 #[.val (.long q1), .second, .val (.long q2), .second] []) (fun _ hr => XS.ifYes X0.here hx rfl (pc0 := 3) (pc' := 10) rfl (hb hby d21_3) rfl ((if0 _ _).trans (tlt (hm : (XT.cmpL q1 q2) < (0 : Int32))).1) (by decide) (by decide) hr) ?_
  refine gs s₁ (mkF m 11 #[.val (.long q1), .second, .val (.long q2), .second] [(.long q2)]) (fun _ hr => XT.lloadN X0.here hx rfl (hb hby d21_10) rfl hr) ?_
  exact Goes.ret (v := some (.long q2)) X0 (by decide) (by decide) (fun h => by rw [Bd.returns] at h; cases h) ⟨rfl, N0, e0⟩ (fun fs hr => retOut X0 hx Bd.returns rfl (Or.inr (Or.inl ⟨rfl, rfl, _, rfl⟩)) (hb hby d21_11) hr)
theorem d21_6 : decode jdk_29_method_66_code 6 = .ok (.lload_n 0, 1) := by decide +kernel
theorem d21_7 : decode jdk_29_method_66_code 7 = .ok (.goto 4, 3) := by decide +kernel
def Q_rm_max0 (Z : State) (q1 : Int64) (q2 : Int64) (h0 : Heap) (n0 : Nat) (v : Option Value) (h : Heap) (L : List Loc) : Prop := v = some (.long q1) ∧ Fr n0 L ∧ h = h0
set_option maxRecDepth 65536 in
set_option maxHeartbeats 40000000 in
theorem rm_max0 (l : Launch) (Z : State) (a0 : Array Value) (hw : ∀ d ∈ tables_1, d.before a0 Z = true) (ws : List Jvm.Cond) (q1 : Int64) (q2 : Int64) (h0 : Heap) (n0 : Nat) (Z0 : n0 ≤ h0.size) (O0 : Old Z n0 h0) (hm : ¬ ((XT.cmpL q1 q2) < (0 : Int32))) :
    MetFree l Y22 (head1 (Cond.code Y22 jdk_29_method_66_code 4 (some .long) :: ws) r2) (fun a U => a = #[(.long q1), (.long q2)] ∧ Z.Warmed39 U.vm ∧ U.heap = h0) (fun _ _ _ _ _ => True) (fun _ U o U' => ∃ v L, o = .returned v ∧ Q_rm_max0 Z q1 q2 h0 n0 v U'.heap L ∧ FrameEnd U o U' L r2.cells r2.slots) := by
  refine MetFree.of_bodySF (Jvm.Free.JP.mathPlain rfl (by decide +kernel)) hisR ?_
  intro p e s m args below meth c s₁ Bd hml0 hP hK
  obtain ⟨rfl, hZ, hh⟩ := hP
  have hx := Bd.exec
  have hby := Bd.bytes
  have hml : c.maxLocals = 4 := hml0
  have hown : s.vm.findClass "java/lang/Math" = some m.cls := findClass_of_methodNamed Bd.named
  have hnm := (name_of_methodNamed Bd.named Bd.method).1
  have X0 : Stand p l e r2 s m #[(.long q1), (.long q2)] below meth c s₁ [] 0 0 := Stand.of_body Bd
  have e0 : s₁.heap = h0 := by rw [← hh, Bd.state]; rfl
  have N0 := Fr.nil n0
  refine Goes.out (l := l) (c := c) (R := r2) (Q := Q_rm_max0 Z q1 q2 h0 n0) Bd.notSynchronized ?_
  refine Goes.cast (g2 := mkF m 0 #[.val (.long q1), .second, .val (.long q2), .second] []) (by first | (simp [entryFrame, mkF, argsToLocals, Value.category]; done) | rfl) ?_
  refine gs s₁ (mkF m 1 #[.val (.long q1), .second, .val (.long q2), .second] [(.long q1)]) (fun _ hr => XT.lloadN X0.here hx rfl (hb hby d21_0) rfl hr) ?_
  refine gs s₁ (mkF m 2 #[.val (.long q1), .second, .val (.long q2), .second] [(.long q2), (.long q1)]) (fun _ hr => XT.lloadN X0.here hx rfl (hb hby d21_1) rfl hr) ?_
  refine gs s₁ (mkF m 3 #[.val (.long q1), .second, .val (.long q2), .second] [(.int (XT.cmpL q1 q2))]) (fun _ hr => XT.lcmp X0.here hx rfl (hb hby d21_2) rfl hr) ?_
  refine gs s₁ (mkF m 6 #[.val (.long q1), .second, .val (.long q2), .second] []) (fun _ hr => XS.ifNo X0.here hx rfl (hb hby d21_3) rfl ((if0 _ _).trans (flt (hm : ¬ ((XT.cmpL q1 q2) < (0 : Int32)))).1) hr) ?_
  refine gs s₁ (mkF m 7 #[.val (.long q1), .second, .val (.long q2), .second] [(.long q1)]) (fun _ hr => XT.lloadN X0.here hx rfl (hb hby d21_6) rfl hr) ?_
  refine gs s₁ (mkF m 11 #[.val (.long q1), .second, .val (.long q2), .second] [(.long q1)]) (fun _ hr => XS.goto X0.here hx rfl (pc0 := 7) (pc' := 11) rfl (hb hby d21_7) (by decide) (by decide) hr) ?_
  exact Goes.ret (v := some (.long q1)) X0 (by decide) (by decide) (fun h => by rw [Bd.returns] at h; cases h) ⟨rfl, N0, e0⟩ (fun fs hr => retOut X0 hx Bd.returns rfl (Or.inr (Or.inl ⟨rfl, rfl, _, rfl⟩)) (hb hby d21_11) hr)
theorem d22_0 : decode prog_18_method_3_code 0 = .ok (.aload_n 0, 1) := by decide +kernel
theorem d22_1 : decode prog_18_method_3_code 1 = .ok (.invokevirtual 7, 3) := by decide +kernel
theorem d22_4 : decode prog_18_method_3_code 4 = .ok (.ifCond .ne 10, 3) := by decide +kernel
theorem d22_14 : decode prog_18_method_3_code 14 = .ok (.invokestatic 17, 3) := by decide +kernel
theorem d22_17 : decode prog_18_method_3_code 17 = .ok (.astore_n 2, 1) := by decide +kernel
theorem d22_18 : decode prog_18_method_3_code 18 = .ok (.goto 20, 3) := by decide +kernel
theorem d22_38 : decode prog_18_method_3_code 38 = .ok (.aload_n 2, 1) := by decide +kernel
theorem d22_39 : decode prog_18_method_3_code 39 = .ok (.areturn, 1) := by decide +kernel
def Q_rm_msem (Z : State) (em : Addr) (a2 : Addr) (h0 : Heap) (n0 : Nat) (v : Option Value) (h : Heap) (L : List Loc) : Prop := v = some (.ref em) ∧ Fr n0 L ∧ h = h0
set_option maxRecDepth 65536 in
set_option maxHeartbeats 40000000 in
theorem rm_msem (l : Launch) (Z : State) (a0 : Array Value) (hw : ∀ d ∈ tables_1, d.before a0 Z = true) (ws : List Jvm.Cond) (em : Addr) (a2 : Addr) (h0 : Heap) (n0 : Nat) (Z0 : n0 ≤ h0.size) (O0 : Old Z n0 h0) (S_OptionalLong_EMPTY_old : Sta Z Z.heap cOL "EMPTY" dOL (.ref em)) (E_em_old : Exa Z Z.heap em cOL) (F_em_isPresent_old : Fld Z Z.heap em cOL nIP "Z" (.int (0 : Int32))) (F_em_value_old : Fld Z Z.heap em cOL "value" "J" (.long (0 : Int64))) :
    MetFree l Y23 (head1 (Cond.code Y23 prog_18_method_3_code 3 (some (.object cOL)) :: ws) r0) (fun a U => a = #[(.ref em), (.ref a2)] ∧ Z.Warmed39 U.vm ∧ U.heap = h0) (fun _ _ _ _ _ => True) (fun _ U o U' => ∃ v L, o = .returned v ∧ Q_rm_msem Z em a2 h0 n0 v U'.heap L ∧ FrameEnd U o U' L r0.cells r0.slots) := by
  refine MetFree.of_bodySF (plainFor_of_name pn_com_example_log_lag_gauge_loglaggauge_model_Trailing) hisR ?_
  intro p e s m args below meth c s₁ Bd hml0 hP hK
  obtain ⟨rfl, hZ, hh⟩ := hP
  have hx := Bd.exec
  have hby := Bd.bytes
  have hml : c.maxLocals = 3 := hml0
  have hown : s.vm.findClass "com/example/log_lag_gauge/loglaggauge/model/Trailing" = some m.cls := findClass_of_methodNamed Bd.named
  have hnm := (name_of_methodNamed Bd.named Bd.method).1
  have X0 : Stand p l e r0 s m #[(.ref em), (.ref a2)] below meth c s₁ [] 0 0 := Stand.of_body Bd
  have e0 : s₁.heap = h0 := by rw [← hh, Bd.state]; rfl
  have N0 := Fr.nil n0
  refine Goes.out (l := l) (c := c) (R := r0) (Q := Q_rm_msem Z em a2 h0 n0) Bd.notSynchronized ?_
  refine Goes.cast (g2 := mkF m 0 #[rv em, rv a2, .unset] []) (by first | (simp [entryFrame, mkF, argsToLocals, Value.category]; done) | rfl) ?_
  have K0 : Keep h0 h0 [] := Keep.refl h0 _
  have hws : ∀ x ∈ ([] : List Addr), n0 ≤ x := all0
  refine gs s₁ (mkF m 1 #[rv em, rv a2, .unset] [(.ref em)]) (fun _ hr => XS.aloadN X0.here hx rfl (hb hby d22_0) rfl rfl hr) ?_
  have Zs67 : n0 ≤ h0.size := Nat.le_trans Z0 K0.1
  obtain ⟨cq68, kq68, q68a, q68b, q68c⟩ := isOf hZ e0 (E_em_old.ext (Old.keep O0 K0 hws).2)
  obtain ⟨_, _, ⟨T68, L68, k68, n68⟩, -, X68, ⟨Lc68, hQ68, l68, y68, z68⟩, st68⟩ := X0.virtualBack hx (y := Y6) (z := Y6) hown (mvT hZ (tw hw 148 rfl)) (mvT hZ (tw hw 77 rfl)) (notFace_of_selects (args := #[]) (mvT hZ (tw hw 79 rfl))) (mvT hZ (tw hw 79 rfl)) (mvT hZ (tw hw 78 rfl)) (by decide) (backOf (W := 0) (rm_ole0 l Z a0 hw [] em h0 n0 Zs67 (Old.keep O0 K0 hws) (F_em_isPresent_old.ext (Old.keep O0 K0 hws).2)) hZ (tw hw 80 rfl) (tw hw 3 rfl) (by decide) (by decide)) q68a q68c (g := (mkF m 1 #[rv em, rv a2, .unset] [(.ref em)])) rfl (by rw [hml]; rfl) (Steps.refl _) (argsL := []) (rest := []) (lenOf pd_1 rfl) rfl (wle rfl) (hb hby d22_1) (fun _ _ => ⟨rfl, e0, (by decide : 0 + 0 ≤ _), (by decide : 0 + 0 ≤ _)⟩)
  dsimp only [Pt.U, Pt.locs, Pt.cells, Pt.slots] at X68 l68 y68 z68 st68 hQ68
  subst l68 y68 z68
  obtain ⟨rfl, N68q, e68⟩ := hQ68
  have N68 := Fr.app N0 N68q
  refine gs T68 (mkF m 4 #[rv em, rv a2, .unset] [(.int (1 : Int32))]) (fun _ hr => st68.trans hr) ?_
  refine gs T68 (mkF m 14 #[rv em, rv a2, .unset] []) (fun _ hr => XS.ifYes X68.here hx rfl (pc0 := 4) (pc' := 14) rfl (hb hby d22_4) rfl ((if0 _ _).trans (feq (by decide : ¬ ((1 : Int32) = (0 : Int32)))).2) (by decide) (by decide) hr) ?_
  have Zs69 : n0 ≤ h0.size := Nat.le_trans Z0 K0.1
  obtain ⟨_, _, ⟨T70, L70, k70, n70⟩, -, X70, ⟨Lc70, hQ70, l70, y70, z70⟩, st70⟩ := LawKit.callS X68 hx (y := Y4) hown (mvT hZ (tw hw 203 rfl)) (mvT hZ (tw hw 2 rfl)) (mvT hZ (tw hw 3 rfl)) (mvT hZ (tw hw 4 rfl)) (by decide) (backOf (W := 0) (rm_olem l Z a0 hw [] em h0 n0 Zs69 (Old.keep O0 K0 hws) S_OptionalLong_EMPTY_old) hZ (tw hw 4 rfl) (tw hw 3 rfl) (by decide) (by decide)) (g := (mkF m 14 #[rv em, rv a2, .unset] [])) rfl (by rw [hml]; rfl) (argsL := []) (rest := []) (lenOf pd_6 rfl) rfl (wle rfl) (hb hby d22_14) (fun _ _ => ⟨rfl, e68, (by decide : 0 + 0 ≤ _), (by decide : 0 + 0 ≤ _)⟩)
  dsimp only [Pt.U, Pt.locs, Pt.cells, Pt.slots] at X70 l70 y70 z70 st70 hQ70
  subst l70 y70 z70
  obtain ⟨rfl, N70q, e70⟩ := hQ70
  have N70 := Fr.app N68 N70q
  refine gs T70 (mkF m 17 #[rv em, rv a2, .unset] [(.ref em)]) st70 ?_
  refine gs T70 (mkF m 18 #[rv em, rv a2, rv em] []) (fun _ hr => XS.astoreN X70.here hx rfl (hb hby d22_17) rfl rfl (l' := #[rv em, rv a2, rv em]) rfl hr) ?_
  refine gs T70 (mkF m 38 #[rv em, rv a2, rv em] []) (fun _ hr => XS.goto X70.here hx rfl (pc0 := 18) (pc' := 38) rfl (hb hby d22_18) (by decide) (by decide) hr) ?_
  refine gs T70 (mkF m 39 #[rv em, rv a2, rv em] [(.ref em)]) (fun _ hr => XS.aloadN X70.here hx rfl (hb hby d22_38) rfl rfl hr) ?_
  exact Goes.ret (v := some (.ref em)) X70 (by decide) (by decide) (fun h => by rw [Bd.returns] at h; cases h) ⟨rfl, N70, e70⟩ (fun fs hr => retOut X70 hx Bd.returns rfl (Or.inr (Or.inr (Or.inr (Or.inr ⟨rfl, rfl, rfl⟩)))) (hb hby d22_39) hr)
theorem d22_7 : decode prog_18_method_3_code 7 = .ok (.aload_n 1, 1) := by decide +kernel
theorem d22_8 : decode prog_18_method_3_code 8 = .ok (.invokevirtual 7, 3) := by decide +kernel
theorem d22_11 : decode prog_18_method_3_code 11 = .ok (.ifCond .eq 10, 3) := by decide +kernel
def Q_rm_ms1em (Z : State) (a1 : Addr) (q4 : Int64) (em : Addr) (h0 : Heap) (n0 : Nat) (v : Option Value) (h : Heap) (L : List Loc) : Prop := v = some (.ref em) ∧ Fr n0 L ∧ h = h0
set_option maxRecDepth 65536 in
set_option maxHeartbeats 40000000 in
theorem rm_ms1em (l : Launch) (Z : State) (a0 : Array Value) (hw : ∀ d ∈ tables_1, d.before a0 Z = true) (ws : List Jvm.Cond) (a1 : Addr) (q4 : Int64) (em : Addr) (h0 : Heap) (n0 : Nat) (Z0 : n0 ≤ h0.size) (O0 : Old Z n0 h0) (E_a1 : Exa Z h0 a1 cOL) (F_a1_isPresent : Fld Z h0 a1 cOL nIP "Z" (.int (1 : Int32))) (F_a1_value : Fld Z h0 a1 cOL "value" "J" (.long q4)) (S_OptionalLong_EMPTY_old : Sta Z Z.heap cOL "EMPTY" dOL (.ref em)) (E_em_old : Exa Z Z.heap em cOL) (F_em_isPresent_old : Fld Z Z.heap em cOL nIP "Z" (.int (0 : Int32))) (F_em_value_old : Fld Z Z.heap em cOL "value" "J" (.long (0 : Int64))) :
    MetFree l Y23 (head1 (Cond.code Y23 prog_18_method_3_code 3 (some (.object cOL)) :: ws) r0) (fun a U => a = #[(.ref a1), (.ref em)] ∧ Z.Warmed39 U.vm ∧ U.heap = h0) (fun _ _ _ _ _ => True) (fun _ U o U' => ∃ v L, o = .returned v ∧ Q_rm_ms1em Z a1 q4 em h0 n0 v U'.heap L ∧ FrameEnd U o U' L r0.cells r0.slots) := by
  refine MetFree.of_bodySF (plainFor_of_name pn_com_example_log_lag_gauge_loglaggauge_model_Trailing) hisR ?_
  intro p e s m args below meth c s₁ Bd hml0 hP hK
  obtain ⟨rfl, hZ, hh⟩ := hP
  have hx := Bd.exec
  have hby := Bd.bytes
  have hml : c.maxLocals = 3 := hml0
  have hown : s.vm.findClass "com/example/log_lag_gauge/loglaggauge/model/Trailing" = some m.cls := findClass_of_methodNamed Bd.named
  have hnm := (name_of_methodNamed Bd.named Bd.method).1
  have X0 : Stand p l e r0 s m #[(.ref a1), (.ref em)] below meth c s₁ [] 0 0 := Stand.of_body Bd
  have e0 : s₁.heap = h0 := by rw [← hh, Bd.state]; rfl
  have N0 := Fr.nil n0
  refine Goes.out (l := l) (c := c) (R := r0) (Q := Q_rm_ms1em Z a1 q4 em h0 n0) Bd.notSynchronized ?_
  refine Goes.cast (g2 := mkF m 0 #[rv a1, rv em, .unset] []) (by first | (simp [entryFrame, mkF, argsToLocals, Value.category]; done) | rfl) ?_
  have K0 : Keep h0 h0 [] := Keep.refl h0 _
  have hws : ∀ x ∈ ([] : List Addr), n0 ≤ x := all0
  refine gs s₁ (mkF m 1 #[rv a1, rv em, .unset] [(.ref a1)]) (fun _ hr => XS.aloadN X0.here hx rfl (hb hby d22_0) rfl rfl hr) ?_
  have Zs71 : n0 ≤ h0.size := Nat.le_trans Z0 K0.1
  obtain ⟨cq72, kq72, q72a, q72b, q72c⟩ := isOf hZ e0 E_a1
  obtain ⟨_, _, ⟨T72, L72, k72, n72⟩, -, X72, ⟨Lc72, hQ72, l72, y72, z72⟩, st72⟩ := X0.virtualBack hx (y := Y6) (z := Y6) hown (mvT hZ (tw hw 148 rfl)) (mvT hZ (tw hw 77 rfl)) (notFace_of_selects (args := #[]) (mvT hZ (tw hw 79 rfl))) (mvT hZ (tw hw 79 rfl)) (mvT hZ (tw hw 78 rfl)) (by decide) (backOf (W := 0) (rm_ole1 l Z a0 hw [] a1 h0 n0 Zs71 (Old.keep O0 K0 hws) F_a1_isPresent) hZ (tw hw 80 rfl) (tw hw 3 rfl) (by decide) (by decide)) q72a q72c (g := (mkF m 1 #[rv a1, rv em, .unset] [(.ref a1)])) rfl (by rw [hml]; rfl) (Steps.refl _) (argsL := []) (rest := []) (lenOf pd_1 rfl) rfl (wle rfl) (hb hby d22_1) (fun _ _ => ⟨rfl, e0, (by decide : 0 + 0 ≤ _), (by decide : 0 + 0 ≤ _)⟩)
  dsimp only [Pt.U, Pt.locs, Pt.cells, Pt.slots] at X72 l72 y72 z72 st72 hQ72
  subst l72 y72 z72
  obtain ⟨rfl, N72q, e72⟩ := hQ72
  have N72 := Fr.app N0 N72q
  refine gs T72 (mkF m 4 #[rv a1, rv em, .unset] [(.int (0 : Int32))]) (fun _ hr => st72.trans hr) ?_
  refine gs T72 (mkF m 7 #[rv a1, rv em, .unset] []) (fun _ hr => XS.ifNo X72.here hx rfl (hb hby d22_4) rfl ((if0 _ _).trans (teq (by decide : (0 : Int32) = (0 : Int32))).2) hr) ?_
  refine gs T72 (mkF m 8 #[rv a1, rv em, .unset] [(.ref em)]) (fun _ hr => XS.aloadN X72.here hx rfl (hb hby d22_7) rfl rfl hr) ?_
  have Zs73 : n0 ≤ h0.size := Nat.le_trans Z0 K0.1
  obtain ⟨cq74, kq74, q74a, q74b, q74c⟩ := isOf hZ e72 (E_em_old.ext (Old.keep O0 K0 hws).2)
  obtain ⟨_, _, ⟨T74, L74, k74, n74⟩, -, X74, ⟨Lc74, hQ74, l74, y74, z74⟩, st74⟩ := X72.virtualBack hx (y := Y6) (z := Y6) hown (mvT hZ (tw hw 148 rfl)) (mvT hZ (tw hw 77 rfl)) (notFace_of_selects (args := #[]) (mvT hZ (tw hw 79 rfl))) (mvT hZ (tw hw 79 rfl)) (mvT hZ (tw hw 78 rfl)) (by decide) (backOf (W := 0) (rm_ole0 l Z a0 hw [] em h0 n0 Zs73 (Old.keep O0 K0 hws) (F_em_isPresent_old.ext (Old.keep O0 K0 hws).2)) hZ (tw hw 80 rfl) (tw hw 3 rfl) (by decide) (by decide)) q74a q74c (g := (mkF m 8 #[rv a1, rv em, .unset] [(.ref em)])) rfl (by rw [hml]; rfl) (Steps.refl _) (argsL := []) (rest := []) (lenOf pd_1 rfl) rfl (wle rfl) (hb hby d22_8) (fun _ _ => ⟨rfl, e72, (by decide : 0 + 0 ≤ _), (by decide : 0 + 0 ≤ _)⟩)
  dsimp only [Pt.U, Pt.locs, Pt.cells, Pt.slots] at X74 l74 y74 z74 st74 hQ74
  subst l74 y74 z74
  obtain ⟨rfl, N74q, e74⟩ := hQ74
  have N74 := Fr.app N72 N74q
  refine gs T74 (mkF m 11 #[rv a1, rv em, .unset] [(.int (1 : Int32))]) (fun _ hr => st74.trans hr) ?_
  refine gs T74 (mkF m 14 #[rv a1, rv em, .unset] []) (fun _ hr => XS.ifNo X74.here hx rfl (hb hby d22_11) rfl ((if0 _ _).trans (feq (by decide : ¬ ((1 : Int32) = (0 : Int32)))).1) hr) ?_
  have Zs75 : n0 ≤ h0.size := Nat.le_trans Z0 K0.1
  obtain ⟨_, _, ⟨T76, L76, k76, n76⟩, -, X76, ⟨Lc76, hQ76, l76, y76, z76⟩, st76⟩ := LawKit.callS X74 hx (y := Y4) hown (mvT hZ (tw hw 203 rfl)) (mvT hZ (tw hw 2 rfl)) (mvT hZ (tw hw 3 rfl)) (mvT hZ (tw hw 4 rfl)) (by decide) (backOf (W := 0) (rm_olem l Z a0 hw [] em h0 n0 Zs75 (Old.keep O0 K0 hws) S_OptionalLong_EMPTY_old) hZ (tw hw 4 rfl) (tw hw 3 rfl) (by decide) (by decide)) (g := (mkF m 14 #[rv a1, rv em, .unset] [])) rfl (by rw [hml]; rfl) (argsL := []) (rest := []) (lenOf pd_6 rfl) rfl (wle rfl) (hb hby d22_14) (fun _ _ => ⟨rfl, e74, (by decide : 0 + 0 ≤ _), (by decide : 0 + 0 ≤ _)⟩)
  dsimp only [Pt.U, Pt.locs, Pt.cells, Pt.slots] at X76 l76 y76 z76 st76 hQ76
  subst l76 y76 z76
  obtain ⟨rfl, N76q, e76⟩ := hQ76
  have N76 := Fr.app N74 N76q
  refine gs T76 (mkF m 17 #[rv a1, rv em, .unset] [(.ref em)]) st76 ?_
  refine gs T76 (mkF m 18 #[rv a1, rv em, rv em] []) (fun _ hr => XS.astoreN X76.here hx rfl (hb hby d22_17) rfl rfl (l' := #[rv a1, rv em, rv em]) rfl hr) ?_
  refine gs T76 (mkF m 38 #[rv a1, rv em, rv em] []) (fun _ hr => XS.goto X76.here hx rfl (pc0 := 18) (pc' := 38) rfl (hb hby d22_18) (by decide) (by decide) hr) ?_
  refine gs T76 (mkF m 39 #[rv a1, rv em, rv em] [(.ref em)]) (fun _ hr => XS.aloadN X76.here hx rfl (hb hby d22_38) rfl rfl hr) ?_
  exact Goes.ret (v := some (.ref em)) X76 (by decide) (by decide) (fun h => by rw [Bd.returns] at h; cases h) ⟨rfl, N76, e76⟩ (fun fs hr => retOut X76 hx Bd.returns rfl (Or.inr (Or.inr (Or.inr (Or.inr ⟨rfl, rfl, rfl⟩)))) (hb hby d22_39) hr)
theorem d22_21 : decode prog_18_method_3_code 21 = .ok (.lconst 0, 1) := by decide +kernel
theorem d22_22 : decode prog_18_method_3_code 22 = .ok (.aload_n 0, 1) := by decide +kernel
theorem d22_23 : decode prog_18_method_3_code 23 = .ok (.invokevirtual 13, 3) := by decide +kernel
theorem d22_26 : decode prog_18_method_3_code 26 = .ok (.aload_n 1, 1) := by decide +kernel
theorem d22_27 : decode prog_18_method_3_code 27 = .ok (.invokevirtual 13, 3) := by decide +kernel
theorem d22_30 : decode prog_18_method_3_code 30 = .ok (.lsub, 1) := by decide +kernel
theorem d22_31 : decode prog_18_method_3_code 31 = .ok (.invokestatic 25, 3) := by decide +kernel
theorem d22_34 : decode prog_18_method_3_code 34 = .ok (.invokestatic 21, 3) := by decide +kernel
theorem d22_37 : decode prog_18_method_3_code 37 = .ok (.astore_n 2, 1) := by decide +kernel
def Q_rm_ms111 (Z : State) (a1 : Addr) (a2 : Addr) (q3 : Int64) (q4 : Int64) (em : Addr) (h0 : Heap) (n0 : Nat) (v : Option Value) (h : Heap) (L : List Loc) : Prop := ∃ w : Addr, v = some (.ref w) ∧ Fr n0 L ∧ Keep h0 h [] ∧ h0.size ≤ w ∧ Exa Z h w cOL ∧ Fld Z h w cOL nIP "Z" (.int (1 : Int32)) ∧ Fld Z h w cOL "value" "J" (.long (q4 - q3))
set_option maxRecDepth 65536 in
set_option maxHeartbeats 40000000 in
theorem rm_ms111 (l : Launch) (Z : State) (a0 : Array Value) (hw : ∀ d ∈ tables_1, d.before a0 Z = true) (ws : List Jvm.Cond) (a1 : Addr) (a2 : Addr) (q3 : Int64) (q4 : Int64) (em : Addr) (h0 : Heap) (n0 : Nat) (Z0 : n0 ≤ h0.size) (O0 : Old Z n0 h0) (E_a1 : Exa Z h0 a1 cOL) (F_a1_isPresent : Fld Z h0 a1 cOL nIP "Z" (.int (1 : Int32))) (F_a1_value : Fld Z h0 a1 cOL "value" "J" (.long q4)) (E_a2 : Exa Z h0 a2 cOL) (F_a2_isPresent : Fld Z h0 a2 cOL nIP "Z" (.int (1 : Int32))) (F_a2_value : Fld Z h0 a2 cOL "value" "J" (.long q3)) (S_OptionalLong_EMPTY_old : Sta Z Z.heap cOL "EMPTY" dOL (.ref em)) (E_em_old : Exa Z Z.heap em cOL) (F_em_isPresent_old : Fld Z Z.heap em cOL nIP "Z" (.int (0 : Int32))) (F_em_value_old : Fld Z Z.heap em cOL "value" "J" (.long (0 : Int64))) (hmx : (XT.cmpL (0 : Int64) (q4 - q3)) < (0 : Int32)) :
    MetFree l Y23 (head1 (Cond.code Y23 prog_18_method_3_code 3 (some (.object cOL)) :: ws) r5) (fun a U => a = #[(.ref a1), (.ref a2)] ∧ Z.Warmed39 U.vm ∧ U.heap = h0) (fun _ _ _ _ _ => True) (fun _ U o U' => ∃ v L, o = .returned v ∧ Q_rm_ms111 Z a1 a2 q3 q4 em h0 n0 v U'.heap L ∧ FrameEnd U o U' L r5.cells r5.slots) := by
  refine MetFree.of_bodySF (plainFor_of_name pn_com_example_log_lag_gauge_loglaggauge_model_Trailing) hisR ?_
  intro p e s m args below meth c s₁ Bd hml0 hP hK
  obtain ⟨rfl, hZ, hh⟩ := hP
  have hx := Bd.exec
  have hby := Bd.bytes
  have hml : c.maxLocals = 3 := hml0
  have hown : s.vm.findClass "com/example/log_lag_gauge/loglaggauge/model/Trailing" = some m.cls := findClass_of_methodNamed Bd.named
  have hnm := (name_of_methodNamed Bd.named Bd.method).1
  have X0 : Stand p l e r5 s m #[(.ref a1), (.ref a2)] below meth c s₁ [] 0 0 := Stand.of_body Bd
  have e0 : s₁.heap = h0 := by rw [← hh, Bd.state]; rfl
  have N0 := Fr.nil n0
  refine Goes.out (l := l) (c := c) (R := r5) (Q := Q_rm_ms111 Z a1 a2 q3 q4 em h0 n0) Bd.notSynchronized ?_
  refine Goes.cast (g2 := mkF m 0 #[rv a1, rv a2, .unset] []) (by first | (simp [entryFrame, mkF, argsToLocals, Value.category]; done) | rfl) ?_
  have K0 : Keep h0 h0 [] := Keep.refl h0 _
  have hws : ∀ x ∈ ([] : List Addr), n0 ≤ x := all0
  refine gs s₁ (mkF m 1 #[rv a1, rv a2, .unset] [(.ref a1)]) (fun _ hr => XS.aloadN X0.here hx rfl (hb hby d22_0) rfl rfl hr) ?_
  have Zs77 : n0 ≤ h0.size := Nat.le_trans Z0 K0.1
  obtain ⟨cq78, kq78, q78a, q78b, q78c⟩ := isOf hZ e0 E_a1
  obtain ⟨_, _, ⟨T78, L78, k78, n78⟩, -, X78, ⟨Lc78, hQ78, l78, y78, z78⟩, st78⟩ := X0.virtualBack hx (y := Y6) (z := Y6) hown (mvT hZ (tw hw 148 rfl)) (mvT hZ (tw hw 77 rfl)) (notFace_of_selects (args := #[]) (mvT hZ (tw hw 79 rfl))) (mvT hZ (tw hw 79 rfl)) (mvT hZ (tw hw 78 rfl)) (by decide) (backOf (W := 0) (rm_ole1 l Z a0 hw [] a1 h0 n0 Zs77 (Old.keep O0 K0 hws) F_a1_isPresent) hZ (tw hw 80 rfl) (tw hw 3 rfl) (by decide) (by decide)) q78a q78c (g := (mkF m 1 #[rv a1, rv a2, .unset] [(.ref a1)])) rfl (by rw [hml]; rfl) (Steps.refl _) (argsL := []) (rest := []) (lenOf pd_1 rfl) rfl (wle rfl) (hb hby d22_1) (fun _ _ => ⟨rfl, e0, (by decide : 0 + 0 ≤ _), (by decide : 0 + 0 ≤ _)⟩)
  dsimp only [Pt.U, Pt.locs, Pt.cells, Pt.slots] at X78 l78 y78 z78 st78 hQ78
  subst l78 y78 z78
  obtain ⟨rfl, N78q, e78⟩ := hQ78
  have N78 := Fr.app N0 N78q
  refine gs T78 (mkF m 4 #[rv a1, rv a2, .unset] [(.int (0 : Int32))]) (fun _ hr => st78.trans hr) ?_
  refine gs T78 (mkF m 7 #[rv a1, rv a2, .unset] []) (fun _ hr => XS.ifNo X78.here hx rfl (hb hby d22_4) rfl ((if0 _ _).trans (teq (by decide : (0 : Int32) = (0 : Int32))).2) hr) ?_
  refine gs T78 (mkF m 8 #[rv a1, rv a2, .unset] [(.ref a2)]) (fun _ hr => XS.aloadN X78.here hx rfl (hb hby d22_7) rfl rfl hr) ?_
  have Zs79 : n0 ≤ h0.size := Nat.le_trans Z0 K0.1
  obtain ⟨cq80, kq80, q80a, q80b, q80c⟩ := isOf hZ e78 E_a2
  obtain ⟨_, _, ⟨T80, L80, k80, n80⟩, -, X80, ⟨Lc80, hQ80, l80, y80, z80⟩, st80⟩ := X78.virtualBack hx (y := Y6) (z := Y6) hown (mvT hZ (tw hw 148 rfl)) (mvT hZ (tw hw 77 rfl)) (notFace_of_selects (args := #[]) (mvT hZ (tw hw 79 rfl))) (mvT hZ (tw hw 79 rfl)) (mvT hZ (tw hw 78 rfl)) (by decide) (backOf (W := 0) (rm_ole1 l Z a0 hw [] a2 h0 n0 Zs79 (Old.keep O0 K0 hws) F_a2_isPresent) hZ (tw hw 80 rfl) (tw hw 3 rfl) (by decide) (by decide)) q80a q80c (g := (mkF m 8 #[rv a1, rv a2, .unset] [(.ref a2)])) rfl (by rw [hml]; rfl) (Steps.refl _) (argsL := []) (rest := []) (lenOf pd_1 rfl) rfl (wle rfl) (hb hby d22_8) (fun _ _ => ⟨rfl, e78, (by decide : 0 + 0 ≤ _), (by decide : 0 + 0 ≤ _)⟩)
  dsimp only [Pt.U, Pt.locs, Pt.cells, Pt.slots] at X80 l80 y80 z80 st80 hQ80
  subst l80 y80 z80
  obtain ⟨rfl, N80q, e80⟩ := hQ80
  have N80 := Fr.app N78 N80q
  refine gs T80 (mkF m 11 #[rv a1, rv a2, .unset] [(.int (0 : Int32))]) (fun _ hr => st80.trans hr) ?_
  refine gs T80 (mkF m 21 #[rv a1, rv a2, .unset] []) (fun _ hr => XS.ifYes X80.here hx rfl (pc0 := 11) (pc' := 21) rfl (hb hby d22_11) rfl ((if0 _ _).trans (teq (by decide : (0 : Int32) = (0 : Int32))).1) (by decide) (by decide) hr) ?_
  refine gs T80 (mkF m 22 #[rv a1, rv a2, .unset] [(.long (0 : Int64))]) (fun _ hr => XT.lconst X80.here hx rfl (hb hby d22_21) hr) ?_
  refine gs T80 (mkF m 23 #[rv a1, rv a2, .unset] [(.ref a1), (.long (0 : Int64))]) (fun _ hr => XS.aloadN X80.here hx rfl (hb hby d22_22) rfl rfl hr) ?_
  have Zs81 : n0 ≤ h0.size := Nat.le_trans Z0 K0.1
  obtain ⟨cq82, kq82, q82a, q82b, q82c⟩ := isOf hZ e80 E_a1
  obtain ⟨_, _, ⟨T82, L82, k82, n82⟩, -, X82, ⟨Lc82, hQ82, l82, y82, z82⟩, st82⟩ := X80.virtualBack hx (y := Y7) (z := Y7) hown (mvT hZ (tw hw 149 rfl)) (mvT hZ (tw hw 150 rfl)) (notFace_of_selects (args := #[]) (mvT hZ (tw hw 152 rfl))) (mvT hZ (tw hw 152 rfl)) (mvT hZ (tw hw 151 rfl)) (by decide) (backOf (W := 2) (rm_olg l Z a0 hw [] a1 q4 h0 n0 Zs81 (Old.keep O0 K0 hws) F_a1_isPresent F_a1_value) hZ (tw hw 153 rfl) (tw hw 3 rfl) (by decide) (by decide)) q82a q82c (g := (mkF m 23 #[rv a1, rv a2, .unset] [(.ref a1), (.long (0 : Int64))])) rfl (by rw [hml]; rfl) (Steps.refl _) (argsL := []) (rest := [(.long (0 : Int64))]) (lenOf pd_5 rfl) rfl (wle rfl) (hb hby d22_23) (fun _ _ => ⟨rfl, e80, (by decide : 0 + 0 ≤ _), (by decide : 0 + 0 ≤ _)⟩)
  dsimp only [Pt.U, Pt.locs, Pt.cells, Pt.slots] at X82 l82 y82 z82 st82 hQ82
  subst l82 y82 z82
  obtain ⟨rfl, N82q, e82⟩ := hQ82
  have N82 := Fr.app N80 N82q
  refine gs T82 (mkF m 26 #[rv a1, rv a2, .unset] [(.long q4), (.long (0 : Int64))]) (fun _ hr => st82.trans hr) ?_
  refine gs T82 (mkF m 27 #[rv a1, rv a2, .unset] [(.ref a2), (.long q4), (.long (0 : Int64))]) (fun _ hr => XS.aloadN X82.here hx rfl (hb hby d22_26) rfl rfl hr) ?_
  have Zs83 : n0 ≤ h0.size := Nat.le_trans Z0 K0.1
  obtain ⟨cq84, kq84, q84a, q84b, q84c⟩ := isOf hZ e82 E_a2
  obtain ⟨_, _, ⟨T84, L84, k84, n84⟩, -, X84, ⟨Lc84, hQ84, l84, y84, z84⟩, st84⟩ := X82.virtualBack hx (y := Y7) (z := Y7) hown (mvT hZ (tw hw 149 rfl)) (mvT hZ (tw hw 150 rfl)) (notFace_of_selects (args := #[]) (mvT hZ (tw hw 152 rfl))) (mvT hZ (tw hw 152 rfl)) (mvT hZ (tw hw 151 rfl)) (by decide) (backOf (W := 4) (rm_olg l Z a0 hw [] a2 q3 h0 n0 Zs83 (Old.keep O0 K0 hws) F_a2_isPresent F_a2_value) hZ (tw hw 153 rfl) (tw hw 3 rfl) (by decide) (by decide)) q84a q84c (g := (mkF m 27 #[rv a1, rv a2, .unset] [(.ref a2), (.long q4), (.long (0 : Int64))])) rfl (by rw [hml]; rfl) (Steps.refl _) (argsL := []) (rest := [(.long q4), (.long (0 : Int64))]) (lenOf pd_5 rfl) rfl (wle rfl) (hb hby d22_27) (fun _ _ => ⟨rfl, e82, (by decide : 0 + 0 ≤ _), (by decide : 0 + 0 ≤ _)⟩)
  dsimp only [Pt.U, Pt.locs, Pt.cells, Pt.slots] at X84 l84 y84 z84 st84 hQ84
  subst l84 y84 z84
  obtain ⟨rfl, N84q, e84⟩ := hQ84
  have N84 := Fr.app N82 N84q
  refine gs T84 (mkF m 30 #[rv a1, rv a2, .unset] [(.long q3), (.long q4), (.long (0 : Int64))]) (fun _ hr => st84.trans hr) ?_
  refine gs T84 (mkF m 31 #[rv a1, rv a2, .unset] [(.long (q4 - q3)), (.long (0 : Int64))]) (fun _ hr => XT.lsub X84.here hx rfl (hb hby d22_30) rfl hr) ?_
  have Zs85 : n0 ≤ h0.size := Nat.le_trans Z0 K0.1
  obtain ⟨_, _, ⟨T86, L86, k86, n86⟩, -, X86, ⟨Lc86, hQ86, l86, y86, z86⟩, st86⟩ := LawKit.callS X84 hx (y := Y22) hown (mvT hZ (tw hw 194 rfl)) (mvT hZ (tw hw 195 rfl)) (mvT hZ (tw hw 196 rfl)) (mvT hZ (tw hw 197 rfl)) (by decide) (backOf (W := 0) (rm_max1 l Z a0 hw [] (0 : Int64) (q4 - q3) h0 n0 Zs85 (Old.keep O0 K0 hws) hmx) hZ (tw hw 197 rfl) (tw hw 196 rfl) (by decide) (by decide)) (g := (mkF m 31 #[rv a1, rv a2, .unset] [(.long (q4 - q3)), (.long (0 : Int64))])) rfl (by rw [hml]; rfl) (argsL := [(.long (0 : Int64)), (.long (q4 - q3))]) (rest := []) (lenOf pd_8 rfl) rfl (wle rfl) (hb hby d22_31) (fun _ _ => ⟨rfl, e84, (by decide : 0 + 0 ≤ _), (by decide : 0 + 0 ≤ _)⟩)
  dsimp only [Pt.U, Pt.locs, Pt.cells, Pt.slots] at X86 l86 y86 z86 st86 hQ86
  subst l86 y86 z86
  obtain ⟨rfl, N86q, e86⟩ := hQ86
  have N86 := Fr.app N84 N86q
  refine gs T86 (mkF m 34 #[rv a1, rv a2, .unset] [(.long (q4 - q3))]) st86 ?_
  have Zs87 : n0 ≤ h0.size := Nat.le_trans Z0 K0.1
  obtain ⟨_, _, ⟨T88, L88, k88, n88⟩, -, X88, ⟨Lc88, hQ88, l88, y88, z88⟩, st88⟩ := LawKit.callS X86 hx (y := Y3) hown (mvT hZ (tw hw 154 rfl)) (mvT hZ (tw hw 84 rfl)) (mvT hZ (tw hw 3 rfl)) (mvT hZ (tw hw 85 rfl)) (by decide) (backOf (W := 0) (rm_olof l Z a0 hw [] (q4 - q3) h0 n0 Zs87 (Old.keep O0 K0 hws)) hZ (tw hw 85 rfl) (tw hw 3 rfl) (by decide) (by decide)) (g := (mkF m 34 #[rv a1, rv a2, .unset] [(.long (q4 - q3))])) rfl (by rw [hml]; rfl) (argsL := [(.long (q4 - q3))]) (rest := []) (lenOf pd_7 rfl) rfl (wle rfl) (hb hby d22_34) (fun _ _ => ⟨rfl, e86, (by decide : 0 + 1 ≤ _), (by decide : 0 + 2 ≤ _)⟩)
  dsimp only [Pt.U, Pt.locs, Pt.cells, Pt.slots] at X88 l88 y88 z88 st88 hQ88
  subst l88 y88 z88
  obtain ⟨w88, rfl, N88q, Kc88, P88_0, P88_1, P88_2, P88_3⟩ := hQ88
  have N88 := Fr.app N86 N88q
  have K88 : Keep h0 T88.heap [] := K0.trans Kc88 all0
  have sz_w88 : h0.size ≤ w88 := Nat.le_trans K0.1 P88_0
  have E_w88_88c : Exa Z T88.heap w88 cOL := P88_1
  have F_w88_isPresent_88c : Fld Z T88.heap w88 cOL nIP "Z" (.int (1 : Int32)) := P88_2
  have F_w88_value_88c : Fld Z T88.heap w88 cOL "value" "J" (.long (q4 - q3)) := P88_3
  refine gs T88 (mkF m 37 #[rv a1, rv a2, .unset] [(.ref w88)]) st88 ?_
  refine gs T88 (mkF m 38 #[rv a1, rv a2, rv w88] []) (fun _ hr => XS.astoreN X88.here hx rfl (hb hby d22_37) rfl rfl (l' := #[rv a1, rv a2, rv w88]) rfl hr) ?_
  refine gs T88 (mkF m 39 #[rv a1, rv a2, rv w88] [(.ref w88)]) (fun _ hr => XS.aloadN X88.here hx rfl (hb hby d22_38) rfl rfl hr) ?_
  exact Goes.ret (v := some (.ref w88)) X88 (by decide) (by decide) (fun h => by rw [Bd.returns] at h; cases h) (by show Q_rm_ms111 Z a1 a2 q3 q4 em h0 n0 _ T88.heap _; exact ⟨w88, rfl, N88, K88, sz_w88, E_w88_88c, F_w88_isPresent_88c, F_w88_value_88c⟩) (fun fs hr => retOut X88 hx Bd.returns rfl (Or.inr (Or.inr (Or.inr (Or.inr ⟨rfl, rfl, rfl⟩)))) (hb hby d22_39) hr)
def Q_rm_ms110 (Z : State) (a1 : Addr) (a2 : Addr) (q3 : Int64) (q4 : Int64) (em : Addr) (h0 : Heap) (n0 : Nat) (v : Option Value) (h : Heap) (L : List Loc) : Prop := ∃ w : Addr, v = some (.ref w) ∧ Fr n0 L ∧ Keep h0 h [] ∧ h0.size ≤ w ∧ Exa Z h w cOL ∧ Fld Z h w cOL nIP "Z" (.int (1 : Int32)) ∧ Fld Z h w cOL "value" "J" (.long (0 : Int64))
set_option maxRecDepth 65536 in
set_option maxHeartbeats 40000000 in
theorem rm_ms110 (l : Launch) (Z : State) (a0 : Array Value) (hw : ∀ d ∈ tables_1, d.before a0 Z = true) (ws : List Jvm.Cond) (a1 : Addr) (a2 : Addr) (q3 : Int64) (q4 : Int64) (em : Addr) (h0 : Heap) (n0 : Nat) (Z0 : n0 ≤ h0.size) (O0 : Old Z n0 h0) (E_a1 : Exa Z h0 a1 cOL) (F_a1_isPresent : Fld Z h0 a1 cOL nIP "Z" (.int (1 : Int32))) (F_a1_value : Fld Z h0 a1 cOL "value" "J" (.long q4)) (E_a2 : Exa Z h0 a2 cOL) (F_a2_isPresent : Fld Z h0 a2 cOL nIP "Z" (.int (1 : Int32))) (F_a2_value : Fld Z h0 a2 cOL "value" "J" (.long q3)) (S_OptionalLong_EMPTY_old : Sta Z Z.heap cOL "EMPTY" dOL (.ref em)) (E_em_old : Exa Z Z.heap em cOL) (F_em_isPresent_old : Fld Z Z.heap em cOL nIP "Z" (.int (0 : Int32))) (F_em_value_old : Fld Z Z.heap em cOL "value" "J" (.long (0 : Int64))) (hmn : ¬ ((XT.cmpL (0 : Int64) (q4 - q3)) < (0 : Int32))) :
    MetFree l Y23 (head1 (Cond.code Y23 prog_18_method_3_code 3 (some (.object cOL)) :: ws) r5) (fun a U => a = #[(.ref a1), (.ref a2)] ∧ Z.Warmed39 U.vm ∧ U.heap = h0) (fun _ _ _ _ _ => True) (fun _ U o U' => ∃ v L, o = .returned v ∧ Q_rm_ms110 Z a1 a2 q3 q4 em h0 n0 v U'.heap L ∧ FrameEnd U o U' L r5.cells r5.slots) := by
  refine MetFree.of_bodySF (plainFor_of_name pn_com_example_log_lag_gauge_loglaggauge_model_Trailing) hisR ?_
  intro p e s m args below meth c s₁ Bd hml0 hP hK
  obtain ⟨rfl, hZ, hh⟩ := hP
  have hx := Bd.exec
  have hby := Bd.bytes
  have hml : c.maxLocals = 3 := hml0
  have hown : s.vm.findClass "com/example/log_lag_gauge/loglaggauge/model/Trailing" = some m.cls := findClass_of_methodNamed Bd.named
  have hnm := (name_of_methodNamed Bd.named Bd.method).1
  have X0 : Stand p l e r5 s m #[(.ref a1), (.ref a2)] below meth c s₁ [] 0 0 := Stand.of_body Bd
  have e0 : s₁.heap = h0 := by rw [← hh, Bd.state]; rfl
  have N0 := Fr.nil n0
  refine Goes.out (l := l) (c := c) (R := r5) (Q := Q_rm_ms110 Z a1 a2 q3 q4 em h0 n0) Bd.notSynchronized ?_
  refine Goes.cast (g2 := mkF m 0 #[rv a1, rv a2, .unset] []) (by first | (simp [entryFrame, mkF, argsToLocals, Value.category]; done) | rfl) ?_
  have K0 : Keep h0 h0 [] := Keep.refl h0 _
  have hws : ∀ x ∈ ([] : List Addr), n0 ≤ x := all0
  refine gs s₁ (mkF m 1 #[rv a1, rv a2, .unset] [(.ref a1)]) (fun _ hr => XS.aloadN X0.here hx rfl (hb hby d22_0) rfl rfl hr) ?_
  have Zs89 : n0 ≤ h0.size := Nat.le_trans Z0 K0.1
  obtain ⟨cq90, kq90, q90a, q90b, q90c⟩ := isOf hZ e0 E_a1
  obtain ⟨_, _, ⟨T90, L90, k90, n90⟩, -, X90, ⟨Lc90, hQ90, l90, y90, z90⟩, st90⟩ := X0.virtualBack hx (y := Y6) (z := Y6) hown (mvT hZ (tw hw 148 rfl)) (mvT hZ (tw hw 77 rfl)) (notFace_of_selects (args := #[]) (mvT hZ (tw hw 79 rfl))) (mvT hZ (tw hw 79 rfl)) (mvT hZ (tw hw 78 rfl)) (by decide) (backOf (W := 0) (rm_ole1 l Z a0 hw [] a1 h0 n0 Zs89 (Old.keep O0 K0 hws) F_a1_isPresent) hZ (tw hw 80 rfl) (tw hw 3 rfl) (by decide) (by decide)) q90a q90c (g := (mkF m 1 #[rv a1, rv a2, .unset] [(.ref a1)])) rfl (by rw [hml]; rfl) (Steps.refl _) (argsL := []) (rest := []) (lenOf pd_1 rfl) rfl (wle rfl) (hb hby d22_1) (fun _ _ => ⟨rfl, e0, (by decide : 0 + 0 ≤ _), (by decide : 0 + 0 ≤ _)⟩)
  dsimp only [Pt.U, Pt.locs, Pt.cells, Pt.slots] at X90 l90 y90 z90 st90 hQ90
  subst l90 y90 z90
  obtain ⟨rfl, N90q, e90⟩ := hQ90
  have N90 := Fr.app N0 N90q
  refine gs T90 (mkF m 4 #[rv a1, rv a2, .unset] [(.int (0 : Int32))]) (fun _ hr => st90.trans hr) ?_
  refine gs T90 (mkF m 7 #[rv a1, rv a2, .unset] []) (fun _ hr => XS.ifNo X90.here hx rfl (hb hby d22_4) rfl ((if0 _ _).trans (teq (by decide : (0 : Int32) = (0 : Int32))).2) hr) ?_
  refine gs T90 (mkF m 8 #[rv a1, rv a2, .unset] [(.ref a2)]) (fun _ hr => XS.aloadN X90.here hx rfl (hb hby d22_7) rfl rfl hr) ?_
  have Zs91 : n0 ≤ h0.size := Nat.le_trans Z0 K0.1
  obtain ⟨cq92, kq92, q92a, q92b, q92c⟩ := isOf hZ e90 E_a2
  obtain ⟨_, _, ⟨T92, L92, k92, n92⟩, -, X92, ⟨Lc92, hQ92, l92, y92, z92⟩, st92⟩ := X90.virtualBack hx (y := Y6) (z := Y6) hown (mvT hZ (tw hw 148 rfl)) (mvT hZ (tw hw 77 rfl)) (notFace_of_selects (args := #[]) (mvT hZ (tw hw 79 rfl))) (mvT hZ (tw hw 79 rfl)) (mvT hZ (tw hw 78 rfl)) (by decide) (backOf (W := 0) (rm_ole1 l Z a0 hw [] a2 h0 n0 Zs91 (Old.keep O0 K0 hws) F_a2_isPresent) hZ (tw hw 80 rfl) (tw hw 3 rfl) (by decide) (by decide)) q92a q92c (g := (mkF m 8 #[rv a1, rv a2, .unset] [(.ref a2)])) rfl (by rw [hml]; rfl) (Steps.refl _) (argsL := []) (rest := []) (lenOf pd_1 rfl) rfl (wle rfl) (hb hby d22_8) (fun _ _ => ⟨rfl, e90, (by decide : 0 + 0 ≤ _), (by decide : 0 + 0 ≤ _)⟩)
  dsimp only [Pt.U, Pt.locs, Pt.cells, Pt.slots] at X92 l92 y92 z92 st92 hQ92
  subst l92 y92 z92
  obtain ⟨rfl, N92q, e92⟩ := hQ92
  have N92 := Fr.app N90 N92q
  refine gs T92 (mkF m 11 #[rv a1, rv a2, .unset] [(.int (0 : Int32))]) (fun _ hr => st92.trans hr) ?_
  refine gs T92 (mkF m 21 #[rv a1, rv a2, .unset] []) (fun _ hr => XS.ifYes X92.here hx rfl (pc0 := 11) (pc' := 21) rfl (hb hby d22_11) rfl ((if0 _ _).trans (teq (by decide : (0 : Int32) = (0 : Int32))).1) (by decide) (by decide) hr) ?_
  refine gs T92 (mkF m 22 #[rv a1, rv a2, .unset] [(.long (0 : Int64))]) (fun _ hr => XT.lconst X92.here hx rfl (hb hby d22_21) hr) ?_
  refine gs T92 (mkF m 23 #[rv a1, rv a2, .unset] [(.ref a1), (.long (0 : Int64))]) (fun _ hr => XS.aloadN X92.here hx rfl (hb hby d22_22) rfl rfl hr) ?_
  have Zs93 : n0 ≤ h0.size := Nat.le_trans Z0 K0.1
  obtain ⟨cq94, kq94, q94a, q94b, q94c⟩ := isOf hZ e92 E_a1
  obtain ⟨_, _, ⟨T94, L94, k94, n94⟩, -, X94, ⟨Lc94, hQ94, l94, y94, z94⟩, st94⟩ := X92.virtualBack hx (y := Y7) (z := Y7) hown (mvT hZ (tw hw 149 rfl)) (mvT hZ (tw hw 150 rfl)) (notFace_of_selects (args := #[]) (mvT hZ (tw hw 152 rfl))) (mvT hZ (tw hw 152 rfl)) (mvT hZ (tw hw 151 rfl)) (by decide) (backOf (W := 2) (rm_olg l Z a0 hw [] a1 q4 h0 n0 Zs93 (Old.keep O0 K0 hws) F_a1_isPresent F_a1_value) hZ (tw hw 153 rfl) (tw hw 3 rfl) (by decide) (by decide)) q94a q94c (g := (mkF m 23 #[rv a1, rv a2, .unset] [(.ref a1), (.long (0 : Int64))])) rfl (by rw [hml]; rfl) (Steps.refl _) (argsL := []) (rest := [(.long (0 : Int64))]) (lenOf pd_5 rfl) rfl (wle rfl) (hb hby d22_23) (fun _ _ => ⟨rfl, e92, (by decide : 0 + 0 ≤ _), (by decide : 0 + 0 ≤ _)⟩)
  dsimp only [Pt.U, Pt.locs, Pt.cells, Pt.slots] at X94 l94 y94 z94 st94 hQ94
  subst l94 y94 z94
  obtain ⟨rfl, N94q, e94⟩ := hQ94
  have N94 := Fr.app N92 N94q
  refine gs T94 (mkF m 26 #[rv a1, rv a2, .unset] [(.long q4), (.long (0 : Int64))]) (fun _ hr => st94.trans hr) ?_
  refine gs T94 (mkF m 27 #[rv a1, rv a2, .unset] [(.ref a2), (.long q4), (.long (0 : Int64))]) (fun _ hr => XS.aloadN X94.here hx rfl (hb hby d22_26) rfl rfl hr) ?_
  have Zs95 : n0 ≤ h0.size := Nat.le_trans Z0 K0.1
  obtain ⟨cq96, kq96, q96a, q96b, q96c⟩ := isOf hZ e94 E_a2
  obtain ⟨_, _, ⟨T96, L96, k96, n96⟩, -, X96, ⟨Lc96, hQ96, l96, y96, z96⟩, st96⟩ := X94.virtualBack hx (y := Y7) (z := Y7) hown (mvT hZ (tw hw 149 rfl)) (mvT hZ (tw hw 150 rfl)) (notFace_of_selects (args := #[]) (mvT hZ (tw hw 152 rfl))) (mvT hZ (tw hw 152 rfl)) (mvT hZ (tw hw 151 rfl)) (by decide) (backOf (W := 4) (rm_olg l Z a0 hw [] a2 q3 h0 n0 Zs95 (Old.keep O0 K0 hws) F_a2_isPresent F_a2_value) hZ (tw hw 153 rfl) (tw hw 3 rfl) (by decide) (by decide)) q96a q96c (g := (mkF m 27 #[rv a1, rv a2, .unset] [(.ref a2), (.long q4), (.long (0 : Int64))])) rfl (by rw [hml]; rfl) (Steps.refl _) (argsL := []) (rest := [(.long q4), (.long (0 : Int64))]) (lenOf pd_5 rfl) rfl (wle rfl) (hb hby d22_27) (fun _ _ => ⟨rfl, e94, (by decide : 0 + 0 ≤ _), (by decide : 0 + 0 ≤ _)⟩)
  dsimp only [Pt.U, Pt.locs, Pt.cells, Pt.slots] at X96 l96 y96 z96 st96 hQ96
  subst l96 y96 z96
  obtain ⟨rfl, N96q, e96⟩ := hQ96
  have N96 := Fr.app N94 N96q
  refine gs T96 (mkF m 30 #[rv a1, rv a2, .unset] [(.long q3), (.long q4), (.long (0 : Int64))]) (fun _ hr => st96.trans hr) ?_
  refine gs T96 (mkF m 31 #[rv a1, rv a2, .unset] [(.long (q4 - q3)), (.long (0 : Int64))]) (fun _ hr => XT.lsub X96.here hx rfl (hb hby d22_30) rfl hr) ?_
  have Zs97 : n0 ≤ h0.size := Nat.le_trans Z0 K0.1
  obtain ⟨_, _, ⟨T98, L98, k98, n98⟩, -, X98, ⟨Lc98, hQ98, l98, y98, z98⟩, st98⟩ := LawKit.callS X96 hx (y := Y22) hown (mvT hZ (tw hw 194 rfl)) (mvT hZ (tw hw 195 rfl)) (mvT hZ (tw hw 196 rfl)) (mvT hZ (tw hw 197 rfl)) (by decide) (backOf (W := 0) (rm_max0 l Z a0 hw [] (0 : Int64) (q4 - q3) h0 n0 Zs97 (Old.keep O0 K0 hws) hmn) hZ (tw hw 197 rfl) (tw hw 196 rfl) (by decide) (by decide)) (g := (mkF m 31 #[rv a1, rv a2, .unset] [(.long (q4 - q3)), (.long (0 : Int64))])) rfl (by rw [hml]; rfl) (argsL := [(.long (0 : Int64)), (.long (q4 - q3))]) (rest := []) (lenOf pd_8 rfl) rfl (wle rfl) (hb hby d22_31) (fun _ _ => ⟨rfl, e96, (by decide : 0 + 0 ≤ _), (by decide : 0 + 0 ≤ _)⟩)
  dsimp only [Pt.U, Pt.locs, Pt.cells, Pt.slots] at X98 l98 y98 z98 st98 hQ98
  subst l98 y98 z98
  obtain ⟨rfl, N98q, e98⟩ := hQ98
  have N98 := Fr.app N96 N98q
  refine gs T98 (mkF m 34 #[rv a1, rv a2, .unset] [(.long (0 : Int64))]) st98 ?_
  have Zs99 : n0 ≤ h0.size := Nat.le_trans Z0 K0.1
  obtain ⟨_, _, ⟨T100, L100, k100, n100⟩, -, X100, ⟨Lc100, hQ100, l100, y100, z100⟩, st100⟩ := LawKit.callS X98 hx (y := Y3) hown (mvT hZ (tw hw 154 rfl)) (mvT hZ (tw hw 84 rfl)) (mvT hZ (tw hw 3 rfl)) (mvT hZ (tw hw 85 rfl)) (by decide) (backOf (W := 0) (rm_olof l Z a0 hw [] (0 : Int64) h0 n0 Zs99 (Old.keep O0 K0 hws)) hZ (tw hw 85 rfl) (tw hw 3 rfl) (by decide) (by decide)) (g := (mkF m 34 #[rv a1, rv a2, .unset] [(.long (0 : Int64))])) rfl (by rw [hml]; rfl) (argsL := [(.long (0 : Int64))]) (rest := []) (lenOf pd_7 rfl) rfl (wle rfl) (hb hby d22_34) (fun _ _ => ⟨rfl, e98, (by decide : 0 + 1 ≤ _), (by decide : 0 + 2 ≤ _)⟩)
  dsimp only [Pt.U, Pt.locs, Pt.cells, Pt.slots] at X100 l100 y100 z100 st100 hQ100
  subst l100 y100 z100
  obtain ⟨w100, rfl, N100q, Kc100, P100_0, P100_1, P100_2, P100_3⟩ := hQ100
  have N100 := Fr.app N98 N100q
  have K100 : Keep h0 T100.heap [] := K0.trans Kc100 all0
  have sz_w100 : h0.size ≤ w100 := Nat.le_trans K0.1 P100_0
  have E_w100_100c : Exa Z T100.heap w100 cOL := P100_1
  have F_w100_isPresent_100c : Fld Z T100.heap w100 cOL nIP "Z" (.int (1 : Int32)) := P100_2
  have F_w100_value_100c : Fld Z T100.heap w100 cOL "value" "J" (.long (0 : Int64)) := P100_3
  refine gs T100 (mkF m 37 #[rv a1, rv a2, .unset] [(.ref w100)]) st100 ?_
  refine gs T100 (mkF m 38 #[rv a1, rv a2, rv w100] []) (fun _ hr => XS.astoreN X100.here hx rfl (hb hby d22_37) rfl rfl (l' := #[rv a1, rv a2, rv w100]) rfl hr) ?_
  refine gs T100 (mkF m 39 #[rv a1, rv a2, rv w100] [(.ref w100)]) (fun _ hr => XS.aloadN X100.here hx rfl (hb hby d22_38) rfl rfl hr) ?_
  exact Goes.ret (v := some (.ref w100)) X100 (by decide) (by decide) (fun h => by rw [Bd.returns] at h; cases h) (by show Q_rm_ms110 Z a1 a2 q3 q4 em h0 n0 _ T100.heap _; exact ⟨w100, rfl, N100, K100, sz_w100, E_w100_100c, F_w100_isPresent_100c, F_w100_value_100c⟩) (fun fs hr => retOut X100 hx Bd.returns rfl (Or.inr (Or.inr (Or.inr (Or.inr ⟨rfl, rfl, rfl⟩)))) (hb hby d22_39) hr)
theorem d23_0 : decode jdk_32_method_10_code 0 = .ok (.aload_n 1, 1) := by decide +kernel
theorem d23_1 : decode jdk_32_method_10_code 1 = .ok (.invokestatic 17, 3) := by decide +kernel
theorem d23_4 : decode jdk_32_method_10_code 4 = .ok (.pop, 1) := by decide +kernel
theorem d23_5 : decode jdk_32_method_10_code 5 = .ok (.aload_n 0, 1) := by decide +kernel
theorem d23_6 : decode jdk_32_method_10_code 6 = .ok (.invokevirtual 43, 3) := by decide +kernel
theorem d23_9 : decode jdk_32_method_10_code 9 = .ok (.ifCond .eq 5, 3) := by decide +kernel
theorem d23_14 : decode jdk_32_method_10_code 14 = .ok (.aload_n 1, 1) := by decide +kernel
theorem d23_15 : decode jdk_32_method_10_code 15 = .ok (.aload_n 0, 1) := by decide +kernel
theorem d23_16 : decode jdk_32_method_10_code 16 = .ok (.getfield 13, 3) := by decide +kernel
theorem d23_19 : decode jdk_32_method_10_code 19 = .ok (.invokeinterface 47 2, 5) := by decide +kernel
theorem d23_24 : decode jdk_32_method_10_code 24 = .ok (.ifCond .eq 7, 3) := by decide +kernel
theorem d23_31 : decode jdk_32_method_10_code 31 = .ok (.invokestatic 53, 3) := by decide +kernel
theorem d23_34 : decode jdk_32_method_10_code 34 = .ok (.areturn, 1) := by decide +kernel
def Q_rm_filt0 (Z : State) (op : Addr) (fa : Addr) (rr : Addr) (eo : Addr) (cK : ClassId) (h0 : Heap) (n0 : Nat) (v : Option Value) (h : Heap) (L : List Loc) : Prop := v = some (.ref eo) ∧ Fr n0 L ∧ h = h0
set_option maxRecDepth 65536 in
set_option maxHeartbeats 40000000 in
theorem rm_filt0 (l : Launch) (Z : State) (a0 : Array Value) (hw : ∀ d ∈ tables_1, d.before a0 Z = true) (ws : List Jvm.Cond) (op : Addr) (fa : Addr) (rr : Addr) (eo : Addr) (cK : ClassId) (h0 : Heap) (n0 : Nat) (Z0 : n0 ≤ h0.size) (O0 : Old Z n0 h0) (E_op : Exa Z h0 op cOP) (F_op_value : Fld Z h0 op cOP "value" dOB (.ref rr)) (E_rr : Exa Z h0 rr cRR) (F_rr_onlyMarkersLeft : Fld Z h0 rr cRR nOM "Z" (.int (0 : Int32))) (G_fa : FnV h0 fa cK #[]) (S_Optional_EMPTY_old : Sta Z Z.heap cOP "EMPTY" dOP (.ref eo)) (E_eo_old : Exa Z Z.heap eo cOP) (F_eo_value_old : Fld Z Z.heap eo cOP "value" dOB .null) (Md : Jvm.LamKit.Made Z cPL sgP cK) :
    MetFree l Y25 (head1 (Cond.code Y25 jdk_32_method_10_code 2 (some (.object cOP)) :: ws) r6) (fun a U => a = #[(.ref op), (.ref fa)] ∧ Z.Warmed39 U.vm ∧ U.heap = h0) (fun _ _ _ _ _ => True) (fun _ U o U' => ∃ v L, o = .returned v ∧ Q_rm_filt0 Z op fa rr eo cK h0 n0 v U'.heap L ∧ FrameEnd U o U' L r6.cells r6.slots) := by
  refine MetFree.of_bodySF (plainFor_of_name pn_java_util_Optional) hisR ?_
  intro p e s m args below meth c s₁ Bd hml0 hP hK
  obtain ⟨rfl, hZ, hh⟩ := hP
  have hx := Bd.exec
  have hby := Bd.bytes
  have hml : c.maxLocals = 2 := hml0
  have hown : s.vm.findClass cOP = some m.cls := findClass_of_methodNamed Bd.named
  have hnm := (name_of_methodNamed Bd.named Bd.method).1
  have X0 : Stand p l e r6 s m #[(.ref op), (.ref fa)] below meth c s₁ [] 0 0 := Stand.of_body Bd
  have e0 : s₁.heap = h0 := by rw [← hh, Bd.state]; rfl
  have N0 := Fr.nil n0
  refine Goes.out (l := l) (c := c) (R := r6) (Q := Q_rm_filt0 Z op fa rr eo cK h0 n0) Bd.notSynchronized ?_
  refine Goes.cast (g2 := mkF m 0 #[rv op, rv fa] []) (by first | (simp [entryFrame, mkF, argsToLocals, Value.category]; done) | rfl) ?_
  have K0 : Keep h0 h0 [] := Keep.refl h0 _
  have hws : ∀ x ∈ ([] : List Addr), n0 ≤ x := all0
  refine gs s₁ (mkF m 1 #[rv op, rv fa] [(.ref fa)]) (fun _ hr => XS.aloadN X0.here hx rfl (hb hby d23_0) rfl rfl hr) ?_
  have Zs101 : n0 ≤ h0.size := Nat.le_trans Z0 K0.1
  obtain ⟨_, _, ⟨T102, L102, k102, n102⟩, -, X102, ⟨Lc102, hQ102, l102, y102, z102⟩, st102⟩ := LawKit.callS X0 hx (y := Y13) hown (mvT hZ (tw hw 57 rfl)) (mvT hZ (tw hw 58 rfl)) (mvT hZ (tw hw 35 rfl)) (mvT hZ (tw hw 59 rfl)) (by decide) (backOf (W := 0) (rm_rnn1 l Z a0 hw [] fa h0 n0 Zs101 (Old.keep O0 K0 hws)) hZ (tw hw 59 rfl) (tw hw 35 rfl) (by decide) (by decide)) (g := (mkF m 1 #[rv op, rv fa] [(.ref fa)])) rfl (by rw [hml]; rfl) (argsL := [(.ref fa)]) (rest := []) (lenOf pd_3 rfl) rfl (wle rfl) (hb hby d23_1) (fun _ _ => ⟨rfl, e0, (by decide : 0 + 0 ≤ _), (by decide : 0 + 0 ≤ _)⟩)
  dsimp only [Pt.U, Pt.locs, Pt.cells, Pt.slots] at X102 l102 y102 z102 st102 hQ102
  subst l102 y102 z102
  obtain ⟨rfl, N102q, e102⟩ := hQ102
  have N102 := Fr.app N0 N102q
  refine gs T102 (mkF m 4 #[rv op, rv fa] [(.ref fa)]) st102 ?_
  refine gs T102 (mkF m 5 #[rv op, rv fa] []) (fun _ hr => XT.pop X102.here hx rfl (hb hby d23_4) rfl rfl hr) ?_
  refine gs T102 (mkF m 6 #[rv op, rv fa] [(.ref op)]) (fun _ hr => XS.aloadN X102.here hx rfl (hb hby d23_5) rfl rfl hr) ?_
  have Zs103 : n0 ≤ h0.size := Nat.le_trans Z0 K0.1
  obtain ⟨cq104, kq104, q104a, q104b, q104c⟩ := isOf hZ e102 E_op
  obtain ⟨_, _, ⟨T104, L104, k104, n104⟩, -, X104, ⟨Lc104, hQ104, l104, y104, z104⟩, st104⟩ := X102.virtualBack hx (y := Y18) (z := Y18) hown (mvT hZ (tw hw 60 rfl)) (mvT hZ (tw hw 61 rfl)) (notFace_of_selects (args := #[]) (mvT hZ (tw hw 63 rfl))) (mvT hZ (tw hw 63 rfl)) (mvT hZ (tw hw 62 rfl)) (by decide) (backOf (W := 0) (rm_oise1 l Z a0 hw [] op rr h0 n0 Zs103 (Old.keep O0 K0 hws) F_op_value) hZ (tw hw 64 rfl) (tw hw 8 rfl) (by decide) (by decide)) q104a q104c (g := (mkF m 6 #[rv op, rv fa] [(.ref op)])) rfl (by rw [hml]; rfl) (Steps.refl _) (argsL := []) (rest := []) (lenOf pd_1 rfl) rfl (wle rfl) (hb hby d23_6) (fun _ _ => ⟨rfl, e102, (by decide : 0 + 0 ≤ _), (by decide : 0 + 0 ≤ _)⟩)
  dsimp only [Pt.U, Pt.locs, Pt.cells, Pt.slots] at X104 l104 y104 z104 st104 hQ104
  subst l104 y104 z104
  obtain ⟨rfl, N104q, e104⟩ := hQ104
  have N104 := Fr.app N102 N104q
  refine gs T104 (mkF m 9 #[rv op, rv fa] [(.int (0 : Int32))]) (fun _ hr => st104.trans hr) ?_
  refine gs T104 (mkF m 14 #[rv op, rv fa] []) (fun _ hr => XS.ifYes X104.here hx rfl (pc0 := 9) (pc' := 14) rfl (hb hby d23_9) rfl ((if0 _ _).trans (teq (by decide : (0 : Int32) = (0 : Int32))).1) (by decide) (by decide) hr) ?_
  refine gs T104 (mkF m 15 #[rv op, rv fa] [(.ref fa)]) (fun _ hr => XS.aloadN X104.here hx rfl (hb hby d23_14) rfl rfl hr) ?_
  refine gs T104 (mkF m 16 #[rv op, rv fa] [(.ref op), (.ref fa)]) (fun _ hr => XS.aloadN X104.here hx rfl (hb hby d23_15) rfl rfl hr) ?_
  obtain ⟨T105, X105, e105, st105⟩ := getF X104 hx hZ hown (host := "") (Or.inl (tw hw 65 rfl)) Via.refl e104 F_op_value (g := (mkF m 16 #[rv op, rv fa] [(.ref op), (.ref fa)])) rfl rfl (hb hby d23_16)
  refine gs T105 (mkF m 19 #[rv op, rv fa] [(.ref rr), (.ref fa)]) st105 ?_
  have Zs106 : n0 ≤ h0.size := Nat.le_trans Z0 K0.1
  obtain ⟨_, T107, Lc107, X107, hQ107, st107⟩ := own_callFace X105 hx hZ (xi := Y24) hown (tw hw 167 rfl) (tw hw 168 rfl) (tw hw 169 rfl) ⟨rfl, rfl, by decide +kernel⟩ (by decide) Md e105 G_fa okP (g := (mkF m 19 #[rv op, rv fa] [(.ref rr), (.ref fa)])) rfl (by rw [hml]; rfl) (argsL := [(.ref rr)]) (rest := []) (lenOf pd_9 rfl) rfl (hb hby d23_19) (R' := r0) (Q := Q_rm_onlyMarkersLeft0 Z rr h0 n0) (by decide) (by show 2 * 0 + 0 + 13 + 12 ≤ _; decide) (by decide) (by decide) (fun s' U bl mk ck Y' hZ' eU zq1 zq2 zq3 => bodyP hx Y' hZ' hw Md zq1 zq2 zq3 eU E_rr (rm_onlyMarkersLeft0 l Z a0 hw [] rr h0 n0 Zs106 (Old.keep O0 K0 hws) F_rr_onlyMarkersLeft) (fun v h L q => by obtain ⟨rfl, -⟩ := q; exact Or.inl rfl) (by decide) (by decide) (by decide) (by decide))
  obtain ⟨rfl, N107q, e107⟩ := hQ107
  have N107 := Fr.app N104 N107q
  refine gs T107 (mkF m 24 #[rv op, rv fa] [(.int (0 : Int32))]) st107 ?_
  refine gs T107 (mkF m 31 #[rv op, rv fa] []) (fun _ hr => XS.ifYes X107.here hx rfl (pc0 := 24) (pc' := 31) rfl (hb hby d23_24) rfl ((if0 _ _).trans (teq (by decide : (0 : Int32) = (0 : Int32))).1) (by decide) (by decide) hr) ?_
  have Zs108 : n0 ≤ h0.size := Nat.le_trans Z0 K0.1
  obtain ⟨_, _, ⟨T109, L109, k109, n109⟩, -, X109, ⟨Lc109, hQ109, l109, y109, z109⟩, st109⟩ := LawKit.callS X107 hx (y := Y17) hown (mvT hZ (tw hw 67 rfl)) (mvT hZ (tw hw 7 rfl)) (mvT hZ (tw hw 8 rfl)) (mvT hZ (tw hw 9 rfl)) (by decide) (backOf (W := 0) (rm_oem l Z a0 hw [] eo h0 n0 Zs108 (Old.keep O0 K0 hws) S_Optional_EMPTY_old) hZ (tw hw 9 rfl) (tw hw 8 rfl) (by decide) (by decide)) (g := (mkF m 31 #[rv op, rv fa] [])) rfl (by rw [hml]; rfl) (argsL := []) (rest := []) (lenOf pd_10 rfl) rfl (wle rfl) (hb hby d23_31) (fun _ _ => ⟨rfl, e107, (by decide : 0 + 0 ≤ _), (by decide : 0 + 0 ≤ _)⟩)
  dsimp only [Pt.U, Pt.locs, Pt.cells, Pt.slots] at X109 l109 y109 z109 st109 hQ109
  subst l109 y109 z109
  obtain ⟨rfl, N109q, e109⟩ := hQ109
  have N109 := Fr.app N107 N109q
  refine gs T109 (mkF m 34 #[rv op, rv fa] [(.ref eo)]) st109 ?_
  exact Goes.ret (v := some (.ref eo)) X109 (by decide) (by decide) (fun h => by rw [Bd.returns] at h; cases h) ⟨rfl, N109, e109⟩ (fun fs hr => retOut X109 hx Bd.returns rfl (Or.inr (Or.inr (Or.inr (Or.inr ⟨rfl, rfl, rfl⟩)))) (hb hby d23_34) hr)
theorem d23_27 : decode jdk_32_method_10_code 27 = .ok (.aload_n 0, 1) := by decide +kernel
theorem d23_28 : decode jdk_32_method_10_code 28 = .ok (.goto 6, 3) := by decide +kernel
def Q_rm_filt1 (Z : State) (op : Addr) (fa : Addr) (rr : Addr) (eo : Addr) (cK : ClassId) (h0 : Heap) (n0 : Nat) (v : Option Value) (h : Heap) (L : List Loc) : Prop := v = some (.ref op) ∧ Fr n0 L ∧ h = h0
set_option maxRecDepth 65536 in
set_option maxHeartbeats 40000000 in
theorem rm_filt1 (l : Launch) (Z : State) (a0 : Array Value) (hw : ∀ d ∈ tables_1, d.before a0 Z = true) (ws : List Jvm.Cond) (op : Addr) (fa : Addr) (rr : Addr) (eo : Addr) (cK : ClassId) (h0 : Heap) (n0 : Nat) (Z0 : n0 ≤ h0.size) (O0 : Old Z n0 h0) (E_op : Exa Z h0 op cOP) (F_op_value : Fld Z h0 op cOP "value" dOB (.ref rr)) (E_rr : Exa Z h0 rr cRR) (F_rr_onlyMarkersLeft : Fld Z h0 rr cRR nOM "Z" (.int (1 : Int32))) (G_fa : FnV h0 fa cK #[]) (S_Optional_EMPTY_old : Sta Z Z.heap cOP "EMPTY" dOP (.ref eo)) (E_eo_old : Exa Z Z.heap eo cOP) (F_eo_value_old : Fld Z Z.heap eo cOP "value" dOB .null) (Md : Jvm.LamKit.Made Z cPL sgP cK) :
    MetFree l Y25 (head1 (Cond.code Y25 jdk_32_method_10_code 2 (some (.object cOP)) :: ws) r6) (fun a U => a = #[(.ref op), (.ref fa)] ∧ Z.Warmed39 U.vm ∧ U.heap = h0) (fun _ _ _ _ _ => True) (fun _ U o U' => ∃ v L, o = .returned v ∧ Q_rm_filt1 Z op fa rr eo cK h0 n0 v U'.heap L ∧ FrameEnd U o U' L r6.cells r6.slots) := by
  refine MetFree.of_bodySF (plainFor_of_name pn_java_util_Optional) hisR ?_
  intro p e s m args below meth c s₁ Bd hml0 hP hK
  obtain ⟨rfl, hZ, hh⟩ := hP
  have hx := Bd.exec
  have hby := Bd.bytes
  have hml : c.maxLocals = 2 := hml0
  have hown : s.vm.findClass cOP = some m.cls := findClass_of_methodNamed Bd.named
  have hnm := (name_of_methodNamed Bd.named Bd.method).1
  have X0 : Stand p l e r6 s m #[(.ref op), (.ref fa)] below meth c s₁ [] 0 0 := Stand.of_body Bd
  have e0 : s₁.heap = h0 := by rw [← hh, Bd.state]; rfl
  have N0 := Fr.nil n0
  refine Goes.out (l := l) (c := c) (R := r6) (Q := Q_rm_filt1 Z op fa rr eo cK h0 n0) Bd.notSynchronized ?_
  refine Goes.cast (g2 := mkF m 0 #[rv op, rv fa] []) (by first | (simp [entryFrame, mkF, argsToLocals, Value.category]; done) | rfl) ?_
  have K0 : Keep h0 h0 [] := Keep.refl h0 _
  have hws : ∀ x ∈ ([] : List Addr), n0 ≤ x := all0
  refine gs s₁ (mkF m 1 #[rv op, rv fa] [(.ref fa)]) (fun _ hr => XS.aloadN X0.here hx rfl (hb hby d23_0) rfl rfl hr) ?_
  have Zs110 : n0 ≤ h0.size := Nat.le_trans Z0 K0.1
  obtain ⟨_, _, ⟨T111, L111, k111, n111⟩, -, X111, ⟨Lc111, hQ111, l111, y111, z111⟩, st111⟩ := LawKit.callS X0 hx (y := Y13) hown (mvT hZ (tw hw 57 rfl)) (mvT hZ (tw hw 58 rfl)) (mvT hZ (tw hw 35 rfl)) (mvT hZ (tw hw 59 rfl)) (by decide) (backOf (W := 0) (rm_rnn1 l Z a0 hw [] fa h0 n0 Zs110 (Old.keep O0 K0 hws)) hZ (tw hw 59 rfl) (tw hw 35 rfl) (by decide) (by decide)) (g := (mkF m 1 #[rv op, rv fa] [(.ref fa)])) rfl (by rw [hml]; rfl) (argsL := [(.ref fa)]) (rest := []) (lenOf pd_3 rfl) rfl (wle rfl) (hb hby d23_1) (fun _ _ => ⟨rfl, e0, (by decide : 0 + 0 ≤ _), (by decide : 0 + 0 ≤ _)⟩)
  dsimp only [Pt.U, Pt.locs, Pt.cells, Pt.slots] at X111 l111 y111 z111 st111 hQ111
  subst l111 y111 z111
  obtain ⟨rfl, N111q, e111⟩ := hQ111
  have N111 := Fr.app N0 N111q
  refine gs T111 (mkF m 4 #[rv op, rv fa] [(.ref fa)]) st111 ?_
  refine gs T111 (mkF m 5 #[rv op, rv fa] []) (fun _ hr => XT.pop X111.here hx rfl (hb hby d23_4) rfl rfl hr) ?_
  refine gs T111 (mkF m 6 #[rv op, rv fa] [(.ref op)]) (fun _ hr => XS.aloadN X111.here hx rfl (hb hby d23_5) rfl rfl hr) ?_
  have Zs112 : n0 ≤ h0.size := Nat.le_trans Z0 K0.1
  obtain ⟨cq113, kq113, q113a, q113b, q113c⟩ := isOf hZ e111 E_op
  obtain ⟨_, _, ⟨T113, L113, k113, n113⟩, -, X113, ⟨Lc113, hQ113, l113, y113, z113⟩, st113⟩ := X111.virtualBack hx (y := Y18) (z := Y18) hown (mvT hZ (tw hw 60 rfl)) (mvT hZ (tw hw 61 rfl)) (notFace_of_selects (args := #[]) (mvT hZ (tw hw 63 rfl))) (mvT hZ (tw hw 63 rfl)) (mvT hZ (tw hw 62 rfl)) (by decide) (backOf (W := 0) (rm_oise1 l Z a0 hw [] op rr h0 n0 Zs112 (Old.keep O0 K0 hws) F_op_value) hZ (tw hw 64 rfl) (tw hw 8 rfl) (by decide) (by decide)) q113a q113c (g := (mkF m 6 #[rv op, rv fa] [(.ref op)])) rfl (by rw [hml]; rfl) (Steps.refl _) (argsL := []) (rest := []) (lenOf pd_1 rfl) rfl (wle rfl) (hb hby d23_6) (fun _ _ => ⟨rfl, e111, (by decide : 0 + 0 ≤ _), (by decide : 0 + 0 ≤ _)⟩)
  dsimp only [Pt.U, Pt.locs, Pt.cells, Pt.slots] at X113 l113 y113 z113 st113 hQ113
  subst l113 y113 z113
  obtain ⟨rfl, N113q, e113⟩ := hQ113
  have N113 := Fr.app N111 N113q
  refine gs T113 (mkF m 9 #[rv op, rv fa] [(.int (0 : Int32))]) (fun _ hr => st113.trans hr) ?_
  refine gs T113 (mkF m 14 #[rv op, rv fa] []) (fun _ hr => XS.ifYes X113.here hx rfl (pc0 := 9) (pc' := 14) rfl (hb hby d23_9) rfl ((if0 _ _).trans (teq (by decide : (0 : Int32) = (0 : Int32))).1) (by decide) (by decide) hr) ?_
  refine gs T113 (mkF m 15 #[rv op, rv fa] [(.ref fa)]) (fun _ hr => XS.aloadN X113.here hx rfl (hb hby d23_14) rfl rfl hr) ?_
  refine gs T113 (mkF m 16 #[rv op, rv fa] [(.ref op), (.ref fa)]) (fun _ hr => XS.aloadN X113.here hx rfl (hb hby d23_15) rfl rfl hr) ?_
  obtain ⟨T114, X114, e114, st114⟩ := getF X113 hx hZ hown (host := "") (Or.inl (tw hw 65 rfl)) Via.refl e113 F_op_value (g := (mkF m 16 #[rv op, rv fa] [(.ref op), (.ref fa)])) rfl rfl (hb hby d23_16)
  refine gs T114 (mkF m 19 #[rv op, rv fa] [(.ref rr), (.ref fa)]) st114 ?_
  have Zs115 : n0 ≤ h0.size := Nat.le_trans Z0 K0.1
  obtain ⟨_, T116, Lc116, X116, hQ116, st116⟩ := own_callFace X114 hx hZ (xi := Y24) hown (tw hw 167 rfl) (tw hw 168 rfl) (tw hw 169 rfl) ⟨rfl, rfl, by decide +kernel⟩ (by decide) Md e114 G_fa okP (g := (mkF m 19 #[rv op, rv fa] [(.ref rr), (.ref fa)])) rfl (by rw [hml]; rfl) (argsL := [(.ref rr)]) (rest := []) (lenOf pd_9 rfl) rfl (hb hby d23_19) (R' := r0) (Q := Q_rm_onlyMarkersLeft1 Z rr h0 n0) (by decide) (by show 2 * 0 + 0 + 13 + 12 ≤ _; decide) (by decide) (by decide) (fun s' U bl mk ck Y' hZ' eU zq1 zq2 zq3 => bodyP hx Y' hZ' hw Md zq1 zq2 zq3 eU E_rr (rm_onlyMarkersLeft1 l Z a0 hw [] rr h0 n0 Zs115 (Old.keep O0 K0 hws) F_rr_onlyMarkersLeft) (fun v h L q => by obtain ⟨rfl, -⟩ := q; exact Or.inr rfl) (by decide) (by decide) (by decide) (by decide))
  obtain ⟨rfl, N116q, e116⟩ := hQ116
  have N116 := Fr.app N113 N116q
  refine gs T116 (mkF m 24 #[rv op, rv fa] [(.int (1 : Int32))]) st116 ?_
  refine gs T116 (mkF m 27 #[rv op, rv fa] []) (fun _ hr => XS.ifNo X116.here hx rfl (hb hby d23_24) rfl ((if0 _ _).trans (feq (by decide : ¬ ((1 : Int32) = (0 : Int32)))).1) hr) ?_
  refine gs T116 (mkF m 28 #[rv op, rv fa] [(.ref op)]) (fun _ hr => XS.aloadN X116.here hx rfl (hb hby d23_27) rfl rfl hr) ?_
  refine gs T116 (mkF m 34 #[rv op, rv fa] [(.ref op)]) (fun _ hr => XS.goto X116.here hx rfl (pc0 := 28) (pc' := 34) rfl (hb hby d23_28) (by decide) (by decide) hr) ?_
  exact Goes.ret (v := some (.ref op)) X116 (by decide) (by decide) (fun h => by rw [Bd.returns] at h; cases h) ⟨rfl, N116, e116⟩ (fun fs hr => retOut X116 hx Bd.returns rfl (Or.inr (Or.inr (Or.inr (Or.inr ⟨rfl, rfl, rfl⟩)))) (hb hby d23_34) hr)
theorem d24_0 : decode prog_13_method_3_code 0 = .ok (.aload_n 0, 1) := by decide +kernel
theorem d24_1 : decode prog_13_method_3_code 1 = .ok (.getfield 21, 3) := by decide +kernel
theorem d24_4 : decode prog_13_method_3_code 4 = .ok (.invokestatic 41, 3) := by decide +kernel
theorem d24_7 : decode prog_13_method_3_code 7 = .ok (.aload_n 0, 1) := by decide +kernel
theorem d24_8 : decode prog_13_method_3_code 8 = .ok (.getfield 15, 3) := by decide +kernel
theorem d24_11 : decode prog_13_method_3_code 11 = .ok (.invokestatic 41, 3) := by decide +kernel
theorem d24_14 : decode prog_13_method_3_code 14 = .ok (.invokestatic 46, 3) := by decide +kernel
theorem d24_17 : decode prog_13_method_3_code 17 = .ok (.astore_n 1, 1) := by decide +kernel
theorem d24_18 : decode prog_13_method_3_code 18 = .ok (.aload_n 1, 1) := by decide +kernel
theorem d24_19 : decode prog_13_method_3_code 19 = .ok (.invokevirtual 52, 3) := by decide +kernel
theorem d24_22 : decode prog_13_method_3_code 22 = .ok (.ifCond .eq 29, 3) := by decide +kernel
theorem d24_51 : decode prog_13_method_3_code 51 = .ok (.aload_n 1, 1) := by decide +kernel
theorem d24_52 : decode prog_13_method_3_code 52 = .ok (.astore_n 2, 1) := by decide +kernel
theorem d24_53 : decode prog_13_method_3_code 53 = .ok (.aload_n 2, 1) := by decide +kernel
theorem d24_54 : decode prog_13_method_3_code 54 = .ok (.areturn, 1) := by decide +kernel
theorem pn_com_example_log_lag_gauge_loglaggauge_model_PositionLag : plainName cPL = true := by first | (simp [plainName, overriddenIn]; done) | decide +kernel
def Q_rm_laggt (Z : State) (th : Addr) (em : Addr) (q1 : Int64) (q2 : Int64) (h0 : Heap) (n0 : Nat) (v : Option Value) (h : Heap) (L : List Loc) : Prop := v = some (.ref em) ∧ Fr n0 L ∧ Keep h0 h []
set_option maxRecDepth 65536 in
set_option maxHeartbeats 40000000 in
theorem rm_laggt (l : Launch) (Z : State) (a0 : Array Value) (hw : ∀ d ∈ tables_1, d.before a0 Z = true) (ws : List Jvm.Cond) (th : Addr) (em : Addr) (q1 : Int64) (q2 : Int64) (h0 : Heap) (n0 : Nat) (Z0 : n0 ≤ h0.size) (O0 : Old Z n0 h0) (E_th : Exa Z h0 th cPL) (F_th_offset : Fld Z h0 th cPL "offset" "J" (.long q1)) (F_th_end : Fld Z h0 th cPL "end" "J" (.long q2)) (S_OptionalLong_EMPTY_old : Sta Z Z.heap cOL "EMPTY" dOL (.ref em)) (E_em_old : Exa Z Z.heap em cOL) (F_em_isPresent_old : Fld Z Z.heap em cOL nIP "Z" (.int (0 : Int32))) (F_em_value_old : Fld Z Z.heap em cOL "value" "J" (.long (0 : Int64))) (hgt : (0 : Int32) < (XT.cmpL q1 q2)) :
    MetFree l Y26 (head1 (Cond.code Y26 prog_13_method_3_code 3 (some (.object cOL)) :: ws) r7) (fun a U => a = #[(.ref th)] ∧ Z.Warmed39 U.vm ∧ U.heap = h0) (fun _ _ _ _ _ => True) (fun _ U o U' => ∃ v L, o = .returned v ∧ Q_rm_laggt Z th em q1 q2 h0 n0 v U'.heap L ∧ FrameEnd U o U' L r7.cells r7.slots) := by
  refine MetFree.of_bodySF (plainFor_of_name pn_com_example_log_lag_gauge_loglaggauge_model_PositionLag) hisR ?_
  intro p e s m args below meth c s₁ Bd hml0 hP hK
  obtain ⟨rfl, hZ, hh⟩ := hP
  have hx := Bd.exec
  have hby := Bd.bytes
  have hml : c.maxLocals = 3 := hml0
  have hown : s.vm.findClass cPL = some m.cls := findClass_of_methodNamed Bd.named
  have hnm := (name_of_methodNamed Bd.named Bd.method).1
  have X0 : Stand p l e r7 s m #[(.ref th)] below meth c s₁ [] 0 0 := Stand.of_body Bd
  have e0 : s₁.heap = h0 := by rw [← hh, Bd.state]; rfl
  have N0 := Fr.nil n0
  refine Goes.out (l := l) (c := c) (R := r7) (Q := Q_rm_laggt Z th em q1 q2 h0 n0) Bd.notSynchronized ?_
  refine Goes.cast (g2 := mkF m 0 #[rv th, .unset, .unset] []) (by first | (simp [entryFrame, mkF, argsToLocals, Value.category]; done) | rfl) ?_
  have K0 : Keep h0 h0 [] := Keep.refl h0 _
  have hws : ∀ x ∈ ([] : List Addr), n0 ≤ x := all0
  refine gs s₁ (mkF m 1 #[rv th, .unset, .unset] [(.ref th)]) (fun _ hr => XS.aloadN X0.here hx rfl (hb hby d24_0) rfl rfl hr) ?_
  obtain ⟨T117, X117, e117, st117⟩ := getF X0 hx hZ hown (host := "") (Or.inl (tw hw 39 rfl)) Via.refl e0 F_th_end (g := (mkF m 1 #[rv th, .unset, .unset] [(.ref th)])) rfl rfl (hb hby d24_1)
  refine gs T117 (mkF m 4 #[rv th, .unset, .unset] [(.long q2)]) st117 ?_
  have Zs118 : n0 ≤ h0.size := Nat.le_trans Z0 K0.1
  obtain ⟨_, _, ⟨T119, L119, k119, n119⟩, -, X119, ⟨Lc119, hQ119, l119, y119, z119⟩, st119⟩ := LawKit.callS X117 hx (y := Y3) hown (mvT hZ (tw hw 134 rfl)) (mvT hZ (tw hw 84 rfl)) (mvT hZ (tw hw 3 rfl)) (mvT hZ (tw hw 85 rfl)) (by decide) (backOf (W := 0) (rm_olof l Z a0 hw [] q2 h0 n0 Zs118 (Old.keep O0 K0 hws)) hZ (tw hw 85 rfl) (tw hw 3 rfl) (by decide) (by decide)) (g := (mkF m 4 #[rv th, .unset, .unset] [(.long q2)])) rfl (by rw [hml]; rfl) (argsL := [(.long q2)]) (rest := []) (lenOf pd_7 rfl) rfl (wle rfl) (hb hby d24_4) (fun _ _ => ⟨rfl, e117, (by decide : 0 + 1 ≤ _), (by decide : 0 + 2 ≤ _)⟩)
  dsimp only [Pt.U, Pt.locs, Pt.cells, Pt.slots] at X119 l119 y119 z119 st119 hQ119
  subst l119 y119 z119
  obtain ⟨w119, rfl, N119q, Kc119, P119_0, P119_1, P119_2, P119_3⟩ := hQ119
  have N119 := Fr.app N0 N119q
  have F_th_offset_119 : Fld Z T119.heap th cPL "offset" "J" (.long q1) := F_th_offset.keep Kc119 nin0
  have K119 : Keep h0 T119.heap [] := K0.trans Kc119 all0
  have E_w119_119c : Exa Z T119.heap w119 cOL := P119_1
  have F_w119_isPresent_119c : Fld Z T119.heap w119 cOL nIP "Z" (.int (1 : Int32)) := P119_2
  have F_w119_value_119c : Fld Z T119.heap w119 cOL "value" "J" (.long q2) := P119_3
  refine gs T119 (mkF m 7 #[rv th, .unset, .unset] [(.ref w119)]) st119 ?_
  refine gs T119 (mkF m 8 #[rv th, .unset, .unset] [(.ref th), (.ref w119)]) (fun _ hr => XS.aloadN X119.here hx rfl (hb hby d24_7) rfl rfl hr) ?_
  obtain ⟨T120, X120, e120, st120⟩ := getF X119 hx hZ hown (host := "") (Or.inl (tw hw 37 rfl)) Via.refl rfl F_th_offset_119 (g := (mkF m 8 #[rv th, .unset, .unset] [(.ref th), (.ref w119)])) rfl rfl (hb hby d24_8)
  refine gs T120 (mkF m 11 #[rv th, .unset, .unset] [(.long q1), (.ref w119)]) st120 ?_
  have Zs121 : n0 ≤ T119.heap.size := Nat.le_trans Z0 K119.1
  obtain ⟨_, _, ⟨T122, L122, k122, n122⟩, -, X122, ⟨Lc122, hQ122, l122, y122, z122⟩, st122⟩ := LawKit.callS X120 hx (y := Y3) hown (mvT hZ (tw hw 134 rfl)) (mvT hZ (tw hw 84 rfl)) (mvT hZ (tw hw 3 rfl)) (mvT hZ (tw hw 85 rfl)) (by decide) (backOf (W := 1) (rm_olof l Z a0 hw [] q1 T119.heap n0 Zs121 (Old.keep O0 K119 hws)) hZ (tw hw 85 rfl) (tw hw 3 rfl) (by decide) (by decide)) (g := (mkF m 11 #[rv th, .unset, .unset] [(.long q1), (.ref w119)])) rfl (by rw [hml]; rfl) (argsL := [(.long q1)]) (rest := [(.ref w119)]) (lenOf pd_7 rfl) rfl (wle rfl) (hb hby d24_11) (fun _ _ => ⟨rfl, e120, (by decide : 1 + 1 ≤ _), (by decide : 2 + 2 ≤ _)⟩)
  dsimp only [Pt.U, Pt.locs, Pt.cells, Pt.slots] at X122 l122 y122 z122 st122 hQ122
  subst l122 y122 z122
  obtain ⟨w122, rfl, N122q, Kc122, P122_0, P122_1, P122_2, P122_3⟩ := hQ122
  have N122 := Fr.app N119 N122q
  have E_w119_122 : Exa Z T122.heap w119 cOL := E_w119_119c.keep Kc122
  have F_w119_isPresent_122 : Fld Z T122.heap w119 cOL nIP "Z" (.int (1 : Int32)) := F_w119_isPresent_119c.keep Kc122 nin0
  have F_w119_value_122 : Fld Z T122.heap w119 cOL "value" "J" (.long q2) := F_w119_value_119c.keep Kc122 nin0
  have K122 : Keep h0 T122.heap [] := K119.trans Kc122 all0
  have E_w122_122c : Exa Z T122.heap w122 cOL := P122_1
  have F_w122_isPresent_122c : Fld Z T122.heap w122 cOL nIP "Z" (.int (1 : Int32)) := P122_2
  have F_w122_value_122c : Fld Z T122.heap w122 cOL "value" "J" (.long q1) := P122_3
  refine gs T122 (mkF m 14 #[rv th, .unset, .unset] [(.ref w122), (.ref w119)]) st122 ?_
  have Zs123 : n0 ≤ T122.heap.size := Nat.le_trans Z0 K122.1
  obtain ⟨_, _, ⟨T124, L124, k124, n124⟩, -, X124, ⟨Lc124, hQ124, l124, y124, z124⟩, st124⟩ := LawKit.callS X122 hx (y := Y21) hown (mvT hZ (tw hw 144 rfl)) (mvT hZ (tw hw 145 rfl)) (mvT hZ (tw hw 146 rfl)) (mvT hZ (tw hw 147 rfl)) (by decide) (backOf (W := 0) (rm_offgt l Z a0 hw [] w119 w122 q1 q2 em T122.heap n0 Zs123 (Old.keep O0 K122 hws) E_w119_122 F_w119_isPresent_122 F_w119_value_122 E_w122_122c F_w122_isPresent_122c F_w122_value_122c S_OptionalLong_EMPTY_old E_em_old F_em_isPresent_old F_em_value_old hgt) hZ (tw hw 147 rfl) (tw hw 146 rfl) (by decide) (by decide)) (g := (mkF m 14 #[rv th, .unset, .unset] [(.ref w122), (.ref w119)])) rfl (by rw [hml]; rfl) (argsL := [(.ref w119), (.ref w122)]) (rest := []) (lenOf pd_11 rfl) rfl (wle rfl) (hb hby d24_14) (fun _ _ => ⟨rfl, rfl, (by decide : 2 + 0 ≤ _), (by decide : 4 + 0 ≤ _)⟩)
  dsimp only [Pt.U, Pt.locs, Pt.cells, Pt.slots] at X124 l124 y124 z124 st124 hQ124
  subst l124 y124 z124
  obtain ⟨rfl, N124q, Kc124⟩ := hQ124
  have N124 := Fr.app N122 N124q
  have K124 : Keep h0 T124.heap [] := K122.trans Kc124 all0
  refine gs T124 (mkF m 17 #[rv th, .unset, .unset] [(.ref em)]) st124 ?_
  refine gs T124 (mkF m 18 #[rv th, rv em, .unset] []) (fun _ hr => XS.astoreN X124.here hx rfl (hb hby d24_17) rfl rfl (l' := #[rv th, rv em, .unset]) rfl hr) ?_
  refine gs T124 (mkF m 19 #[rv th, rv em, .unset] [(.ref em)]) (fun _ hr => XS.aloadN X124.here hx rfl (hb hby d24_18) rfl rfl hr) ?_
  have Zs125 : n0 ≤ T124.heap.size := Nat.le_trans Z0 K124.1
  obtain ⟨cq126, kq126, q126a, q126b, q126c⟩ := isOf hZ rfl (E_em_old.ext (Old.keep O0 K124 hws).2)
  obtain ⟨_, _, ⟨T126, L126, k126, n126⟩, -, X126, ⟨Lc126, hQ126, l126, y126, z126⟩, st126⟩ := X124.virtualBack hx (y := Y5) (z := Y5) hown (mvT hZ (tw hw 155 rfl)) (mvT hZ (tw hw 156 rfl)) (notFace_of_selects (args := #[]) (mvT hZ (tw hw 158 rfl))) (mvT hZ (tw hw 158 rfl)) (mvT hZ (tw hw 157 rfl)) (by decide) (backOf (W := 0) (rm_olp0 l Z a0 hw [] em T124.heap n0 Zs125 (Old.keep O0 K124 hws) (F_em_isPresent_old.ext (Old.keep O0 K124 hws).2)) hZ (tw hw 159 rfl) (tw hw 3 rfl) (by decide) (by decide)) q126a q126c (g := (mkF m 19 #[rv th, rv em, .unset] [(.ref em)])) rfl (by rw [hml]; rfl) (Steps.refl _) (argsL := []) (rest := []) (lenOf pd_1 rfl) rfl (wle rfl) (hb hby d24_19) (fun _ _ => ⟨rfl, rfl, (by decide : 2 + 0 ≤ _), (by decide : 4 + 0 ≤ _)⟩)
  dsimp only [Pt.U, Pt.locs, Pt.cells, Pt.slots] at X126 l126 y126 z126 st126 hQ126
  subst l126 y126 z126
  obtain ⟨rfl, N126q, e126⟩ := hQ126
  have N126 := Fr.app N124 N126q
  refine gs T126 (mkF m 22 #[rv th, rv em, .unset] [(.int (0 : Int32))]) (fun _ hr => st126.trans hr) ?_
  refine gs T126 (mkF m 51 #[rv th, rv em, .unset] []) (fun _ hr => XS.ifYes X126.here hx rfl (pc0 := 22) (pc' := 51) rfl (hb hby d24_22) rfl ((if0 _ _).trans (teq (by decide : (0 : Int32) = (0 : Int32))).1) (by decide) (by decide) hr) ?_
  refine gs T126 (mkF m 52 #[rv th, rv em, .unset] [(.ref em)]) (fun _ hr => XS.aloadN X126.here hx rfl (hb hby d24_51) rfl rfl hr) ?_
  refine gs T126 (mkF m 53 #[rv th, rv em, rv em] []) (fun _ hr => XS.astoreN X126.here hx rfl (hb hby d24_52) rfl rfl (l' := #[rv th, rv em, rv em]) rfl hr) ?_
  refine gs T126 (mkF m 54 #[rv th, rv em, rv em] [(.ref em)]) (fun _ hr => XS.aloadN X126.here hx rfl (hb hby d24_53) rfl rfl hr) ?_
  exact Goes.ret (v := some (.ref em)) X126 (by decide) (by decide) (fun h => by rw [Bd.returns] at h; cases h) (by show Q_rm_laggt Z th em q1 q2 h0 n0 _ T126.heap _; rw [e126]; exact ⟨rfl, N126, K124⟩) (fun fs hr => retOut X126 hx Bd.returns rfl (Or.inr (Or.inr (Or.inr (Or.inr ⟨rfl, rfl, rfl⟩)))) (hb hby d24_54) hr)
theorem d24_25 : decode prog_13_method_3_code 25 = .ok (.aload_n 0, 1) := by decide +kernel
theorem d24_26 : decode prog_13_method_3_code 26 = .ok (.getfield 24, 3) := by decide +kernel
theorem d24_29 : decode prog_13_method_3_code 29 = .ok (.invokedynamic 56, 5) := by decide +kernel
theorem d24_34 : decode prog_13_method_3_code 34 = .ok (.invokevirtual 60, 3) := by decide +kernel
theorem d24_37 : decode prog_13_method_3_code 37 = .ok (.invokevirtual 64, 3) := by decide +kernel
theorem d24_40 : decode prog_13_method_3_code 40 = .ok (.ifCond .eq 11, 3) := by decide +kernel
theorem d24_43 : decode prog_13_method_3_code 43 = .ok (.lconst 0, 1) := by decide +kernel
theorem d24_44 : decode prog_13_method_3_code 44 = .ok (.invokestatic 41, 3) := by decide +kernel
theorem d24_47 : decode prog_13_method_3_code 47 = .ok (.astore_n 2, 1) := by decide +kernel
theorem d24_48 : decode prog_13_method_3_code 48 = .ok (.goto 5, 3) := by decide +kernel
def Q_rm_lag1 (Z : State) (th : Addr) (op : Addr) (rr : Addr) (em : Addr) (eo : Addr) (q1 : Int64) (q2 : Int64) (h0 : Heap) (n0 : Nat) (v : Option Value) (h : Heap) (L : List Loc) : Prop := ∃ w : Addr, v = some (.ref w) ∧ Fr n0 L ∧ Keep h0 h [] ∧ h0.size ≤ w ∧ Exa Z h w cOL ∧ Fld Z h w cOL nIP "Z" (.int (1 : Int32)) ∧ Fld Z h w cOL "value" "J" (.long (0 : Int64))
set_option maxRecDepth 65536 in
set_option maxHeartbeats 40000000 in
theorem rm_lag1 (l : Launch) (Z : State) (a0 : Array Value) (hw : ∀ d ∈ tables_1, d.before a0 Z = true) (ws : List Jvm.Cond) (th : Addr) (op : Addr) (rr : Addr) (em : Addr) (eo : Addr) (q1 : Int64) (q2 : Int64) (h0 : Heap) (n0 : Nat) (Z0 : n0 ≤ h0.size) (O0 : Old Z n0 h0) (E_th : Exa Z h0 th cPL) (F_th_offset : Fld Z h0 th cPL "offset" "J" (.long q1)) (F_th_end : Fld Z h0 th cPL "end" "J" (.long q2)) (F_th_records : Fld Z h0 th cPL "records" dOP (.ref op)) (E_op : Exa Z h0 op cOP) (F_op_value : Fld Z h0 op cOP "value" dOB (.ref rr)) (E_rr : Exa Z h0 rr cRR) (F_rr_onlyMarkersLeft : Fld Z h0 rr cRR nOM "Z" (.int (1 : Int32))) (S_OptionalLong_EMPTY_old : Sta Z Z.heap cOL "EMPTY" dOL (.ref em)) (E_em_old : Exa Z Z.heap em cOL) (F_em_isPresent_old : Fld Z Z.heap em cOL nIP "Z" (.int (0 : Int32))) (F_em_value_old : Fld Z Z.heap em cOL "value" "J" (.long (0 : Int64))) (S_Optional_EMPTY_old : Sta Z Z.heap cOP "EMPTY" dOP (.ref eo)) (E_eo_old : Exa Z Z.heap eo cOP) (F_eo_value_old : Fld Z Z.heap eo cOP "value" dOB .null) (hle : ¬ ((0 : Int32) < (XT.cmpL q1 q2))) :
    MetFree l Y26 (head1 (Cond.code Y26 prog_13_method_3_code 3 (some (.object cOL)) :: ws) r8) (fun a U => a = #[(.ref th)] ∧ Z.Warmed39 U.vm ∧ U.heap = h0) (fun _ _ _ _ _ => True) (fun _ U o U' => ∃ v L, o = .returned v ∧ Q_rm_lag1 Z th op rr em eo q1 q2 h0 n0 v U'.heap L ∧ FrameEnd U o U' L r8.cells r8.slots) := by
  refine MetFree.of_bodySF (plainFor_of_name pn_com_example_log_lag_gauge_loglaggauge_model_PositionLag) hisR ?_
  intro p e s m args below meth c s₁ Bd hml0 hP hK
  obtain ⟨rfl, hZ, hh⟩ := hP
  have hx := Bd.exec
  have hby := Bd.bytes
  have hml : c.maxLocals = 3 := hml0
  have hown : s.vm.findClass cPL = some m.cls := findClass_of_methodNamed Bd.named
  have hnm := (name_of_methodNamed Bd.named Bd.method).1
  have X0 : Stand p l e r8 s m #[(.ref th)] below meth c s₁ [] 0 0 := Stand.of_body Bd
  have e0 : s₁.heap = h0 := by rw [← hh, Bd.state]; rfl
  have N0 := Fr.nil n0
  refine Goes.out (l := l) (c := c) (R := r8) (Q := Q_rm_lag1 Z th op rr em eo q1 q2 h0 n0) Bd.notSynchronized ?_
  refine Goes.cast (g2 := mkF m 0 #[rv th, .unset, .unset] []) (by first | (simp [entryFrame, mkF, argsToLocals, Value.category]; done) | rfl) ?_
  have K0 : Keep h0 h0 [] := Keep.refl h0 _
  have hws : ∀ x ∈ ([] : List Addr), n0 ≤ x := all0
  refine gs s₁ (mkF m 1 #[rv th, .unset, .unset] [(.ref th)]) (fun _ hr => XS.aloadN X0.here hx rfl (hb hby d24_0) rfl rfl hr) ?_
  obtain ⟨T127, X127, e127, st127⟩ := getF X0 hx hZ hown (host := "") (Or.inl (tw hw 39 rfl)) Via.refl e0 F_th_end (g := (mkF m 1 #[rv th, .unset, .unset] [(.ref th)])) rfl rfl (hb hby d24_1)
  refine gs T127 (mkF m 4 #[rv th, .unset, .unset] [(.long q2)]) st127 ?_
  have Zs128 : n0 ≤ h0.size := Nat.le_trans Z0 K0.1
  obtain ⟨_, _, ⟨T129, L129, k129, n129⟩, -, X129, ⟨Lc129, hQ129, l129, y129, z129⟩, st129⟩ := LawKit.callS X127 hx (y := Y3) hown (mvT hZ (tw hw 134 rfl)) (mvT hZ (tw hw 84 rfl)) (mvT hZ (tw hw 3 rfl)) (mvT hZ (tw hw 85 rfl)) (by decide) (backOf (W := 0) (rm_olof l Z a0 hw [] q2 h0 n0 Zs128 (Old.keep O0 K0 hws)) hZ (tw hw 85 rfl) (tw hw 3 rfl) (by decide) (by decide)) (g := (mkF m 4 #[rv th, .unset, .unset] [(.long q2)])) rfl (by rw [hml]; rfl) (argsL := [(.long q2)]) (rest := []) (lenOf pd_7 rfl) rfl (wle rfl) (hb hby d24_4) (fun _ _ => ⟨rfl, e127, (by decide : 0 + 1 ≤ _), (by decide : 0 + 2 ≤ _)⟩)
  dsimp only [Pt.U, Pt.locs, Pt.cells, Pt.slots] at X129 l129 y129 z129 st129 hQ129
  subst l129 y129 z129
  obtain ⟨w129, rfl, N129q, Kc129, P129_0, P129_1, P129_2, P129_3⟩ := hQ129
  have N129 := Fr.app N0 N129q
  have F_th_offset_129 : Fld Z T129.heap th cPL "offset" "J" (.long q1) := F_th_offset.keep Kc129 nin0
  have F_th_records_129 : Fld Z T129.heap th cPL "records" dOP (.ref op) := F_th_records.keep Kc129 nin0
  have E_op_129 : Exa Z T129.heap op cOP := E_op.keep Kc129
  have F_op_value_129 : Fld Z T129.heap op cOP "value" dOB (.ref rr) := F_op_value.keep Kc129 nin0
  have E_rr_129 : Exa Z T129.heap rr cRR := E_rr.keep Kc129
  have F_rr_onlyMarkersLeft_129 : Fld Z T129.heap rr cRR nOM "Z" (.int (1 : Int32)) := F_rr_onlyMarkersLeft.keep Kc129 nin0
  have K129 : Keep h0 T129.heap [] := K0.trans Kc129 all0
  have E_w129_129c : Exa Z T129.heap w129 cOL := P129_1
  have F_w129_isPresent_129c : Fld Z T129.heap w129 cOL nIP "Z" (.int (1 : Int32)) := P129_2
  have F_w129_value_129c : Fld Z T129.heap w129 cOL "value" "J" (.long q2) := P129_3
  refine gs T129 (mkF m 7 #[rv th, .unset, .unset] [(.ref w129)]) st129 ?_
  refine gs T129 (mkF m 8 #[rv th, .unset, .unset] [(.ref th), (.ref w129)]) (fun _ hr => XS.aloadN X129.here hx rfl (hb hby d24_7) rfl rfl hr) ?_
  obtain ⟨T130, X130, e130, st130⟩ := getF X129 hx hZ hown (host := "") (Or.inl (tw hw 37 rfl)) Via.refl rfl F_th_offset_129 (g := (mkF m 8 #[rv th, .unset, .unset] [(.ref th), (.ref w129)])) rfl rfl (hb hby d24_8)
  refine gs T130 (mkF m 11 #[rv th, .unset, .unset] [(.long q1), (.ref w129)]) st130 ?_
  have Zs131 : n0 ≤ T129.heap.size := Nat.le_trans Z0 K129.1
  obtain ⟨_, _, ⟨T132, L132, k132, n132⟩, -, X132, ⟨Lc132, hQ132, l132, y132, z132⟩, st132⟩ := LawKit.callS X130 hx (y := Y3) hown (mvT hZ (tw hw 134 rfl)) (mvT hZ (tw hw 84 rfl)) (mvT hZ (tw hw 3 rfl)) (mvT hZ (tw hw 85 rfl)) (by decide) (backOf (W := 1) (rm_olof l Z a0 hw [] q1 T129.heap n0 Zs131 (Old.keep O0 K129 hws)) hZ (tw hw 85 rfl) (tw hw 3 rfl) (by decide) (by decide)) (g := (mkF m 11 #[rv th, .unset, .unset] [(.long q1), (.ref w129)])) rfl (by rw [hml]; rfl) (argsL := [(.long q1)]) (rest := [(.ref w129)]) (lenOf pd_7 rfl) rfl (wle rfl) (hb hby d24_11) (fun _ _ => ⟨rfl, e130, (by decide : 1 + 1 ≤ _), (by decide : 2 + 2 ≤ _)⟩)
  dsimp only [Pt.U, Pt.locs, Pt.cells, Pt.slots] at X132 l132 y132 z132 st132 hQ132
  subst l132 y132 z132
  obtain ⟨w132, rfl, N132q, Kc132, P132_0, P132_1, P132_2, P132_3⟩ := hQ132
  have N132 := Fr.app N129 N132q
  have F_th_records_132 : Fld Z T132.heap th cPL "records" dOP (.ref op) := F_th_records_129.keep Kc132 nin0
  have E_op_132 : Exa Z T132.heap op cOP := E_op_129.keep Kc132
  have F_op_value_132 : Fld Z T132.heap op cOP "value" dOB (.ref rr) := F_op_value_129.keep Kc132 nin0
  have E_rr_132 : Exa Z T132.heap rr cRR := E_rr_129.keep Kc132
  have F_rr_onlyMarkersLeft_132 : Fld Z T132.heap rr cRR nOM "Z" (.int (1 : Int32)) := F_rr_onlyMarkersLeft_129.keep Kc132 nin0
  have E_w129_132 : Exa Z T132.heap w129 cOL := E_w129_129c.keep Kc132
  have F_w129_isPresent_132 : Fld Z T132.heap w129 cOL nIP "Z" (.int (1 : Int32)) := F_w129_isPresent_129c.keep Kc132 nin0
  have F_w129_value_132 : Fld Z T132.heap w129 cOL "value" "J" (.long q2) := F_w129_value_129c.keep Kc132 nin0
  have K132 : Keep h0 T132.heap [] := K129.trans Kc132 all0
  have E_w132_132c : Exa Z T132.heap w132 cOL := P132_1
  have F_w132_isPresent_132c : Fld Z T132.heap w132 cOL nIP "Z" (.int (1 : Int32)) := P132_2
  have F_w132_value_132c : Fld Z T132.heap w132 cOL "value" "J" (.long q1) := P132_3
  refine gs T132 (mkF m 14 #[rv th, .unset, .unset] [(.ref w132), (.ref w129)]) st132 ?_
  have Zs133 : n0 ≤ T132.heap.size := Nat.le_trans Z0 K132.1
  obtain ⟨_, _, ⟨T134, L134, k134, n134⟩, -, X134, ⟨Lc134, hQ134, l134, y134, z134⟩, st134⟩ := LawKit.callS X132 hx (y := Y21) hown (mvT hZ (tw hw 144 rfl)) (mvT hZ (tw hw 145 rfl)) (mvT hZ (tw hw 146 rfl)) (mvT hZ (tw hw 147 rfl)) (by decide) (backOf (W := 0) (rm_offle l Z a0 hw [] w129 w132 q1 q2 em T132.heap n0 Zs133 (Old.keep O0 K132 hws) E_w129_132 F_w129_isPresent_132 F_w129_value_132 E_w132_132c F_w132_isPresent_132c F_w132_value_132c S_OptionalLong_EMPTY_old E_em_old F_em_isPresent_old F_em_value_old hle) hZ (tw hw 147 rfl) (tw hw 146 rfl) (by decide) (by decide)) (g := (mkF m 14 #[rv th, .unset, .unset] [(.ref w132), (.ref w129)])) rfl (by rw [hml]; rfl) (argsL := [(.ref w129), (.ref w132)]) (rest := []) (lenOf pd_11 rfl) rfl (wle rfl) (hb hby d24_14) (fun _ _ => ⟨rfl, rfl, (by decide : 2 + 1 ≤ _), (by decide : 4 + 2 ≤ _)⟩)
  dsimp only [Pt.U, Pt.locs, Pt.cells, Pt.slots] at X134 l134 y134 z134 st134 hQ134
  subst l134 y134 z134
  obtain ⟨w134, rfl, N134q, Kc134, P134_0, P134_1, P134_2, P134_3⟩ := hQ134
  have N134 := Fr.app N132 N134q
  have F_th_records_134 : Fld Z T134.heap th cPL "records" dOP (.ref op) := F_th_records_132.keep Kc134 nin0
  have E_op_134 : Exa Z T134.heap op cOP := E_op_132.keep Kc134
  have F_op_value_134 : Fld Z T134.heap op cOP "value" dOB (.ref rr) := F_op_value_132.keep Kc134 nin0
  have E_rr_134 : Exa Z T134.heap rr cRR := E_rr_132.keep Kc134
  have F_rr_onlyMarkersLeft_134 : Fld Z T134.heap rr cRR nOM "Z" (.int (1 : Int32)) := F_rr_onlyMarkersLeft_132.keep Kc134 nin0
  have K134 : Keep h0 T134.heap [] := K132.trans Kc134 all0
  have E_w134_134c : Exa Z T134.heap w134 cOL := P134_1
  have F_w134_isPresent_134c : Fld Z T134.heap w134 cOL nIP "Z" (.int (1 : Int32)) := P134_2
  refine gs T134 (mkF m 17 #[rv th, .unset, .unset] [(.ref w134)]) st134 ?_
  refine gs T134 (mkF m 18 #[rv th, rv w134, .unset] []) (fun _ hr => XS.astoreN X134.here hx rfl (hb hby d24_17) rfl rfl (l' := #[rv th, rv w134, .unset]) rfl hr) ?_
  refine gs T134 (mkF m 19 #[rv th, rv w134, .unset] [(.ref w134)]) (fun _ hr => XS.aloadN X134.here hx rfl (hb hby d24_18) rfl rfl hr) ?_
  have Zs135 : n0 ≤ T134.heap.size := Nat.le_trans Z0 K134.1
  obtain ⟨cq136, kq136, q136a, q136b, q136c⟩ := isOf hZ rfl E_w134_134c
  obtain ⟨_, _, ⟨T136, L136, k136, n136⟩, -, X136, ⟨Lc136, hQ136, l136, y136, z136⟩, st136⟩ := X134.virtualBack hx (y := Y5) (z := Y5) hown (mvT hZ (tw hw 155 rfl)) (mvT hZ (tw hw 156 rfl)) (notFace_of_selects (args := #[]) (mvT hZ (tw hw 158 rfl))) (mvT hZ (tw hw 158 rfl)) (mvT hZ (tw hw 157 rfl)) (by decide) (backOf (W := 0) (rm_olp1 l Z a0 hw [] w134 T134.heap n0 Zs135 (Old.keep O0 K134 hws) F_w134_isPresent_134c) hZ (tw hw 159 rfl) (tw hw 3 rfl) (by decide) (by decide)) q136a q136c (g := (mkF m 19 #[rv th, rv w134, .unset] [(.ref w134)])) rfl (by rw [hml]; rfl) (Steps.refl _) (argsL := []) (rest := []) (lenOf pd_1 rfl) rfl (wle rfl) (hb hby d24_19) (fun _ _ => ⟨rfl, rfl, (by decide : 3 + 0 ≤ _), (by decide : 6 + 0 ≤ _)⟩)
  dsimp only [Pt.U, Pt.locs, Pt.cells, Pt.slots] at X136 l136 y136 z136 st136 hQ136
  subst l136 y136 z136
  obtain ⟨rfl, N136q, e136⟩ := hQ136
  have N136 := Fr.app N134 N136q
  refine gs T136 (mkF m 22 #[rv th, rv w134, .unset] [(.int (1 : Int32))]) (fun _ hr => st136.trans hr) ?_
  refine gs T136 (mkF m 25 #[rv th, rv w134, .unset] []) (fun _ hr => XS.ifNo X136.here hx rfl (hb hby d24_22) rfl ((if0 _ _).trans (feq (by decide : ¬ ((1 : Int32) = (0 : Int32)))).1) hr) ?_
  refine gs T136 (mkF m 26 #[rv th, rv w134, .unset] [(.ref th)]) (fun _ hr => XS.aloadN X136.here hx rfl (hb hby d24_25) rfl rfl hr) ?_
  obtain ⟨T137, X137, e137, st137⟩ := getF X136 hx hZ hown (host := "") (Or.inl (tw hw 41 rfl)) Via.refl e136 F_th_records_134 (g := (mkF m 26 #[rv th, rv w134, .unset] [(.ref th)])) rfl rfl (hb hby d24_26)
  refine gs T137 (mkF m 29 #[rv th, rv w134, .unset] [(.ref op)]) st137 ?_
  obtain ⟨f138, c138, Md138, Gz138, st138⟩ := own_siteConst X137 hx hZ (x := Y26) (pc := 29) (σ := sgP) Bd.named (tw hw 160 rfl) rfl (g := (mkF m 29 #[rv th, rv w134, .unset] [(.ref op)])) rfl rfl (by rw [hml]; rfl) (hb hby d24_29) (by show 2 * 0 + 1 + 3072 ≤ _; decide)
  refine gs T137 (mkF m 34 #[rv th, rv w134, .unset] [(.ref f138), (.ref op)]) st138 ?_
  have Zs139 : n0 ≤ T134.heap.size := Nat.le_trans Z0 K134.1
  obtain ⟨cq140, kq140, q140a, q140b, q140c⟩ := isOf hZ e137 E_op_134
  obtain ⟨_, _, ⟨T140, L140, k140, n140⟩, -, X140, ⟨Lc140, hQ140, l140, y140, z140⟩, st140⟩ := X137.virtualBack hx (y := Y25) (z := Y25) hown (mvT hZ (tw hw 162 rfl)) (mvT hZ (tw hw 163 rfl)) (notFace_of_selects (args := #[]) (mvT hZ (tw hw 165 rfl))) (mvT hZ (tw hw 165 rfl)) (mvT hZ (tw hw 164 rfl)) (by decide) (backOf (W := 0) (rm_filt1 l Z a0 hw [] op f138 rr eo c138 T134.heap n0 Zs139 (Old.keep O0 K134 hws) E_op_134 F_op_value_134 E_rr_134 F_rr_onlyMarkersLeft_134 (Gz138.ext (Old.keep O0 K134 hws).2) S_Optional_EMPTY_old E_eo_old F_eo_value_old Md138) hZ (tw hw 166 rfl) (tw hw 8 rfl) (by decide) (by decide)) q140a q140c (g := (mkF m 34 #[rv th, rv w134, .unset] [(.ref f138), (.ref op)])) rfl (by rw [hml]; rfl) (Steps.refl _) (argsL := [(.ref f138)]) (rest := []) (lenOf pd_12 rfl) rfl (wle rfl) (hb hby d24_34) (fun _ _ => ⟨rfl, e137, (by decide : 3 + 0 ≤ _), (by decide : 6 + 0 ≤ _)⟩)
  dsimp only [Pt.U, Pt.locs, Pt.cells, Pt.slots] at X140 l140 y140 z140 st140 hQ140
  subst l140 y140 z140
  obtain ⟨rfl, N140q, e140⟩ := hQ140
  have N140 := Fr.app N136 N140q
  refine gs T140 (mkF m 37 #[rv th, rv w134, .unset] [(.ref op)]) (fun _ hr => st140.trans hr) ?_
  have Zs141 : n0 ≤ T134.heap.size := Nat.le_trans Z0 K134.1
  obtain ⟨cq142, kq142, q142a, q142b, q142c⟩ := isOf hZ e140 E_op_134
  obtain ⟨_, _, ⟨T142, L142, k142, n142⟩, -, X142, ⟨Lc142, hQ142, l142, y142, z142⟩, st142⟩ := X140.virtualBack hx (y := Y19) (z := Y19) hown (mvT hZ (tw hw 174 rfl)) (mvT hZ (tw hw 175 rfl)) (notFace_of_selects (args := #[]) (mvT hZ (tw hw 177 rfl))) (mvT hZ (tw hw 177 rfl)) (mvT hZ (tw hw 176 rfl)) (by decide) (backOf (W := 0) (rm_oisp1 l Z a0 hw [] op rr T134.heap n0 Zs141 (Old.keep O0 K134 hws) F_op_value_134) hZ (tw hw 178 rfl) (tw hw 8 rfl) (by decide) (by decide)) q142a q142c (g := (mkF m 37 #[rv th, rv w134, .unset] [(.ref op)])) rfl (by rw [hml]; rfl) (Steps.refl _) (argsL := []) (rest := []) (lenOf pd_1 rfl) rfl (wle rfl) (hb hby d24_37) (fun _ _ => ⟨rfl, e140, (by decide : 3 + 0 ≤ _), (by decide : 6 + 0 ≤ _)⟩)
  dsimp only [Pt.U, Pt.locs, Pt.cells, Pt.slots] at X142 l142 y142 z142 st142 hQ142
  subst l142 y142 z142
  obtain ⟨rfl, N142q, e142⟩ := hQ142
  have N142 := Fr.app N140 N142q
  refine gs T142 (mkF m 40 #[rv th, rv w134, .unset] [(.int (1 : Int32))]) (fun _ hr => st142.trans hr) ?_
  refine gs T142 (mkF m 43 #[rv th, rv w134, .unset] []) (fun _ hr => XS.ifNo X142.here hx rfl (hb hby d24_40) rfl ((if0 _ _).trans (feq (by decide : ¬ ((1 : Int32) = (0 : Int32)))).1) hr) ?_
  refine gs T142 (mkF m 44 #[rv th, rv w134, .unset] [(.long (0 : Int64))]) (fun _ hr => XT.lconst X142.here hx rfl (hb hby d24_43) hr) ?_
  have Zs143 : n0 ≤ T134.heap.size := Nat.le_trans Z0 K134.1
  obtain ⟨_, _, ⟨T144, L144, k144, n144⟩, -, X144, ⟨Lc144, hQ144, l144, y144, z144⟩, st144⟩ := LawKit.callS X142 hx (y := Y3) hown (mvT hZ (tw hw 134 rfl)) (mvT hZ (tw hw 84 rfl)) (mvT hZ (tw hw 3 rfl)) (mvT hZ (tw hw 85 rfl)) (by decide) (backOf (W := 0) (rm_olof l Z a0 hw [] (0 : Int64) T134.heap n0 Zs143 (Old.keep O0 K134 hws)) hZ (tw hw 85 rfl) (tw hw 3 rfl) (by decide) (by decide)) (g := (mkF m 44 #[rv th, rv w134, .unset] [(.long (0 : Int64))])) rfl (by rw [hml]; rfl) (argsL := [(.long (0 : Int64))]) (rest := []) (lenOf pd_7 rfl) rfl (wle rfl) (hb hby d24_44) (fun _ _ => ⟨rfl, e142, (by decide : 3 + 1 ≤ _), (by decide : 6 + 2 ≤ _)⟩)
  dsimp only [Pt.U, Pt.locs, Pt.cells, Pt.slots] at X144 l144 y144 z144 st144 hQ144
  subst l144 y144 z144
  obtain ⟨w144, rfl, N144q, Kc144, P144_0, P144_1, P144_2, P144_3⟩ := hQ144
  have N144 := Fr.app N142 N144q
  have K144 : Keep h0 T144.heap [] := K134.trans Kc144 all0
  have sz_w144 : h0.size ≤ w144 := Nat.le_trans K134.1 P144_0
  have E_w144_144c : Exa Z T144.heap w144 cOL := P144_1
  have F_w144_isPresent_144c : Fld Z T144.heap w144 cOL nIP "Z" (.int (1 : Int32)) := P144_2
  have F_w144_value_144c : Fld Z T144.heap w144 cOL "value" "J" (.long (0 : Int64)) := P144_3
  refine gs T144 (mkF m 47 #[rv th, rv w134, .unset] [(.ref w144)]) st144 ?_
  refine gs T144 (mkF m 48 #[rv th, rv w134, rv w144] []) (fun _ hr => XS.astoreN X144.here hx rfl (hb hby d24_47) rfl rfl (l' := #[rv th, rv w134, rv w144]) rfl hr) ?_
  refine gs T144 (mkF m 53 #[rv th, rv w134, rv w144] []) (fun _ hr => XS.goto X144.here hx rfl (pc0 := 48) (pc' := 53) rfl (hb hby d24_48) (by decide) (by decide) hr) ?_
  refine gs T144 (mkF m 54 #[rv th, rv w134, rv w144] [(.ref w144)]) (fun _ hr => XS.aloadN X144.here hx rfl (hb hby d24_53) rfl rfl hr) ?_
  exact Goes.ret (v := some (.ref w144)) X144 (by decide) (by decide) (fun h => by rw [Bd.returns] at h; cases h) (by show Q_rm_lag1 Z th op rr em eo q1 q2 h0 n0 _ T144.heap _; exact ⟨w144, rfl, N144, K144, sz_w144, E_w144_144c, F_w144_isPresent_144c, F_w144_value_144c⟩) (fun fs hr => retOut X144 hx Bd.returns rfl (Or.inr (Or.inr (Or.inr (Or.inr ⟨rfl, rfl, rfl⟩)))) (hb hby d24_54) hr)
def Q_rm_lag0 (Z : State) (th : Addr) (op : Addr) (rr : Addr) (em : Addr) (eo : Addr) (q1 : Int64) (q2 : Int64) (h0 : Heap) (n0 : Nat) (v : Option Value) (h : Heap) (L : List Loc) : Prop := ∃ w : Addr, v = some (.ref w) ∧ Fr n0 L ∧ Keep h0 h [] ∧ h0.size ≤ w ∧ Exa Z h w cOL ∧ Fld Z h w cOL nIP "Z" (.int (1 : Int32)) ∧ Fld Z h w cOL "value" "J" (.long (q2 - q1))
set_option maxRecDepth 65536 in
set_option maxHeartbeats 40000000 in
theorem rm_lag0 (l : Launch) (Z : State) (a0 : Array Value) (hw : ∀ d ∈ tables_1, d.before a0 Z = true) (ws : List Jvm.Cond) (th : Addr) (op : Addr) (rr : Addr) (em : Addr) (eo : Addr) (q1 : Int64) (q2 : Int64) (h0 : Heap) (n0 : Nat) (Z0 : n0 ≤ h0.size) (O0 : Old Z n0 h0) (E_th : Exa Z h0 th cPL) (F_th_offset : Fld Z h0 th cPL "offset" "J" (.long q1)) (F_th_end : Fld Z h0 th cPL "end" "J" (.long q2)) (F_th_records : Fld Z h0 th cPL "records" dOP (.ref op)) (E_op : Exa Z h0 op cOP) (F_op_value : Fld Z h0 op cOP "value" dOB (.ref rr)) (E_rr : Exa Z h0 rr cRR) (F_rr_onlyMarkersLeft : Fld Z h0 rr cRR nOM "Z" (.int (0 : Int32))) (S_OptionalLong_EMPTY_old : Sta Z Z.heap cOL "EMPTY" dOL (.ref em)) (E_em_old : Exa Z Z.heap em cOL) (F_em_isPresent_old : Fld Z Z.heap em cOL nIP "Z" (.int (0 : Int32))) (F_em_value_old : Fld Z Z.heap em cOL "value" "J" (.long (0 : Int64))) (S_Optional_EMPTY_old : Sta Z Z.heap cOP "EMPTY" dOP (.ref eo)) (E_eo_old : Exa Z Z.heap eo cOP) (F_eo_value_old : Fld Z Z.heap eo cOP "value" dOB .null) (hle : ¬ ((0 : Int32) < (XT.cmpL q1 q2))) :
    MetFree l Y26 (head1 (Cond.code Y26 prog_13_method_3_code 3 (some (.object cOL)) :: ws) r9) (fun a U => a = #[(.ref th)] ∧ Z.Warmed39 U.vm ∧ U.heap = h0) (fun _ _ _ _ _ => True) (fun _ U o U' => ∃ v L, o = .returned v ∧ Q_rm_lag0 Z th op rr em eo q1 q2 h0 n0 v U'.heap L ∧ FrameEnd U o U' L r9.cells r9.slots) := by
  refine MetFree.of_bodySF (plainFor_of_name pn_com_example_log_lag_gauge_loglaggauge_model_PositionLag) hisR ?_
  intro p e s m args below meth c s₁ Bd hml0 hP hK
  obtain ⟨rfl, hZ, hh⟩ := hP
  have hx := Bd.exec
  have hby := Bd.bytes
  have hml : c.maxLocals = 3 := hml0
  have hown : s.vm.findClass cPL = some m.cls := findClass_of_methodNamed Bd.named
  have hnm := (name_of_methodNamed Bd.named Bd.method).1
  have X0 : Stand p l e r9 s m #[(.ref th)] below meth c s₁ [] 0 0 := Stand.of_body Bd
  have e0 : s₁.heap = h0 := by rw [← hh, Bd.state]; rfl
  have N0 := Fr.nil n0
  refine Goes.out (l := l) (c := c) (R := r9) (Q := Q_rm_lag0 Z th op rr em eo q1 q2 h0 n0) Bd.notSynchronized ?_
  refine Goes.cast (g2 := mkF m 0 #[rv th, .unset, .unset] []) (by first | (simp [entryFrame, mkF, argsToLocals, Value.category]; done) | rfl) ?_
  have K0 : Keep h0 h0 [] := Keep.refl h0 _
  have hws : ∀ x ∈ ([] : List Addr), n0 ≤ x := all0
  refine gs s₁ (mkF m 1 #[rv th, .unset, .unset] [(.ref th)]) (fun _ hr => XS.aloadN X0.here hx rfl (hb hby d24_0) rfl rfl hr) ?_
  obtain ⟨T145, X145, e145, st145⟩ := getF X0 hx hZ hown (host := "") (Or.inl (tw hw 39 rfl)) Via.refl e0 F_th_end (g := (mkF m 1 #[rv th, .unset, .unset] [(.ref th)])) rfl rfl (hb hby d24_1)
  refine gs T145 (mkF m 4 #[rv th, .unset, .unset] [(.long q2)]) st145 ?_
  have Zs146 : n0 ≤ h0.size := Nat.le_trans Z0 K0.1
  obtain ⟨_, _, ⟨T147, L147, k147, n147⟩, -, X147, ⟨Lc147, hQ147, l147, y147, z147⟩, st147⟩ := LawKit.callS X145 hx (y := Y3) hown (mvT hZ (tw hw 134 rfl)) (mvT hZ (tw hw 84 rfl)) (mvT hZ (tw hw 3 rfl)) (mvT hZ (tw hw 85 rfl)) (by decide) (backOf (W := 0) (rm_olof l Z a0 hw [] q2 h0 n0 Zs146 (Old.keep O0 K0 hws)) hZ (tw hw 85 rfl) (tw hw 3 rfl) (by decide) (by decide)) (g := (mkF m 4 #[rv th, .unset, .unset] [(.long q2)])) rfl (by rw [hml]; rfl) (argsL := [(.long q2)]) (rest := []) (lenOf pd_7 rfl) rfl (wle rfl) (hb hby d24_4) (fun _ _ => ⟨rfl, e145, (by decide : 0 + 1 ≤ _), (by decide : 0 + 2 ≤ _)⟩)
  dsimp only [Pt.U, Pt.locs, Pt.cells, Pt.slots] at X147 l147 y147 z147 st147 hQ147
  subst l147 y147 z147
  obtain ⟨w147, rfl, N147q, Kc147, P147_0, P147_1, P147_2, P147_3⟩ := hQ147
  have N147 := Fr.app N0 N147q
  have F_th_offset_147 : Fld Z T147.heap th cPL "offset" "J" (.long q1) := F_th_offset.keep Kc147 nin0
  have F_th_records_147 : Fld Z T147.heap th cPL "records" dOP (.ref op) := F_th_records.keep Kc147 nin0
  have E_op_147 : Exa Z T147.heap op cOP := E_op.keep Kc147
  have F_op_value_147 : Fld Z T147.heap op cOP "value" dOB (.ref rr) := F_op_value.keep Kc147 nin0
  have E_rr_147 : Exa Z T147.heap rr cRR := E_rr.keep Kc147
  have F_rr_onlyMarkersLeft_147 : Fld Z T147.heap rr cRR nOM "Z" (.int (0 : Int32)) := F_rr_onlyMarkersLeft.keep Kc147 nin0
  have K147 : Keep h0 T147.heap [] := K0.trans Kc147 all0
  have E_w147_147c : Exa Z T147.heap w147 cOL := P147_1
  have F_w147_isPresent_147c : Fld Z T147.heap w147 cOL nIP "Z" (.int (1 : Int32)) := P147_2
  have F_w147_value_147c : Fld Z T147.heap w147 cOL "value" "J" (.long q2) := P147_3
  refine gs T147 (mkF m 7 #[rv th, .unset, .unset] [(.ref w147)]) st147 ?_
  refine gs T147 (mkF m 8 #[rv th, .unset, .unset] [(.ref th), (.ref w147)]) (fun _ hr => XS.aloadN X147.here hx rfl (hb hby d24_7) rfl rfl hr) ?_
  obtain ⟨T148, X148, e148, st148⟩ := getF X147 hx hZ hown (host := "") (Or.inl (tw hw 37 rfl)) Via.refl rfl F_th_offset_147 (g := (mkF m 8 #[rv th, .unset, .unset] [(.ref th), (.ref w147)])) rfl rfl (hb hby d24_8)
  refine gs T148 (mkF m 11 #[rv th, .unset, .unset] [(.long q1), (.ref w147)]) st148 ?_
  have Zs149 : n0 ≤ T147.heap.size := Nat.le_trans Z0 K147.1
  obtain ⟨_, _, ⟨T150, L150, k150, n150⟩, -, X150, ⟨Lc150, hQ150, l150, y150, z150⟩, st150⟩ := LawKit.callS X148 hx (y := Y3) hown (mvT hZ (tw hw 134 rfl)) (mvT hZ (tw hw 84 rfl)) (mvT hZ (tw hw 3 rfl)) (mvT hZ (tw hw 85 rfl)) (by decide) (backOf (W := 1) (rm_olof l Z a0 hw [] q1 T147.heap n0 Zs149 (Old.keep O0 K147 hws)) hZ (tw hw 85 rfl) (tw hw 3 rfl) (by decide) (by decide)) (g := (mkF m 11 #[rv th, .unset, .unset] [(.long q1), (.ref w147)])) rfl (by rw [hml]; rfl) (argsL := [(.long q1)]) (rest := [(.ref w147)]) (lenOf pd_7 rfl) rfl (wle rfl) (hb hby d24_11) (fun _ _ => ⟨rfl, e148, (by decide : 1 + 1 ≤ _), (by decide : 2 + 2 ≤ _)⟩)
  dsimp only [Pt.U, Pt.locs, Pt.cells, Pt.slots] at X150 l150 y150 z150 st150 hQ150
  subst l150 y150 z150
  obtain ⟨w150, rfl, N150q, Kc150, P150_0, P150_1, P150_2, P150_3⟩ := hQ150
  have N150 := Fr.app N147 N150q
  have F_th_records_150 : Fld Z T150.heap th cPL "records" dOP (.ref op) := F_th_records_147.keep Kc150 nin0
  have E_op_150 : Exa Z T150.heap op cOP := E_op_147.keep Kc150
  have F_op_value_150 : Fld Z T150.heap op cOP "value" dOB (.ref rr) := F_op_value_147.keep Kc150 nin0
  have E_rr_150 : Exa Z T150.heap rr cRR := E_rr_147.keep Kc150
  have F_rr_onlyMarkersLeft_150 : Fld Z T150.heap rr cRR nOM "Z" (.int (0 : Int32)) := F_rr_onlyMarkersLeft_147.keep Kc150 nin0
  have E_w147_150 : Exa Z T150.heap w147 cOL := E_w147_147c.keep Kc150
  have F_w147_isPresent_150 : Fld Z T150.heap w147 cOL nIP "Z" (.int (1 : Int32)) := F_w147_isPresent_147c.keep Kc150 nin0
  have F_w147_value_150 : Fld Z T150.heap w147 cOL "value" "J" (.long q2) := F_w147_value_147c.keep Kc150 nin0
  have K150 : Keep h0 T150.heap [] := K147.trans Kc150 all0
  have E_w150_150c : Exa Z T150.heap w150 cOL := P150_1
  have F_w150_isPresent_150c : Fld Z T150.heap w150 cOL nIP "Z" (.int (1 : Int32)) := P150_2
  have F_w150_value_150c : Fld Z T150.heap w150 cOL "value" "J" (.long q1) := P150_3
  refine gs T150 (mkF m 14 #[rv th, .unset, .unset] [(.ref w150), (.ref w147)]) st150 ?_
  have Zs151 : n0 ≤ T150.heap.size := Nat.le_trans Z0 K150.1
  obtain ⟨_, _, ⟨T152, L152, k152, n152⟩, -, X152, ⟨Lc152, hQ152, l152, y152, z152⟩, st152⟩ := LawKit.callS X150 hx (y := Y21) hown (mvT hZ (tw hw 144 rfl)) (mvT hZ (tw hw 145 rfl)) (mvT hZ (tw hw 146 rfl)) (mvT hZ (tw hw 147 rfl)) (by decide) (backOf (W := 0) (rm_offle l Z a0 hw [] w147 w150 q1 q2 em T150.heap n0 Zs151 (Old.keep O0 K150 hws) E_w147_150 F_w147_isPresent_150 F_w147_value_150 E_w150_150c F_w150_isPresent_150c F_w150_value_150c S_OptionalLong_EMPTY_old E_em_old F_em_isPresent_old F_em_value_old hle) hZ (tw hw 147 rfl) (tw hw 146 rfl) (by decide) (by decide)) (g := (mkF m 14 #[rv th, .unset, .unset] [(.ref w150), (.ref w147)])) rfl (by rw [hml]; rfl) (argsL := [(.ref w147), (.ref w150)]) (rest := []) (lenOf pd_11 rfl) rfl (wle rfl) (hb hby d24_14) (fun _ _ => ⟨rfl, rfl, (by decide : 2 + 1 ≤ _), (by decide : 4 + 2 ≤ _)⟩)
  dsimp only [Pt.U, Pt.locs, Pt.cells, Pt.slots] at X152 l152 y152 z152 st152 hQ152
  subst l152 y152 z152
  obtain ⟨w152, rfl, N152q, Kc152, P152_0, P152_1, P152_2, P152_3⟩ := hQ152
  have N152 := Fr.app N150 N152q
  have F_th_records_152 : Fld Z T152.heap th cPL "records" dOP (.ref op) := F_th_records_150.keep Kc152 nin0
  have E_op_152 : Exa Z T152.heap op cOP := E_op_150.keep Kc152
  have F_op_value_152 : Fld Z T152.heap op cOP "value" dOB (.ref rr) := F_op_value_150.keep Kc152 nin0
  have E_rr_152 : Exa Z T152.heap rr cRR := E_rr_150.keep Kc152
  have F_rr_onlyMarkersLeft_152 : Fld Z T152.heap rr cRR nOM "Z" (.int (0 : Int32)) := F_rr_onlyMarkersLeft_150.keep Kc152 nin0
  have K152 : Keep h0 T152.heap [] := K150.trans Kc152 all0
  have sz_w152 : h0.size ≤ w152 := Nat.le_trans K150.1 P152_0
  have E_w152_152c : Exa Z T152.heap w152 cOL := P152_1
  have F_w152_isPresent_152c : Fld Z T152.heap w152 cOL nIP "Z" (.int (1 : Int32)) := P152_2
  have F_w152_value_152c : Fld Z T152.heap w152 cOL "value" "J" (.long (q2 - q1)) := P152_3
  refine gs T152 (mkF m 17 #[rv th, .unset, .unset] [(.ref w152)]) st152 ?_
  refine gs T152 (mkF m 18 #[rv th, rv w152, .unset] []) (fun _ hr => XS.astoreN X152.here hx rfl (hb hby d24_17) rfl rfl (l' := #[rv th, rv w152, .unset]) rfl hr) ?_
  refine gs T152 (mkF m 19 #[rv th, rv w152, .unset] [(.ref w152)]) (fun _ hr => XS.aloadN X152.here hx rfl (hb hby d24_18) rfl rfl hr) ?_
  have Zs153 : n0 ≤ T152.heap.size := Nat.le_trans Z0 K152.1
  obtain ⟨cq154, kq154, q154a, q154b, q154c⟩ := isOf hZ rfl E_w152_152c
  obtain ⟨_, _, ⟨T154, L154, k154, n154⟩, -, X154, ⟨Lc154, hQ154, l154, y154, z154⟩, st154⟩ := X152.virtualBack hx (y := Y5) (z := Y5) hown (mvT hZ (tw hw 155 rfl)) (mvT hZ (tw hw 156 rfl)) (notFace_of_selects (args := #[]) (mvT hZ (tw hw 158 rfl))) (mvT hZ (tw hw 158 rfl)) (mvT hZ (tw hw 157 rfl)) (by decide) (backOf (W := 0) (rm_olp1 l Z a0 hw [] w152 T152.heap n0 Zs153 (Old.keep O0 K152 hws) F_w152_isPresent_152c) hZ (tw hw 159 rfl) (tw hw 3 rfl) (by decide) (by decide)) q154a q154c (g := (mkF m 19 #[rv th, rv w152, .unset] [(.ref w152)])) rfl (by rw [hml]; rfl) (Steps.refl _) (argsL := []) (rest := []) (lenOf pd_1 rfl) rfl (wle rfl) (hb hby d24_19) (fun _ _ => ⟨rfl, rfl, (by decide : 3 + 0 ≤ _), (by decide : 6 + 0 ≤ _)⟩)
  dsimp only [Pt.U, Pt.locs, Pt.cells, Pt.slots] at X154 l154 y154 z154 st154 hQ154
  subst l154 y154 z154
  obtain ⟨rfl, N154q, e154⟩ := hQ154
  have N154 := Fr.app N152 N154q
  refine gs T154 (mkF m 22 #[rv th, rv w152, .unset] [(.int (1 : Int32))]) (fun _ hr => st154.trans hr) ?_
  refine gs T154 (mkF m 25 #[rv th, rv w152, .unset] []) (fun _ hr => XS.ifNo X154.here hx rfl (hb hby d24_22) rfl ((if0 _ _).trans (feq (by decide : ¬ ((1 : Int32) = (0 : Int32)))).1) hr) ?_
  refine gs T154 (mkF m 26 #[rv th, rv w152, .unset] [(.ref th)]) (fun _ hr => XS.aloadN X154.here hx rfl (hb hby d24_25) rfl rfl hr) ?_
  obtain ⟨T155, X155, e155, st155⟩ := getF X154 hx hZ hown (host := "") (Or.inl (tw hw 41 rfl)) Via.refl e154 F_th_records_152 (g := (mkF m 26 #[rv th, rv w152, .unset] [(.ref th)])) rfl rfl (hb hby d24_26)
  refine gs T155 (mkF m 29 #[rv th, rv w152, .unset] [(.ref op)]) st155 ?_
  obtain ⟨f156, c156, Md156, Gz156, st156⟩ := own_siteConst X155 hx hZ (x := Y26) (pc := 29) (σ := sgP) Bd.named (tw hw 160 rfl) rfl (g := (mkF m 29 #[rv th, rv w152, .unset] [(.ref op)])) rfl rfl (by rw [hml]; rfl) (hb hby d24_29) (by show 2 * 0 + 1 + 3072 ≤ _; decide)
  refine gs T155 (mkF m 34 #[rv th, rv w152, .unset] [(.ref f156), (.ref op)]) st156 ?_
  have Zs157 : n0 ≤ T152.heap.size := Nat.le_trans Z0 K152.1
  obtain ⟨cq158, kq158, q158a, q158b, q158c⟩ := isOf hZ e155 E_op_152
  obtain ⟨_, _, ⟨T158, L158, k158, n158⟩, -, X158, ⟨Lc158, hQ158, l158, y158, z158⟩, st158⟩ := X155.virtualBack hx (y := Y25) (z := Y25) hown (mvT hZ (tw hw 162 rfl)) (mvT hZ (tw hw 163 rfl)) (notFace_of_selects (args := #[]) (mvT hZ (tw hw 165 rfl))) (mvT hZ (tw hw 165 rfl)) (mvT hZ (tw hw 164 rfl)) (by decide) (backOf (W := 0) (rm_filt0 l Z a0 hw [] op f156 rr eo c156 T152.heap n0 Zs157 (Old.keep O0 K152 hws) E_op_152 F_op_value_152 E_rr_152 F_rr_onlyMarkersLeft_152 (Gz156.ext (Old.keep O0 K152 hws).2) S_Optional_EMPTY_old E_eo_old F_eo_value_old Md156) hZ (tw hw 166 rfl) (tw hw 8 rfl) (by decide) (by decide)) q158a q158c (g := (mkF m 34 #[rv th, rv w152, .unset] [(.ref f156), (.ref op)])) rfl (by rw [hml]; rfl) (Steps.refl _) (argsL := [(.ref f156)]) (rest := []) (lenOf pd_12 rfl) rfl (wle rfl) (hb hby d24_34) (fun _ _ => ⟨rfl, e155, (by decide : 3 + 0 ≤ _), (by decide : 6 + 0 ≤ _)⟩)
  dsimp only [Pt.U, Pt.locs, Pt.cells, Pt.slots] at X158 l158 y158 z158 st158 hQ158
  subst l158 y158 z158
  obtain ⟨rfl, N158q, e158⟩ := hQ158
  have N158 := Fr.app N154 N158q
  refine gs T158 (mkF m 37 #[rv th, rv w152, .unset] [(.ref eo)]) (fun _ hr => st158.trans hr) ?_
  have Zs159 : n0 ≤ T152.heap.size := Nat.le_trans Z0 K152.1
  obtain ⟨cq160, kq160, q160a, q160b, q160c⟩ := isOf hZ e158 (E_eo_old.ext (Old.keep O0 K152 hws).2)
  obtain ⟨_, _, ⟨T160, L160, k160, n160⟩, -, X160, ⟨Lc160, hQ160, l160, y160, z160⟩, st160⟩ := X158.virtualBack hx (y := Y19) (z := Y19) hown (mvT hZ (tw hw 174 rfl)) (mvT hZ (tw hw 175 rfl)) (notFace_of_selects (args := #[]) (mvT hZ (tw hw 177 rfl))) (mvT hZ (tw hw 177 rfl)) (mvT hZ (tw hw 176 rfl)) (by decide) (backOf (W := 0) (rm_oisp0 l Z a0 hw [] eo T152.heap n0 Zs159 (Old.keep O0 K152 hws) (F_eo_value_old.ext (Old.keep O0 K152 hws).2)) hZ (tw hw 178 rfl) (tw hw 8 rfl) (by decide) (by decide)) q160a q160c (g := (mkF m 37 #[rv th, rv w152, .unset] [(.ref eo)])) rfl (by rw [hml]; rfl) (Steps.refl _) (argsL := []) (rest := []) (lenOf pd_1 rfl) rfl (wle rfl) (hb hby d24_37) (fun _ _ => ⟨rfl, e158, (by decide : 3 + 0 ≤ _), (by decide : 6 + 0 ≤ _)⟩)
  dsimp only [Pt.U, Pt.locs, Pt.cells, Pt.slots] at X160 l160 y160 z160 st160 hQ160
  subst l160 y160 z160
  obtain ⟨rfl, N160q, e160⟩ := hQ160
  have N160 := Fr.app N158 N160q
  refine gs T160 (mkF m 40 #[rv th, rv w152, .unset] [(.int (0 : Int32))]) (fun _ hr => st160.trans hr) ?_
  refine gs T160 (mkF m 51 #[rv th, rv w152, .unset] []) (fun _ hr => XS.ifYes X160.here hx rfl (pc0 := 40) (pc' := 51) rfl (hb hby d24_40) rfl ((if0 _ _).trans (teq (by decide : (0 : Int32) = (0 : Int32))).1) (by decide) (by decide) hr) ?_
  refine gs T160 (mkF m 52 #[rv th, rv w152, .unset] [(.ref w152)]) (fun _ hr => XS.aloadN X160.here hx rfl (hb hby d24_51) rfl rfl hr) ?_
  refine gs T160 (mkF m 53 #[rv th, rv w152, rv w152] []) (fun _ hr => XS.astoreN X160.here hx rfl (hb hby d24_52) rfl rfl (l' := #[rv th, rv w152, rv w152]) rfl hr) ?_
  refine gs T160 (mkF m 54 #[rv th, rv w152, rv w152] [(.ref w152)]) (fun _ hr => XS.aloadN X160.here hx rfl (hb hby d24_53) rfl rfl hr) ?_
  exact Goes.ret (v := some (.ref w152)) X160 (by decide) (by decide) (fun h => by rw [Bd.returns] at h; cases h) (by show Q_rm_lag0 Z th op rr em eo q1 q2 h0 n0 _ T160.heap _; rw [e160]; exact ⟨w152, rfl, N160, K152, sz_w152, E_w152_152c, F_w152_isPresent_152c, F_w152_value_152c⟩) (fun fs hr => retOut X160 hx Bd.returns rfl (Or.inr (Or.inr (Or.inr (Or.inr ⟨rfl, rfl, rfl⟩)))) (hb hby d24_54) hr)
theorem d25_0 : decode prog_13_method_6_code 0 = .ok (.aload_n 0, 1) := by decide +kernel
theorem d25_1 : decode prog_13_method_6_code 1 = .ok (.invokevirtual 82, 3) := by decide +kernel
theorem d25_4 : decode prog_13_method_6_code 4 = .ok (.astore_n 3, 1) := by decide +kernel
theorem d25_5 : decode prog_13_method_6_code 5 = .ok (.aload_n 3, 1) := by decide +kernel
theorem d25_6 : decode prog_13_method_6_code 6 = .ok (.invokevirtual 85, 3) := by decide +kernel
theorem d25_9 : decode prog_13_method_6_code 9 = .ok (.ifCond .eq 11, 3) := by decide +kernel
theorem d25_12 : decode prog_13_method_6_code 12 = .ok (.invokestatic 73, 3) := by decide +kernel
theorem d25_15 : decode prog_13_method_6_code 15 = .ok (.astore 4, 2) := by decide +kernel
theorem d25_17 : decode prog_13_method_6_code 17 = .ok (.goto 38, 3) := by decide +kernel
theorem d25_55 : decode prog_13_method_6_code 55 = .ok (.aload 4, 2) := by decide +kernel
theorem d25_57 : decode prog_13_method_6_code 57 = .ok (.areturn, 1) := by decide +kernel
def Q_rm_beh_gt (Z : State) (th : Addr) (rr : Addr) (em : Addr) (q1 : Int64) (q2 : Int64) (nw : Addr) (h0 : Heap) (n0 : Nat) (v : Option Value) (h : Heap) (L : List Loc) : Prop := v = some (.ref em) ∧ Fr n0 L ∧ Keep h0 h []
set_option maxRecDepth 65536 in
set_option maxHeartbeats 40000000 in
theorem rm_beh_gt (l : Launch) (Z : State) (a0 : Array Value) (hw : ∀ d ∈ tables_1, d.before a0 Z = true) (ws : List Jvm.Cond) (th : Addr) (rr : Addr) (em : Addr) (q1 : Int64) (q2 : Int64) (nw : Addr) (h0 : Heap) (n0 : Nat) (Z0 : n0 ≤ h0.size) (O0 : Old Z n0 h0) (E_th : Exa Z h0 th cPL) (F_th_offset : Fld Z h0 th cPL "offset" "J" (.long q1)) (F_th_end : Fld Z h0 th cPL "end" "J" (.long q2)) (S_OptionalLong_EMPTY_old : Sta Z Z.heap cOL "EMPTY" dOL (.ref em)) (E_em_old : Exa Z Z.heap em cOL) (F_em_isPresent_old : Fld Z Z.heap em cOL nIP "Z" (.int (0 : Int32))) (F_em_value_old : Fld Z Z.heap em cOL "value" "J" (.long (0 : Int64))) (hgt : (0 : Int32) < (XT.cmpL q1 q2)) :
    MetFree l Y27 (head1 (Cond.code Y27 prog_13_method_6_code 5 (some (.object cOL)) :: ws) r10) (fun a U => a = #[(.ref th), (.ref rr), (.ref nw)] ∧ Z.Warmed39 U.vm ∧ U.heap = h0) (fun _ _ _ _ _ => True) (fun _ U o U' => ∃ v L, o = .returned v ∧ Q_rm_beh_gt Z th rr em q1 q2 nw h0 n0 v U'.heap L ∧ FrameEnd U o U' L r10.cells r10.slots) := by
  refine MetFree.of_bodySF (plainFor_of_name pn_com_example_log_lag_gauge_loglaggauge_model_PositionLag) hisR ?_
  intro p e s m args below meth c s₁ Bd hml0 hP hK
  obtain ⟨rfl, hZ, hh⟩ := hP
  have hx := Bd.exec
  have hby := Bd.bytes
  have hml : c.maxLocals = 5 := hml0
  have hown : s.vm.findClass cPL = some m.cls := findClass_of_methodNamed Bd.named
  have hnm := (name_of_methodNamed Bd.named Bd.method).1
  have X0 : Stand p l e r10 s m #[(.ref th), (.ref rr), (.ref nw)] below meth c s₁ [] 0 0 := Stand.of_body Bd
  have e0 : s₁.heap = h0 := by rw [← hh, Bd.state]; rfl
  have N0 := Fr.nil n0
  refine Goes.out (l := l) (c := c) (R := r10) (Q := Q_rm_beh_gt Z th rr em q1 q2 nw h0 n0) Bd.notSynchronized ?_
  refine Goes.cast (g2 := mkF m 0 #[rv th, rv rr, rv nw, .unset, .unset] []) (by first | (simp [entryFrame, mkF, argsToLocals, Value.category]; done) | rfl) ?_
  have K0 : Keep h0 h0 [] := Keep.refl h0 _
  have hws : ∀ x ∈ ([] : List Addr), n0 ≤ x := all0
  refine gs s₁ (mkF m 1 #[rv th, rv rr, rv nw, .unset, .unset] [(.ref th)]) (fun _ hr => XS.aloadN X0.here hx rfl (hb hby d25_0) rfl rfl hr) ?_
  have Zs161 : n0 ≤ h0.size := Nat.le_trans Z0 K0.1
  obtain ⟨cq162, kq162, q162a, q162b, q162c⟩ := isOf hZ e0 E_th
  obtain ⟨_, _, ⟨T162, L162, k162, n162⟩, -, X162, ⟨Lc162, hQ162, l162, y162, z162⟩, st162⟩ := X0.virtualBack hx (y := Y26) (z := Y26) hown (mvT hZ (tw hw 139 rfl)) (mvT hZ (tw hw 140 rfl)) (notFace_of_selects (args := #[]) (mvT hZ (tw hw 142 rfl))) (mvT hZ (tw hw 142 rfl)) (mvT hZ (tw hw 141 rfl)) (by decide) (backOf (W := 0) (rm_laggt l Z a0 hw [] th em q1 q2 h0 n0 Zs161 (Old.keep O0 K0 hws) E_th F_th_offset F_th_end S_OptionalLong_EMPTY_old E_em_old F_em_isPresent_old F_em_value_old hgt) hZ (tw hw 143 rfl) (tw hw 13 rfl) (by decide) (by decide)) q162a q162c (g := (mkF m 1 #[rv th, rv rr, rv nw, .unset, .unset] [(.ref th)])) rfl (by rw [hml]; rfl) (Steps.refl _) (argsL := []) (rest := []) (lenOf pd_6 rfl) rfl (wle rfl) (hb hby d25_1) (fun _ _ => ⟨rfl, e0, (by decide : 0 + 2 ≤ _), (by decide : 0 + 4 ≤ _)⟩)
  dsimp only [Pt.U, Pt.locs, Pt.cells, Pt.slots] at X162 l162 y162 z162 st162 hQ162
  subst l162 y162 z162
  obtain ⟨rfl, N162q, Kc162⟩ := hQ162
  have N162 := Fr.app N0 N162q
  have K162 : Keep h0 T162.heap [] := K0.trans Kc162 all0
  refine gs T162 (mkF m 4 #[rv th, rv rr, rv nw, .unset, .unset] [(.ref em)]) (fun _ hr => st162.trans hr) ?_
  refine gs T162 (mkF m 5 #[rv th, rv rr, rv nw, rv em, .unset] []) (fun _ hr => XS.astoreN X162.here hx rfl (hb hby d25_4) rfl rfl (l' := #[rv th, rv rr, rv nw, rv em, .unset]) rfl hr) ?_
  refine gs T162 (mkF m 6 #[rv th, rv rr, rv nw, rv em, .unset] [(.ref em)]) (fun _ hr => XS.aloadN X162.here hx rfl (hb hby d25_5) rfl rfl hr) ?_
  have Zs163 : n0 ≤ T162.heap.size := Nat.le_trans Z0 K162.1
  obtain ⟨cq164, kq164, q164a, q164b, q164c⟩ := isOf hZ rfl (E_em_old.ext (Old.keep O0 K162 hws).2)
  obtain ⟨_, _, ⟨T164, L164, k164, n164⟩, -, X164, ⟨Lc164, hQ164, l164, y164, z164⟩, st164⟩ := X162.virtualBack hx (y := Y6) (z := Y6) hown (mvT hZ (tw hw 179 rfl)) (mvT hZ (tw hw 77 rfl)) (notFace_of_selects (args := #[]) (mvT hZ (tw hw 79 rfl))) (mvT hZ (tw hw 79 rfl)) (mvT hZ (tw hw 78 rfl)) (by decide) (backOf (W := 0) (rm_ole0 l Z a0 hw [] em T162.heap n0 Zs163 (Old.keep O0 K162 hws) (F_em_isPresent_old.ext (Old.keep O0 K162 hws).2)) hZ (tw hw 80 rfl) (tw hw 3 rfl) (by decide) (by decide)) q164a q164c (g := (mkF m 6 #[rv th, rv rr, rv nw, rv em, .unset] [(.ref em)])) rfl (by rw [hml]; rfl) (Steps.refl _) (argsL := []) (rest := []) (lenOf pd_1 rfl) rfl (wle rfl) (hb hby d25_6) (fun _ _ => ⟨rfl, rfl, (by decide : 2 + 0 ≤ _), (by decide : 4 + 0 ≤ _)⟩)
  dsimp only [Pt.U, Pt.locs, Pt.cells, Pt.slots] at X164 l164 y164 z164 st164 hQ164
  subst l164 y164 z164
  obtain ⟨rfl, N164q, e164⟩ := hQ164
  have N164 := Fr.app N162 N164q
  refine gs T164 (mkF m 9 #[rv th, rv rr, rv nw, rv em, .unset] [(.int (1 : Int32))]) (fun _ hr => st164.trans hr) ?_
  refine gs T164 (mkF m 12 #[rv th, rv rr, rv nw, rv em, .unset] []) (fun _ hr => XS.ifNo X164.here hx rfl (hb hby d25_9) rfl ((if0 _ _).trans (feq (by decide : ¬ ((1 : Int32) = (0 : Int32)))).1) hr) ?_
  have Zs165 : n0 ≤ T162.heap.size := Nat.le_trans Z0 K162.1
  obtain ⟨_, _, ⟨T166, L166, k166, n166⟩, -, X166, ⟨Lc166, hQ166, l166, y166, z166⟩, st166⟩ := LawKit.callS X164 hx (y := Y4) hown (mvT hZ (tw hw 68 rfl)) (mvT hZ (tw hw 2 rfl)) (mvT hZ (tw hw 3 rfl)) (mvT hZ (tw hw 4 rfl)) (by decide) (backOf (W := 0) (rm_olem l Z a0 hw [] em T162.heap n0 Zs165 (Old.keep O0 K162 hws) S_OptionalLong_EMPTY_old) hZ (tw hw 4 rfl) (tw hw 3 rfl) (by decide) (by decide)) (g := (mkF m 12 #[rv th, rv rr, rv nw, rv em, .unset] [])) rfl (by rw [hml]; rfl) (argsL := []) (rest := []) (lenOf pd_6 rfl) rfl (wle rfl) (hb hby d25_12) (fun _ _ => ⟨rfl, e164, (by decide : 2 + 0 ≤ _), (by decide : 4 + 0 ≤ _)⟩)
  dsimp only [Pt.U, Pt.locs, Pt.cells, Pt.slots] at X166 l166 y166 z166 st166 hQ166
  subst l166 y166 z166
  obtain ⟨rfl, N166q, e166⟩ := hQ166
  have N166 := Fr.app N164 N166q
  refine gs T166 (mkF m 15 #[rv th, rv rr, rv nw, rv em, .unset] [(.ref em)]) st166 ?_
  refine gs T166 (mkF m 17 #[rv th, rv rr, rv nw, rv em, rv em] []) (fun _ hr => XS.astore X166.here hx rfl (hb hby d25_15) rfl rfl (l' := #[rv th, rv rr, rv nw, rv em, rv em]) rfl hr) ?_
  refine gs T166 (mkF m 55 #[rv th, rv rr, rv nw, rv em, rv em] []) (fun _ hr => XS.goto X166.here hx rfl (pc0 := 17) (pc' := 55) rfl (hb hby d25_17) (by decide) (by decide) hr) ?_
  refine gs T166 (mkF m 57 #[rv th, rv rr, rv nw, rv em, rv em] [(.ref em)]) (fun _ hr => XS.aload X166.here hx rfl (hb hby d25_55) rfl rfl hr) ?_
  exact Goes.ret (v := some (.ref em)) X166 (by decide) (by decide) (fun h => by rw [Bd.returns] at h; cases h) (by show Q_rm_beh_gt Z th rr em q1 q2 nw h0 n0 _ T166.heap _; rw [e166]; exact ⟨rfl, N166, K162⟩) (fun fs hr => retOut X166 hx Bd.returns rfl (Or.inr (Or.inr (Or.inr (Or.inr ⟨rfl, rfl, rfl⟩)))) (hb hby d25_57) hr)
theorem d25_20 : decode prog_13_method_6_code 20 = .ok (.aload_n 3, 1) := by decide +kernel
theorem d25_21 : decode prog_13_method_6_code 21 = .ok (.invokevirtual 88, 3) := by decide +kernel
theorem d25_24 : decode prog_13_method_6_code 24 = .ok (.lconst 0, 1) := by decide +kernel
theorem d25_25 : decode prog_13_method_6_code 25 = .ok (.lcmp, 1) := by decide +kernel
theorem d25_26 : decode prog_13_method_6_code 26 = .ok (.ifCond .le 23, 3) := by decide +kernel
theorem d25_49 : decode prog_13_method_6_code 49 = .ok (.lconst 0, 1) := by decide +kernel
theorem d25_50 : decode prog_13_method_6_code 50 = .ok (.invokestatic 41, 3) := by decide +kernel
theorem d25_53 : decode prog_13_method_6_code 53 = .ok (.astore 4, 2) := by decide +kernel
def Q_rm_beh_z1 (Z : State) (th : Addr) (rr : Addr) (em : Addr) (q1 : Int64) (q2 : Int64) (op : Addr) (eo : Addr) (nw : Addr) (h0 : Heap) (n0 : Nat) (v : Option Value) (h : Heap) (L : List Loc) : Prop := ∃ w : Addr, v = some (.ref w) ∧ Fr n0 L ∧ Keep h0 h [] ∧ h0.size ≤ w ∧ Exa Z h w cOL ∧ Fld Z h w cOL nIP "Z" (.int (1 : Int32)) ∧ Fld Z h w cOL "value" "J" (.long (0 : Int64))
set_option maxRecDepth 65536 in
set_option maxHeartbeats 40000000 in
theorem rm_beh_z1 (l : Launch) (Z : State) (a0 : Array Value) (hw : ∀ d ∈ tables_1, d.before a0 Z = true) (ws : List Jvm.Cond) (th : Addr) (rr : Addr) (em : Addr) (q1 : Int64) (q2 : Int64) (op : Addr) (eo : Addr) (nw : Addr) (h0 : Heap) (n0 : Nat) (Z0 : n0 ≤ h0.size) (O0 : Old Z n0 h0) (E_th : Exa Z h0 th cPL) (F_th_offset : Fld Z h0 th cPL "offset" "J" (.long q1)) (F_th_end : Fld Z h0 th cPL "end" "J" (.long q2)) (F_th_records : Fld Z h0 th cPL "records" dOP (.ref op)) (E_op : Exa Z h0 op cOP) (F_op_value : Fld Z h0 op cOP "value" dOB (.ref rr)) (E_rr : Exa Z h0 rr cRR) (F_rr_onlyMarkersLeft : Fld Z h0 rr cRR nOM "Z" (.int (1 : Int32))) (S_OptionalLong_EMPTY_old : Sta Z Z.heap cOL "EMPTY" dOL (.ref em)) (E_em_old : Exa Z Z.heap em cOL) (F_em_isPresent_old : Fld Z Z.heap em cOL nIP "Z" (.int (0 : Int32))) (F_em_value_old : Fld Z Z.heap em cOL "value" "J" (.long (0 : Int64))) (S_Optional_EMPTY_old : Sta Z Z.heap cOP "EMPTY" dOP (.ref eo)) (E_eo_old : Exa Z Z.heap eo cOP) (F_eo_value_old : Fld Z Z.heap eo cOP "value" dOB .null) (hle : ¬ ((0 : Int32) < (XT.cmpL q1 q2))) :
    MetFree l Y27 (head1 (Cond.code Y27 prog_13_method_6_code 5 (some (.object cOL)) :: ws) r11) (fun a U => a = #[(.ref th), (.ref rr), (.ref nw)] ∧ Z.Warmed39 U.vm ∧ U.heap = h0) (fun _ _ _ _ _ => True) (fun _ U o U' => ∃ v L, o = .returned v ∧ Q_rm_beh_z1 Z th rr em q1 q2 op eo nw h0 n0 v U'.heap L ∧ FrameEnd U o U' L r11.cells r11.slots) := by
  refine MetFree.of_bodySF (plainFor_of_name pn_com_example_log_lag_gauge_loglaggauge_model_PositionLag) hisR ?_
  intro p e s m args below meth c s₁ Bd hml0 hP hK
  obtain ⟨rfl, hZ, hh⟩ := hP
  have hx := Bd.exec
  have hby := Bd.bytes
  have hml : c.maxLocals = 5 := hml0
  have hown : s.vm.findClass cPL = some m.cls := findClass_of_methodNamed Bd.named
  have hnm := (name_of_methodNamed Bd.named Bd.method).1
  have X0 : Stand p l e r11 s m #[(.ref th), (.ref rr), (.ref nw)] below meth c s₁ [] 0 0 := Stand.of_body Bd
  have e0 : s₁.heap = h0 := by rw [← hh, Bd.state]; rfl
  have N0 := Fr.nil n0
  refine Goes.out (l := l) (c := c) (R := r11) (Q := Q_rm_beh_z1 Z th rr em q1 q2 op eo nw h0 n0) Bd.notSynchronized ?_
  refine Goes.cast (g2 := mkF m 0 #[rv th, rv rr, rv nw, .unset, .unset] []) (by first | (simp [entryFrame, mkF, argsToLocals, Value.category]; done) | rfl) ?_
  have K0 : Keep h0 h0 [] := Keep.refl h0 _
  have hws : ∀ x ∈ ([] : List Addr), n0 ≤ x := all0
  refine gs s₁ (mkF m 1 #[rv th, rv rr, rv nw, .unset, .unset] [(.ref th)]) (fun _ hr => XS.aloadN X0.here hx rfl (hb hby d25_0) rfl rfl hr) ?_
  have Zs167 : n0 ≤ h0.size := Nat.le_trans Z0 K0.1
  obtain ⟨cq168, kq168, q168a, q168b, q168c⟩ := isOf hZ e0 E_th
  obtain ⟨_, _, ⟨T168, L168, k168, n168⟩, -, X168, ⟨Lc168, hQ168, l168, y168, z168⟩, st168⟩ := X0.virtualBack hx (y := Y26) (z := Y26) hown (mvT hZ (tw hw 139 rfl)) (mvT hZ (tw hw 140 rfl)) (notFace_of_selects (args := #[]) (mvT hZ (tw hw 142 rfl))) (mvT hZ (tw hw 142 rfl)) (mvT hZ (tw hw 141 rfl)) (by decide) (backOf (W := 0) (rm_lag1 l Z a0 hw [] th op rr em eo q1 q2 h0 n0 Zs167 (Old.keep O0 K0 hws) E_th F_th_offset F_th_end F_th_records E_op F_op_value E_rr F_rr_onlyMarkersLeft S_OptionalLong_EMPTY_old E_em_old F_em_isPresent_old F_em_value_old S_Optional_EMPTY_old E_eo_old F_eo_value_old hle) hZ (tw hw 143 rfl) (tw hw 13 rfl) (by decide) (by decide)) q168a q168c (g := (mkF m 1 #[rv th, rv rr, rv nw, .unset, .unset] [(.ref th)])) rfl (by rw [hml]; rfl) (Steps.refl _) (argsL := []) (rest := []) (lenOf pd_6 rfl) rfl (wle rfl) (hb hby d25_1) (fun _ _ => ⟨rfl, e0, (by decide : 0 + 4 ≤ _), (by decide : 0 + 8 ≤ _)⟩)
  dsimp only [Pt.U, Pt.locs, Pt.cells, Pt.slots] at X168 l168 y168 z168 st168 hQ168
  subst l168 y168 z168
  obtain ⟨w168, rfl, N168q, Kc168, P168_0, P168_1, P168_2, P168_3⟩ := hQ168
  have N168 := Fr.app N0 N168q
  have K168 : Keep h0 T168.heap [] := K0.trans Kc168 all0
  have E_w168_168c : Exa Z T168.heap w168 cOL := P168_1
  have F_w168_isPresent_168c : Fld Z T168.heap w168 cOL nIP "Z" (.int (1 : Int32)) := P168_2
  have F_w168_value_168c : Fld Z T168.heap w168 cOL "value" "J" (.long (0 : Int64)) := P168_3
  refine gs T168 (mkF m 4 #[rv th, rv rr, rv nw, .unset, .unset] [(.ref w168)]) (fun _ hr => st168.trans hr) ?_
  refine gs T168 (mkF m 5 #[rv th, rv rr, rv nw, rv w168, .unset] []) (fun _ hr => XS.astoreN X168.here hx rfl (hb hby d25_4) rfl rfl (l' := #[rv th, rv rr, rv nw, rv w168, .unset]) rfl hr) ?_
  refine gs T168 (mkF m 6 #[rv th, rv rr, rv nw, rv w168, .unset] [(.ref w168)]) (fun _ hr => XS.aloadN X168.here hx rfl (hb hby d25_5) rfl rfl hr) ?_
  have Zs169 : n0 ≤ T168.heap.size := Nat.le_trans Z0 K168.1
  obtain ⟨cq170, kq170, q170a, q170b, q170c⟩ := isOf hZ rfl E_w168_168c
  obtain ⟨_, _, ⟨T170, L170, k170, n170⟩, -, X170, ⟨Lc170, hQ170, l170, y170, z170⟩, st170⟩ := X168.virtualBack hx (y := Y6) (z := Y6) hown (mvT hZ (tw hw 179 rfl)) (mvT hZ (tw hw 77 rfl)) (notFace_of_selects (args := #[]) (mvT hZ (tw hw 79 rfl))) (mvT hZ (tw hw 79 rfl)) (mvT hZ (tw hw 78 rfl)) (by decide) (backOf (W := 0) (rm_ole1 l Z a0 hw [] w168 T168.heap n0 Zs169 (Old.keep O0 K168 hws) F_w168_isPresent_168c) hZ (tw hw 80 rfl) (tw hw 3 rfl) (by decide) (by decide)) q170a q170c (g := (mkF m 6 #[rv th, rv rr, rv nw, rv w168, .unset] [(.ref w168)])) rfl (by rw [hml]; rfl) (Steps.refl _) (argsL := []) (rest := []) (lenOf pd_1 rfl) rfl (wle rfl) (hb hby d25_6) (fun _ _ => ⟨rfl, rfl, (by decide : 4 + 0 ≤ _), (by decide : 8 + 0 ≤ _)⟩)
  dsimp only [Pt.U, Pt.locs, Pt.cells, Pt.slots] at X170 l170 y170 z170 st170 hQ170
  subst l170 y170 z170
  obtain ⟨rfl, N170q, e170⟩ := hQ170
  have N170 := Fr.app N168 N170q
  refine gs T170 (mkF m 9 #[rv th, rv rr, rv nw, rv w168, .unset] [(.int (0 : Int32))]) (fun _ hr => st170.trans hr) ?_
  refine gs T170 (mkF m 20 #[rv th, rv rr, rv nw, rv w168, .unset] []) (fun _ hr => XS.ifYes X170.here hx rfl (pc0 := 9) (pc' := 20) rfl (hb hby d25_9) rfl ((if0 _ _).trans (teq (by decide : (0 : Int32) = (0 : Int32))).1) (by decide) (by decide) hr) ?_
  refine gs T170 (mkF m 21 #[rv th, rv rr, rv nw, rv w168, .unset] [(.ref w168)]) (fun _ hr => XS.aloadN X170.here hx rfl (hb hby d25_20) rfl rfl hr) ?_
  have Zs171 : n0 ≤ T168.heap.size := Nat.le_trans Z0 K168.1
  obtain ⟨cq172, kq172, q172a, q172b, q172c⟩ := isOf hZ e170 E_w168_168c
  obtain ⟨_, _, ⟨T172, L172, k172, n172⟩, -, X172, ⟨Lc172, hQ172, l172, y172, z172⟩, st172⟩ := X170.virtualBack hx (y := Y7) (z := Y7) hown (mvT hZ (tw hw 180 rfl)) (mvT hZ (tw hw 150 rfl)) (notFace_of_selects (args := #[]) (mvT hZ (tw hw 152 rfl))) (mvT hZ (tw hw 152 rfl)) (mvT hZ (tw hw 151 rfl)) (by decide) (backOf (W := 0) (rm_olg l Z a0 hw [] w168 (0 : Int64) T168.heap n0 Zs171 (Old.keep O0 K168 hws) F_w168_isPresent_168c F_w168_value_168c) hZ (tw hw 153 rfl) (tw hw 3 rfl) (by decide) (by decide)) q172a q172c (g := (mkF m 21 #[rv th, rv rr, rv nw, rv w168, .unset] [(.ref w168)])) rfl (by rw [hml]; rfl) (Steps.refl _) (argsL := []) (rest := []) (lenOf pd_5 rfl) rfl (wle rfl) (hb hby d25_21) (fun _ _ => ⟨rfl, e170, (by decide : 4 + 0 ≤ _), (by decide : 8 + 0 ≤ _)⟩)
  dsimp only [Pt.U, Pt.locs, Pt.cells, Pt.slots] at X172 l172 y172 z172 st172 hQ172
  subst l172 y172 z172
  obtain ⟨rfl, N172q, e172⟩ := hQ172
  have N172 := Fr.app N170 N172q
  refine gs T172 (mkF m 24 #[rv th, rv rr, rv nw, rv w168, .unset] [(.long (0 : Int64))]) (fun _ hr => st172.trans hr) ?_
  refine gs T172 (mkF m 25 #[rv th, rv rr, rv nw, rv w168, .unset] [(.long (0 : Int64)), (.long (0 : Int64))]) (fun _ hr => XT.lconst X172.here hx rfl (hb hby d25_24) hr) ?_
  refine gs T172 (mkF m 26 #[rv th, rv rr, rv nw, rv w168, .unset] [(.int (XT.cmpL (0 : Int64) (0 : Int64)))]) (fun _ hr => XT.lcmp X172.here hx rfl (hb hby d25_25) rfl hr) ?_
  rw [cmpL_self]
  refine gs T172 (mkF m 49 #[rv th, rv rr, rv nw, rv w168, .unset] []) (fun _ hr => XS.ifYes X172.here hx rfl (pc0 := 26) (pc' := 49) rfl (hb hby d25_26) rfl ((if0 _ _).trans (flt (by decide : ¬ ((0 : Int32) < (0 : Int32)))).2.2.2) (by decide) (by decide) hr) ?_
  refine gs T172 (mkF m 50 #[rv th, rv rr, rv nw, rv w168, .unset] [(.long (0 : Int64))]) (fun _ hr => XT.lconst X172.here hx rfl (hb hby d25_49) hr) ?_
  have Zs173 : n0 ≤ T168.heap.size := Nat.le_trans Z0 K168.1
  obtain ⟨_, _, ⟨T174, L174, k174, n174⟩, -, X174, ⟨Lc174, hQ174, l174, y174, z174⟩, st174⟩ := LawKit.callS X172 hx (y := Y3) hown (mvT hZ (tw hw 134 rfl)) (mvT hZ (tw hw 84 rfl)) (mvT hZ (tw hw 3 rfl)) (mvT hZ (tw hw 85 rfl)) (by decide) (backOf (W := 0) (rm_olof l Z a0 hw [] (0 : Int64) T168.heap n0 Zs173 (Old.keep O0 K168 hws)) hZ (tw hw 85 rfl) (tw hw 3 rfl) (by decide) (by decide)) (g := (mkF m 50 #[rv th, rv rr, rv nw, rv w168, .unset] [(.long (0 : Int64))])) rfl (by rw [hml]; rfl) (argsL := [(.long (0 : Int64))]) (rest := []) (lenOf pd_7 rfl) rfl (wle rfl) (hb hby d25_50) (fun _ _ => ⟨rfl, e172, (by decide : 4 + 1 ≤ _), (by decide : 8 + 2 ≤ _)⟩)
  dsimp only [Pt.U, Pt.locs, Pt.cells, Pt.slots] at X174 l174 y174 z174 st174 hQ174
  subst l174 y174 z174
  obtain ⟨w174, rfl, N174q, Kc174, P174_0, P174_1, P174_2, P174_3⟩ := hQ174
  have N174 := Fr.app N172 N174q
  have K174 : Keep h0 T174.heap [] := K168.trans Kc174 all0
  have sz_w174 : h0.size ≤ w174 := Nat.le_trans K168.1 P174_0
  have E_w174_174c : Exa Z T174.heap w174 cOL := P174_1
  have F_w174_isPresent_174c : Fld Z T174.heap w174 cOL nIP "Z" (.int (1 : Int32)) := P174_2
  have F_w174_value_174c : Fld Z T174.heap w174 cOL "value" "J" (.long (0 : Int64)) := P174_3
  refine gs T174 (mkF m 53 #[rv th, rv rr, rv nw, rv w168, .unset] [(.ref w174)]) st174 ?_
  refine gs T174 (mkF m 55 #[rv th, rv rr, rv nw, rv w168, rv w174] []) (fun _ hr => XS.astore X174.here hx rfl (hb hby d25_53) rfl rfl (l' := #[rv th, rv rr, rv nw, rv w168, rv w174]) rfl hr) ?_
  refine gs T174 (mkF m 57 #[rv th, rv rr, rv nw, rv w168, rv w174] [(.ref w174)]) (fun _ hr => XS.aload X174.here hx rfl (hb hby d25_55) rfl rfl hr) ?_
  exact Goes.ret (v := some (.ref w174)) X174 (by decide) (by decide) (fun h => by rw [Bd.returns] at h; cases h) (by show Q_rm_beh_z1 Z th rr em q1 q2 op eo nw h0 n0 _ T174.heap _; exact ⟨w174, rfl, N174, K174, sz_w174, E_w174_174c, F_w174_isPresent_174c, F_w174_value_174c⟩) (fun fs hr => retOut X174 hx Bd.returns rfl (Or.inr (Or.inr (Or.inr (Or.inr ⟨rfl, rfl, rfl⟩)))) (hb hby d25_57) hr)
def Q_rm_beh_z0 (Z : State) (th : Addr) (rr : Addr) (em : Addr) (q1 : Int64) (q2 : Int64) (op : Addr) (eo : Addr) (nw : Addr) (h0 : Heap) (n0 : Nat) (v : Option Value) (h : Heap) (L : List Loc) : Prop := ∃ w : Addr, v = some (.ref w) ∧ Fr n0 L ∧ Keep h0 h [] ∧ h0.size ≤ w ∧ Exa Z h w cOL ∧ Fld Z h w cOL nIP "Z" (.int (1 : Int32)) ∧ Fld Z h w cOL "value" "J" (.long (0 : Int64))
set_option maxRecDepth 65536 in
set_option maxHeartbeats 40000000 in
theorem rm_beh_z0 (l : Launch) (Z : State) (a0 : Array Value) (hw : ∀ d ∈ tables_1, d.before a0 Z = true) (ws : List Jvm.Cond) (th : Addr) (rr : Addr) (em : Addr) (q1 : Int64) (q2 : Int64) (op : Addr) (eo : Addr) (nw : Addr) (h0 : Heap) (n0 : Nat) (Z0 : n0 ≤ h0.size) (O0 : Old Z n0 h0) (E_th : Exa Z h0 th cPL) (F_th_offset : Fld Z h0 th cPL "offset" "J" (.long q1)) (F_th_end : Fld Z h0 th cPL "end" "J" (.long q2)) (F_th_records : Fld Z h0 th cPL "records" dOP (.ref op)) (E_op : Exa Z h0 op cOP) (F_op_value : Fld Z h0 op cOP "value" dOB (.ref rr)) (E_rr : Exa Z h0 rr cRR) (F_rr_onlyMarkersLeft : Fld Z h0 rr cRR nOM "Z" (.int (0 : Int32))) (S_OptionalLong_EMPTY_old : Sta Z Z.heap cOL "EMPTY" dOL (.ref em)) (E_em_old : Exa Z Z.heap em cOL) (F_em_isPresent_old : Fld Z Z.heap em cOL nIP "Z" (.int (0 : Int32))) (F_em_value_old : Fld Z Z.heap em cOL "value" "J" (.long (0 : Int64))) (S_Optional_EMPTY_old : Sta Z Z.heap cOP "EMPTY" dOP (.ref eo)) (E_eo_old : Exa Z Z.heap eo cOP) (F_eo_value_old : Fld Z Z.heap eo cOP "value" dOB .null) (hle : ¬ ((0 : Int32) < (XT.cmpL q1 q2))) (hzz : ¬ ((0 : Int32) < (XT.cmpL (q2 - q1) (0 : Int64)))) :
    MetFree l Y27 (head1 (Cond.code Y27 prog_13_method_6_code 5 (some (.object cOL)) :: ws) r12) (fun a U => a = #[(.ref th), (.ref rr), (.ref nw)] ∧ Z.Warmed39 U.vm ∧ U.heap = h0) (fun _ _ _ _ _ => True) (fun _ U o U' => ∃ v L, o = .returned v ∧ Q_rm_beh_z0 Z th rr em q1 q2 op eo nw h0 n0 v U'.heap L ∧ FrameEnd U o U' L r12.cells r12.slots) := by
  refine MetFree.of_bodySF (plainFor_of_name pn_com_example_log_lag_gauge_loglaggauge_model_PositionLag) hisR ?_
  intro p e s m args below meth c s₁ Bd hml0 hP hK
  obtain ⟨rfl, hZ, hh⟩ := hP
  have hx := Bd.exec
  have hby := Bd.bytes
  have hml : c.maxLocals = 5 := hml0
  have hown : s.vm.findClass cPL = some m.cls := findClass_of_methodNamed Bd.named
  have hnm := (name_of_methodNamed Bd.named Bd.method).1
  have X0 : Stand p l e r12 s m #[(.ref th), (.ref rr), (.ref nw)] below meth c s₁ [] 0 0 := Stand.of_body Bd
  have e0 : s₁.heap = h0 := by rw [← hh, Bd.state]; rfl
  have N0 := Fr.nil n0
  refine Goes.out (l := l) (c := c) (R := r12) (Q := Q_rm_beh_z0 Z th rr em q1 q2 op eo nw h0 n0) Bd.notSynchronized ?_
  refine Goes.cast (g2 := mkF m 0 #[rv th, rv rr, rv nw, .unset, .unset] []) (by first | (simp [entryFrame, mkF, argsToLocals, Value.category]; done) | rfl) ?_
  have K0 : Keep h0 h0 [] := Keep.refl h0 _
  have hws : ∀ x ∈ ([] : List Addr), n0 ≤ x := all0
  refine gs s₁ (mkF m 1 #[rv th, rv rr, rv nw, .unset, .unset] [(.ref th)]) (fun _ hr => XS.aloadN X0.here hx rfl (hb hby d25_0) rfl rfl hr) ?_
  have Zs175 : n0 ≤ h0.size := Nat.le_trans Z0 K0.1
  obtain ⟨cq176, kq176, q176a, q176b, q176c⟩ := isOf hZ e0 E_th
  obtain ⟨_, _, ⟨T176, L176, k176, n176⟩, -, X176, ⟨Lc176, hQ176, l176, y176, z176⟩, st176⟩ := X0.virtualBack hx (y := Y26) (z := Y26) hown (mvT hZ (tw hw 139 rfl)) (mvT hZ (tw hw 140 rfl)) (notFace_of_selects (args := #[]) (mvT hZ (tw hw 142 rfl))) (mvT hZ (tw hw 142 rfl)) (mvT hZ (tw hw 141 rfl)) (by decide) (backOf (W := 0) (rm_lag0 l Z a0 hw [] th op rr em eo q1 q2 h0 n0 Zs175 (Old.keep O0 K0 hws) E_th F_th_offset F_th_end F_th_records E_op F_op_value E_rr F_rr_onlyMarkersLeft S_OptionalLong_EMPTY_old E_em_old F_em_isPresent_old F_em_value_old S_Optional_EMPTY_old E_eo_old F_eo_value_old hle) hZ (tw hw 143 rfl) (tw hw 13 rfl) (by decide) (by decide)) q176a q176c (g := (mkF m 1 #[rv th, rv rr, rv nw, .unset, .unset] [(.ref th)])) rfl (by rw [hml]; rfl) (Steps.refl _) (argsL := []) (rest := []) (lenOf pd_6 rfl) rfl (wle rfl) (hb hby d25_1) (fun _ _ => ⟨rfl, e0, (by decide : 0 + 3 ≤ _), (by decide : 0 + 6 ≤ _)⟩)
  dsimp only [Pt.U, Pt.locs, Pt.cells, Pt.slots] at X176 l176 y176 z176 st176 hQ176
  subst l176 y176 z176
  obtain ⟨w176, rfl, N176q, Kc176, P176_0, P176_1, P176_2, P176_3⟩ := hQ176
  have N176 := Fr.app N0 N176q
  have K176 : Keep h0 T176.heap [] := K0.trans Kc176 all0
  have E_w176_176c : Exa Z T176.heap w176 cOL := P176_1
  have F_w176_isPresent_176c : Fld Z T176.heap w176 cOL nIP "Z" (.int (1 : Int32)) := P176_2
  have F_w176_value_176c : Fld Z T176.heap w176 cOL "value" "J" (.long (q2 - q1)) := P176_3
  refine gs T176 (mkF m 4 #[rv th, rv rr, rv nw, .unset, .unset] [(.ref w176)]) (fun _ hr => st176.trans hr) ?_
  refine gs T176 (mkF m 5 #[rv th, rv rr, rv nw, rv w176, .unset] []) (fun _ hr => XS.astoreN X176.here hx rfl (hb hby d25_4) rfl rfl (l' := #[rv th, rv rr, rv nw, rv w176, .unset]) rfl hr) ?_
  refine gs T176 (mkF m 6 #[rv th, rv rr, rv nw, rv w176, .unset] [(.ref w176)]) (fun _ hr => XS.aloadN X176.here hx rfl (hb hby d25_5) rfl rfl hr) ?_
  have Zs177 : n0 ≤ T176.heap.size := Nat.le_trans Z0 K176.1
  obtain ⟨cq178, kq178, q178a, q178b, q178c⟩ := isOf hZ rfl E_w176_176c
  obtain ⟨_, _, ⟨T178, L178, k178, n178⟩, -, X178, ⟨Lc178, hQ178, l178, y178, z178⟩, st178⟩ := X176.virtualBack hx (y := Y6) (z := Y6) hown (mvT hZ (tw hw 179 rfl)) (mvT hZ (tw hw 77 rfl)) (notFace_of_selects (args := #[]) (mvT hZ (tw hw 79 rfl))) (mvT hZ (tw hw 79 rfl)) (mvT hZ (tw hw 78 rfl)) (by decide) (backOf (W := 0) (rm_ole1 l Z a0 hw [] w176 T176.heap n0 Zs177 (Old.keep O0 K176 hws) F_w176_isPresent_176c) hZ (tw hw 80 rfl) (tw hw 3 rfl) (by decide) (by decide)) q178a q178c (g := (mkF m 6 #[rv th, rv rr, rv nw, rv w176, .unset] [(.ref w176)])) rfl (by rw [hml]; rfl) (Steps.refl _) (argsL := []) (rest := []) (lenOf pd_1 rfl) rfl (wle rfl) (hb hby d25_6) (fun _ _ => ⟨rfl, rfl, (by decide : 3 + 0 ≤ _), (by decide : 6 + 0 ≤ _)⟩)
  dsimp only [Pt.U, Pt.locs, Pt.cells, Pt.slots] at X178 l178 y178 z178 st178 hQ178
  subst l178 y178 z178
  obtain ⟨rfl, N178q, e178⟩ := hQ178
  have N178 := Fr.app N176 N178q
  refine gs T178 (mkF m 9 #[rv th, rv rr, rv nw, rv w176, .unset] [(.int (0 : Int32))]) (fun _ hr => st178.trans hr) ?_
  refine gs T178 (mkF m 20 #[rv th, rv rr, rv nw, rv w176, .unset] []) (fun _ hr => XS.ifYes X178.here hx rfl (pc0 := 9) (pc' := 20) rfl (hb hby d25_9) rfl ((if0 _ _).trans (teq (by decide : (0 : Int32) = (0 : Int32))).1) (by decide) (by decide) hr) ?_
  refine gs T178 (mkF m 21 #[rv th, rv rr, rv nw, rv w176, .unset] [(.ref w176)]) (fun _ hr => XS.aloadN X178.here hx rfl (hb hby d25_20) rfl rfl hr) ?_
  have Zs179 : n0 ≤ T176.heap.size := Nat.le_trans Z0 K176.1
  obtain ⟨cq180, kq180, q180a, q180b, q180c⟩ := isOf hZ e178 E_w176_176c
  obtain ⟨_, _, ⟨T180, L180, k180, n180⟩, -, X180, ⟨Lc180, hQ180, l180, y180, z180⟩, st180⟩ := X178.virtualBack hx (y := Y7) (z := Y7) hown (mvT hZ (tw hw 180 rfl)) (mvT hZ (tw hw 150 rfl)) (notFace_of_selects (args := #[]) (mvT hZ (tw hw 152 rfl))) (mvT hZ (tw hw 152 rfl)) (mvT hZ (tw hw 151 rfl)) (by decide) (backOf (W := 0) (rm_olg l Z a0 hw [] w176 (q2 - q1) T176.heap n0 Zs179 (Old.keep O0 K176 hws) F_w176_isPresent_176c F_w176_value_176c) hZ (tw hw 153 rfl) (tw hw 3 rfl) (by decide) (by decide)) q180a q180c (g := (mkF m 21 #[rv th, rv rr, rv nw, rv w176, .unset] [(.ref w176)])) rfl (by rw [hml]; rfl) (Steps.refl _) (argsL := []) (rest := []) (lenOf pd_5 rfl) rfl (wle rfl) (hb hby d25_21) (fun _ _ => ⟨rfl, e178, (by decide : 3 + 0 ≤ _), (by decide : 6 + 0 ≤ _)⟩)
  dsimp only [Pt.U, Pt.locs, Pt.cells, Pt.slots] at X180 l180 y180 z180 st180 hQ180
  subst l180 y180 z180
  obtain ⟨rfl, N180q, e180⟩ := hQ180
  have N180 := Fr.app N178 N180q
  refine gs T180 (mkF m 24 #[rv th, rv rr, rv nw, rv w176, .unset] [(.long (q2 - q1))]) (fun _ hr => st180.trans hr) ?_
  refine gs T180 (mkF m 25 #[rv th, rv rr, rv nw, rv w176, .unset] [(.long (0 : Int64)), (.long (q2 - q1))]) (fun _ hr => XT.lconst X180.here hx rfl (hb hby d25_24) hr) ?_
  refine gs T180 (mkF m 26 #[rv th, rv rr, rv nw, rv w176, .unset] [(.int (XT.cmpL (q2 - q1) (0 : Int64)))]) (fun _ hr => XT.lcmp X180.here hx rfl (hb hby d25_25) rfl hr) ?_
  refine gs T180 (mkF m 49 #[rv th, rv rr, rv nw, rv w176, .unset] []) (fun _ hr => XS.ifYes X180.here hx rfl (pc0 := 26) (pc' := 49) rfl (hb hby d25_26) rfl ((if0 _ _).trans (flt (hzz : ¬ ((0 : Int32) < (XT.cmpL (q2 - q1) (0 : Int64))))).2.2.2) (by decide) (by decide) hr) ?_
  refine gs T180 (mkF m 50 #[rv th, rv rr, rv nw, rv w176, .unset] [(.long (0 : Int64))]) (fun _ hr => XT.lconst X180.here hx rfl (hb hby d25_49) hr) ?_
  have Zs181 : n0 ≤ T176.heap.size := Nat.le_trans Z0 K176.1
  obtain ⟨_, _, ⟨T182, L182, k182, n182⟩, -, X182, ⟨Lc182, hQ182, l182, y182, z182⟩, st182⟩ := LawKit.callS X180 hx (y := Y3) hown (mvT hZ (tw hw 134 rfl)) (mvT hZ (tw hw 84 rfl)) (mvT hZ (tw hw 3 rfl)) (mvT hZ (tw hw 85 rfl)) (by decide) (backOf (W := 0) (rm_olof l Z a0 hw [] (0 : Int64) T176.heap n0 Zs181 (Old.keep O0 K176 hws)) hZ (tw hw 85 rfl) (tw hw 3 rfl) (by decide) (by decide)) (g := (mkF m 50 #[rv th, rv rr, rv nw, rv w176, .unset] [(.long (0 : Int64))])) rfl (by rw [hml]; rfl) (argsL := [(.long (0 : Int64))]) (rest := []) (lenOf pd_7 rfl) rfl (wle rfl) (hb hby d25_50) (fun _ _ => ⟨rfl, e180, (by decide : 3 + 1 ≤ _), (by decide : 6 + 2 ≤ _)⟩)
  dsimp only [Pt.U, Pt.locs, Pt.cells, Pt.slots] at X182 l182 y182 z182 st182 hQ182
  subst l182 y182 z182
  obtain ⟨w182, rfl, N182q, Kc182, P182_0, P182_1, P182_2, P182_3⟩ := hQ182
  have N182 := Fr.app N180 N182q
  have K182 : Keep h0 T182.heap [] := K176.trans Kc182 all0
  have sz_w182 : h0.size ≤ w182 := Nat.le_trans K176.1 P182_0
  have E_w182_182c : Exa Z T182.heap w182 cOL := P182_1
  have F_w182_isPresent_182c : Fld Z T182.heap w182 cOL nIP "Z" (.int (1 : Int32)) := P182_2
  have F_w182_value_182c : Fld Z T182.heap w182 cOL "value" "J" (.long (0 : Int64)) := P182_3
  refine gs T182 (mkF m 53 #[rv th, rv rr, rv nw, rv w176, .unset] [(.ref w182)]) st182 ?_
  refine gs T182 (mkF m 55 #[rv th, rv rr, rv nw, rv w176, rv w182] []) (fun _ hr => XS.astore X182.here hx rfl (hb hby d25_53) rfl rfl (l' := #[rv th, rv rr, rv nw, rv w176, rv w182]) rfl hr) ?_
  refine gs T182 (mkF m 57 #[rv th, rv rr, rv nw, rv w176, rv w182] [(.ref w182)]) (fun _ hr => XS.aload X182.here hx rfl (hb hby d25_55) rfl rfl hr) ?_
  exact Goes.ret (v := some (.ref w182)) X182 (by decide) (by decide) (fun h => by rw [Bd.returns] at h; cases h) (by show Q_rm_beh_z0 Z th rr em q1 q2 op eo nw h0 n0 _ T182.heap _; exact ⟨w182, rfl, N182, K182, sz_w182, E_w182_182c, F_w182_isPresent_182c, F_w182_value_182c⟩) (fun fs hr => retOut X182 hx Bd.returns rfl (Or.inr (Or.inr (Or.inr (Or.inr ⟨rfl, rfl, rfl⟩)))) (hb hby d25_57) hr)
theorem d25_29 : decode prog_13_method_6_code 29 = .ok (.aload_n 2, 1) := by decide +kernel
theorem d25_30 : decode prog_13_method_6_code 30 = .ok (.aload_n 1, 1) := by decide +kernel
theorem d25_31 : decode prog_13_method_6_code 31 = .ok (.invokevirtual 92, 3) := by decide +kernel
theorem d25_34 : decode prog_13_method_6_code 34 = .ok (.invokestatic 95, 3) := by decide +kernel
theorem d25_37 : decode prog_13_method_6_code 37 = .ok (.lconst 0, 1) := by decide +kernel
theorem d25_38 : decode prog_13_method_6_code 38 = .ok (.invokevirtual 98, 3) := by decide +kernel
theorem d25_41 : decode prog_13_method_6_code 41 = .ok (.invokestatic 41, 3) := by decide +kernel
theorem d25_44 : decode prog_13_method_6_code 44 = .ok (.astore 4, 2) := by decide +kernel
theorem d25_46 : decode prog_13_method_6_code 46 = .ok (.goto 9, 3) := by decide +kernel
def Q_rm_beh_p1em (Z : State) (th : Addr) (rr : Addr) (em : Addr) (q1 : Int64) (q2 : Int64) (op : Addr) (eo : Addr) (nw : Addr) (q4 : Int64) (h0 : Heap) (n0 : Nat) (v : Option Value) (h : Heap) (L : List Loc) : Prop := ∃ w : Addr, v = some (.ref w) ∧ Fr n0 L ∧ Keep h0 h [] ∧ h0.size ≤ w ∧ Exa Z h w cOL ∧ Fld Z h w cOL nIP "Z" (.int (1 : Int32)) ∧ Fld Z h w cOL "value" "J" (.long (0 : Int64))
set_option maxRecDepth 65536 in
set_option maxHeartbeats 40000000 in
theorem rm_beh_p1em (l : Launch) (Z : State) (a0 : Array Value) (hw : ∀ d ∈ tables_1, d.before a0 Z = true) (ws : List Jvm.Cond) (th : Addr) (rr : Addr) (em : Addr) (q1 : Int64) (q2 : Int64) (op : Addr) (eo : Addr) (nw : Addr) (q4 : Int64) (h0 : Heap) (n0 : Nat) (Z0 : n0 ≤ h0.size) (O0 : Old Z n0 h0) (E_th : Exa Z h0 th cPL) (F_th_offset : Fld Z h0 th cPL "offset" "J" (.long q1)) (F_th_end : Fld Z h0 th cPL "end" "J" (.long q2)) (F_th_records : Fld Z h0 th cPL "records" dOP (.ref op)) (E_op : Exa Z h0 op cOP) (F_op_value : Fld Z h0 op cOP "value" dOB (.ref rr)) (E_rr : Exa Z h0 rr cRR) (F_rr_onlyMarkersLeft : Fld Z h0 rr cRR nOM "Z" (.int (0 : Int32))) (F_rr_firstUnreadTimestamp : Fld Z h0 rr cRR nLT dOL (.ref em)) (E_nw : Exa Z h0 nw cOL) (F_nw_isPresent : Fld Z h0 nw cOL nIP "Z" (.int (1 : Int32))) (F_nw_value : Fld Z h0 nw cOL "value" "J" (.long q4)) (S_OptionalLong_EMPTY_old : Sta Z Z.heap cOL "EMPTY" dOL (.ref em)) (E_em_old : Exa Z Z.heap em cOL) (F_em_isPresent_old : Fld Z Z.heap em cOL nIP "Z" (.int (0 : Int32))) (F_em_value_old : Fld Z Z.heap em cOL "value" "J" (.long (0 : Int64))) (S_Optional_EMPTY_old : Sta Z Z.heap cOP "EMPTY" dOP (.ref eo)) (E_eo_old : Exa Z Z.heap eo cOP) (F_eo_value_old : Fld Z Z.heap eo cOP "value" dOB .null) (hle : ¬ ((0 : Int32) < (XT.cmpL q1 q2))) (hpp : (0 : Int32) < (XT.cmpL (q2 - q1) (0 : Int64))) :
    MetFree l Y27 (head1 (Cond.code Y27 prog_13_method_6_code 5 (some (.object cOL)) :: ws) r12) (fun a U => a = #[(.ref th), (.ref rr), (.ref nw)] ∧ Z.Warmed39 U.vm ∧ U.heap = h0) (fun _ _ _ _ _ => True) (fun _ U o U' => ∃ v L, o = .returned v ∧ Q_rm_beh_p1em Z th rr em q1 q2 op eo nw q4 h0 n0 v U'.heap L ∧ FrameEnd U o U' L r12.cells r12.slots) := by
  refine MetFree.of_bodySF (plainFor_of_name pn_com_example_log_lag_gauge_loglaggauge_model_PositionLag) hisR ?_
  intro p e s m args below meth c s₁ Bd hml0 hP hK
  obtain ⟨rfl, hZ, hh⟩ := hP
  have hx := Bd.exec
  have hby := Bd.bytes
  have hml : c.maxLocals = 5 := hml0
  have hown : s.vm.findClass cPL = some m.cls := findClass_of_methodNamed Bd.named
  have hnm := (name_of_methodNamed Bd.named Bd.method).1
  have X0 : Stand p l e r12 s m #[(.ref th), (.ref rr), (.ref nw)] below meth c s₁ [] 0 0 := Stand.of_body Bd
  have e0 : s₁.heap = h0 := by rw [← hh, Bd.state]; rfl
  have N0 := Fr.nil n0
  refine Goes.out (l := l) (c := c) (R := r12) (Q := Q_rm_beh_p1em Z th rr em q1 q2 op eo nw q4 h0 n0) Bd.notSynchronized ?_
  refine Goes.cast (g2 := mkF m 0 #[rv th, rv rr, rv nw, .unset, .unset] []) (by first | (simp [entryFrame, mkF, argsToLocals, Value.category]; done) | rfl) ?_
  have K0 : Keep h0 h0 [] := Keep.refl h0 _
  have hws : ∀ x ∈ ([] : List Addr), n0 ≤ x := all0
  refine gs s₁ (mkF m 1 #[rv th, rv rr, rv nw, .unset, .unset] [(.ref th)]) (fun _ hr => XS.aloadN X0.here hx rfl (hb hby d25_0) rfl rfl hr) ?_
  have Zs183 : n0 ≤ h0.size := Nat.le_trans Z0 K0.1
  obtain ⟨cq184, kq184, q184a, q184b, q184c⟩ := isOf hZ e0 E_th
  obtain ⟨_, _, ⟨T184, L184, k184, n184⟩, -, X184, ⟨Lc184, hQ184, l184, y184, z184⟩, st184⟩ := X0.virtualBack hx (y := Y26) (z := Y26) hown (mvT hZ (tw hw 139 rfl)) (mvT hZ (tw hw 140 rfl)) (notFace_of_selects (args := #[]) (mvT hZ (tw hw 142 rfl))) (mvT hZ (tw hw 142 rfl)) (mvT hZ (tw hw 141 rfl)) (by decide) (backOf (W := 0) (rm_lag0 l Z a0 hw [] th op rr em eo q1 q2 h0 n0 Zs183 (Old.keep O0 K0 hws) E_th F_th_offset F_th_end F_th_records E_op F_op_value E_rr F_rr_onlyMarkersLeft S_OptionalLong_EMPTY_old E_em_old F_em_isPresent_old F_em_value_old S_Optional_EMPTY_old E_eo_old F_eo_value_old hle) hZ (tw hw 143 rfl) (tw hw 13 rfl) (by decide) (by decide)) q184a q184c (g := (mkF m 1 #[rv th, rv rr, rv nw, .unset, .unset] [(.ref th)])) rfl (by rw [hml]; rfl) (Steps.refl _) (argsL := []) (rest := []) (lenOf pd_6 rfl) rfl (wle rfl) (hb hby d25_1) (fun _ _ => ⟨rfl, e0, (by decide : 0 + 3 ≤ _), (by decide : 0 + 6 ≤ _)⟩)
  dsimp only [Pt.U, Pt.locs, Pt.cells, Pt.slots] at X184 l184 y184 z184 st184 hQ184
  subst l184 y184 z184
  obtain ⟨w184, rfl, N184q, Kc184, P184_0, P184_1, P184_2, P184_3⟩ := hQ184
  have N184 := Fr.app N0 N184q
  have E_rr_184 : Exa Z T184.heap rr cRR := E_rr.keep Kc184
  have F_rr_firstUnreadTimestamp_184 : Fld Z T184.heap rr cRR nLT dOL (.ref em) := F_rr_firstUnreadTimestamp.keep Kc184 nin0
  have E_nw_184 : Exa Z T184.heap nw cOL := E_nw.keep Kc184
  have F_nw_isPresent_184 : Fld Z T184.heap nw cOL nIP "Z" (.int (1 : Int32)) := F_nw_isPresent.keep Kc184 nin0
  have F_nw_value_184 : Fld Z T184.heap nw cOL "value" "J" (.long q4) := F_nw_value.keep Kc184 nin0
  have K184 : Keep h0 T184.heap [] := K0.trans Kc184 all0
  have E_w184_184c : Exa Z T184.heap w184 cOL := P184_1
  have F_w184_isPresent_184c : Fld Z T184.heap w184 cOL nIP "Z" (.int (1 : Int32)) := P184_2
  have F_w184_value_184c : Fld Z T184.heap w184 cOL "value" "J" (.long (q2 - q1)) := P184_3
  refine gs T184 (mkF m 4 #[rv th, rv rr, rv nw, .unset, .unset] [(.ref w184)]) (fun _ hr => st184.trans hr) ?_
  refine gs T184 (mkF m 5 #[rv th, rv rr, rv nw, rv w184, .unset] []) (fun _ hr => XS.astoreN X184.here hx rfl (hb hby d25_4) rfl rfl (l' := #[rv th, rv rr, rv nw, rv w184, .unset]) rfl hr) ?_
  refine gs T184 (mkF m 6 #[rv th, rv rr, rv nw, rv w184, .unset] [(.ref w184)]) (fun _ hr => XS.aloadN X184.here hx rfl (hb hby d25_5) rfl rfl hr) ?_
  have Zs185 : n0 ≤ T184.heap.size := Nat.le_trans Z0 K184.1
  obtain ⟨cq186, kq186, q186a, q186b, q186c⟩ := isOf hZ rfl E_w184_184c
  obtain ⟨_, _, ⟨T186, L186, k186, n186⟩, -, X186, ⟨Lc186, hQ186, l186, y186, z186⟩, st186⟩ := X184.virtualBack hx (y := Y6) (z := Y6) hown (mvT hZ (tw hw 179 rfl)) (mvT hZ (tw hw 77 rfl)) (notFace_of_selects (args := #[]) (mvT hZ (tw hw 79 rfl))) (mvT hZ (tw hw 79 rfl)) (mvT hZ (tw hw 78 rfl)) (by decide) (backOf (W := 0) (rm_ole1 l Z a0 hw [] w184 T184.heap n0 Zs185 (Old.keep O0 K184 hws) F_w184_isPresent_184c) hZ (tw hw 80 rfl) (tw hw 3 rfl) (by decide) (by decide)) q186a q186c (g := (mkF m 6 #[rv th, rv rr, rv nw, rv w184, .unset] [(.ref w184)])) rfl (by rw [hml]; rfl) (Steps.refl _) (argsL := []) (rest := []) (lenOf pd_1 rfl) rfl (wle rfl) (hb hby d25_6) (fun _ _ => ⟨rfl, rfl, (by decide : 3 + 0 ≤ _), (by decide : 6 + 0 ≤ _)⟩)
  dsimp only [Pt.U, Pt.locs, Pt.cells, Pt.slots] at X186 l186 y186 z186 st186 hQ186
  subst l186 y186 z186
  obtain ⟨rfl, N186q, e186⟩ := hQ186
  have N186 := Fr.app N184 N186q
  refine gs T186 (mkF m 9 #[rv th, rv rr, rv nw, rv w184, .unset] [(.int (0 : Int32))]) (fun _ hr => st186.trans hr) ?_
  refine gs T186 (mkF m 20 #[rv th, rv rr, rv nw, rv w184, .unset] []) (fun _ hr => XS.ifYes X186.here hx rfl (pc0 := 9) (pc' := 20) rfl (hb hby d25_9) rfl ((if0 _ _).trans (teq (by decide : (0 : Int32) = (0 : Int32))).1) (by decide) (by decide) hr) ?_
  refine gs T186 (mkF m 21 #[rv th, rv rr, rv nw, rv w184, .unset] [(.ref w184)]) (fun _ hr => XS.aloadN X186.here hx rfl (hb hby d25_20) rfl rfl hr) ?_
  have Zs187 : n0 ≤ T184.heap.size := Nat.le_trans Z0 K184.1
  obtain ⟨cq188, kq188, q188a, q188b, q188c⟩ := isOf hZ e186 E_w184_184c
  obtain ⟨_, _, ⟨T188, L188, k188, n188⟩, -, X188, ⟨Lc188, hQ188, l188, y188, z188⟩, st188⟩ := X186.virtualBack hx (y := Y7) (z := Y7) hown (mvT hZ (tw hw 180 rfl)) (mvT hZ (tw hw 150 rfl)) (notFace_of_selects (args := #[]) (mvT hZ (tw hw 152 rfl))) (mvT hZ (tw hw 152 rfl)) (mvT hZ (tw hw 151 rfl)) (by decide) (backOf (W := 0) (rm_olg l Z a0 hw [] w184 (q2 - q1) T184.heap n0 Zs187 (Old.keep O0 K184 hws) F_w184_isPresent_184c F_w184_value_184c) hZ (tw hw 153 rfl) (tw hw 3 rfl) (by decide) (by decide)) q188a q188c (g := (mkF m 21 #[rv th, rv rr, rv nw, rv w184, .unset] [(.ref w184)])) rfl (by rw [hml]; rfl) (Steps.refl _) (argsL := []) (rest := []) (lenOf pd_5 rfl) rfl (wle rfl) (hb hby d25_21) (fun _ _ => ⟨rfl, e186, (by decide : 3 + 0 ≤ _), (by decide : 6 + 0 ≤ _)⟩)
  dsimp only [Pt.U, Pt.locs, Pt.cells, Pt.slots] at X188 l188 y188 z188 st188 hQ188
  subst l188 y188 z188
  obtain ⟨rfl, N188q, e188⟩ := hQ188
  have N188 := Fr.app N186 N188q
  refine gs T188 (mkF m 24 #[rv th, rv rr, rv nw, rv w184, .unset] [(.long (q2 - q1))]) (fun _ hr => st188.trans hr) ?_
  refine gs T188 (mkF m 25 #[rv th, rv rr, rv nw, rv w184, .unset] [(.long (0 : Int64)), (.long (q2 - q1))]) (fun _ hr => XT.lconst X188.here hx rfl (hb hby d25_24) hr) ?_
  refine gs T188 (mkF m 26 #[rv th, rv rr, rv nw, rv w184, .unset] [(.int (XT.cmpL (q2 - q1) (0 : Int64)))]) (fun _ hr => XT.lcmp X188.here hx rfl (hb hby d25_25) rfl hr) ?_
  refine gs T188 (mkF m 29 #[rv th, rv rr, rv nw, rv w184, .unset] []) (fun _ hr => XS.ifNo X188.here hx rfl (hb hby d25_26) rfl ((if0 _ _).trans (tlt (hpp : (0 : Int32) < (XT.cmpL (q2 - q1) (0 : Int64)))).2.2.2) hr) ?_
  refine gs T188 (mkF m 30 #[rv th, rv rr, rv nw, rv w184, .unset] [(.ref nw)]) (fun _ hr => XS.aloadN X188.here hx rfl (hb hby d25_29) rfl rfl hr) ?_
  refine gs T188 (mkF m 31 #[rv th, rv rr, rv nw, rv w184, .unset] [(.ref rr), (.ref nw)]) (fun _ hr => XS.aloadN X188.here hx rfl (hb hby d25_30) rfl rfl hr) ?_
  have Zs189 : n0 ≤ T184.heap.size := Nat.le_trans Z0 K184.1
  obtain ⟨cq190, kq190, q190a, q190b, q190c⟩ := isOf hZ e188 E_rr_184
  obtain ⟨_, _, ⟨T190, L190, k190, n190⟩, -, X190, ⟨Lc190, hQ190, l190, y190, z190⟩, st190⟩ := X188.virtualBack hx (y := Y12) (z := Y12) hown (mvT hZ (tw hw 186 rfl)) (mvT hZ (tw hw 187 rfl)) (notFace_of_selects (args := #[]) (mvT hZ (tw hw 189 rfl))) (mvT hZ (tw hw 189 rfl)) (mvT hZ (tw hw 188 rfl)) (by decide) (backOf (W := 1) (rm_firstUnreadTimestamp l Z a0 hw [] rr em T184.heap n0 Zs189 (Old.keep O0 K184 hws) F_rr_firstUnreadTimestamp_184) hZ (tw hw 190 rfl) (tw hw 96 rfl) (by decide) (by decide)) q190a q190c (g := (mkF m 31 #[rv th, rv rr, rv nw, rv w184, .unset] [(.ref rr), (.ref nw)])) rfl (by rw [hml]; rfl) (Steps.refl _) (argsL := []) (rest := [(.ref nw)]) (lenOf pd_6 rfl) rfl (wle rfl) (hb hby d25_31) (fun _ _ => ⟨rfl, e188, (by decide : 3 + 0 ≤ _), (by decide : 6 + 0 ≤ _)⟩)
  dsimp only [Pt.U, Pt.locs, Pt.cells, Pt.slots] at X190 l190 y190 z190 st190 hQ190
  subst l190 y190 z190
  obtain ⟨rfl, N190q, e190⟩ := hQ190
  have N190 := Fr.app N188 N190q
  refine gs T190 (mkF m 34 #[rv th, rv rr, rv nw, rv w184, .unset] [(.ref em), (.ref nw)]) (fun _ hr => st190.trans hr) ?_
  have Zs191 : n0 ≤ T184.heap.size := Nat.le_trans Z0 K184.1
  obtain ⟨_, _, ⟨T192, L192, k192, n192⟩, -, X192, ⟨Lc192, hQ192, l192, y192, z192⟩, st192⟩ := LawKit.callS X190 hx (y := Y23) hown (mvT hZ (tw hw 191 rfl)) (mvT hZ (tw hw 192 rfl)) (mvT hZ (tw hw 146 rfl)) (mvT hZ (tw hw 193 rfl)) (by decide) (backOf (W := 0) (rm_ms1em l Z a0 hw [] nw q4 em T184.heap n0 Zs191 (Old.keep O0 K184 hws) E_nw_184 F_nw_isPresent_184 F_nw_value_184 S_OptionalLong_EMPTY_old E_em_old F_em_isPresent_old F_em_value_old) hZ (tw hw 193 rfl) (tw hw 146 rfl) (by decide) (by decide)) (g := (mkF m 34 #[rv th, rv rr, rv nw, rv w184, .unset] [(.ref em), (.ref nw)])) rfl (by rw [hml]; rfl) (argsL := [(.ref nw), (.ref em)]) (rest := []) (lenOf pd_11 rfl) rfl (wle rfl) (hb hby d25_34) (fun _ _ => ⟨rfl, e190, (by decide : 3 + 0 ≤ _), (by decide : 6 + 0 ≤ _)⟩)
  dsimp only [Pt.U, Pt.locs, Pt.cells, Pt.slots] at X192 l192 y192 z192 st192 hQ192
  subst l192 y192 z192
  obtain ⟨rfl, N192q, e192⟩ := hQ192
  have N192 := Fr.app N190 N192q
  refine gs T192 (mkF m 37 #[rv th, rv rr, rv nw, rv w184, .unset] [(.ref em)]) st192 ?_
  refine gs T192 (mkF m 38 #[rv th, rv rr, rv nw, rv w184, .unset] [(.long (0 : Int64)), (.ref em)]) (fun _ hr => XT.lconst X192.here hx rfl (hb hby d25_37) hr) ?_
  have Zs193 : n0 ≤ T184.heap.size := Nat.le_trans Z0 K184.1
  obtain ⟨cq194, kq194, q194a, q194b, q194c⟩ := isOf hZ e192 (E_em_old.ext (Old.keep O0 K184 hws).2)
  obtain ⟨_, _, ⟨T194, L194, k194, n194⟩, -, X194, ⟨Lc194, hQ194, l194, y194, z194⟩, st194⟩ := X192.virtualBack hx (y := Y8) (z := Y8) hown (mvT hZ (tw hw 198 rfl)) (mvT hZ (tw hw 199 rfl)) (notFace_of_selects (args := #[]) (mvT hZ (tw hw 201 rfl))) (mvT hZ (tw hw 201 rfl)) (mvT hZ (tw hw 200 rfl)) (by decide) (backOf (W := 0) (rm_olo0 l Z a0 hw [] em (0 : Int64) T184.heap n0 Zs193 (Old.keep O0 K184 hws) (F_em_isPresent_old.ext (Old.keep O0 K184 hws).2)) hZ (tw hw 202 rfl) (tw hw 3 rfl) (by decide) (by decide)) q194a q194c (g := (mkF m 38 #[rv th, rv rr, rv nw, rv w184, .unset] [(.long (0 : Int64)), (.ref em)])) rfl (by rw [hml]; rfl) (Steps.refl _) (argsL := [(.long (0 : Int64))]) (rest := []) (lenOf pd_13 rfl) rfl (wle rfl) (hb hby d25_38) (fun _ _ => ⟨rfl, e192, (by decide : 3 + 0 ≤ _), (by decide : 6 + 0 ≤ _)⟩)
  dsimp only [Pt.U, Pt.locs, Pt.cells, Pt.slots] at X194 l194 y194 z194 st194 hQ194
  subst l194 y194 z194
  obtain ⟨rfl, N194q, e194⟩ := hQ194
  have N194 := Fr.app N192 N194q
  refine gs T194 (mkF m 41 #[rv th, rv rr, rv nw, rv w184, .unset] [(.long (0 : Int64))]) (fun _ hr => st194.trans hr) ?_
  have Zs195 : n0 ≤ T184.heap.size := Nat.le_trans Z0 K184.1
  obtain ⟨_, _, ⟨T196, L196, k196, n196⟩, -, X196, ⟨Lc196, hQ196, l196, y196, z196⟩, st196⟩ := LawKit.callS X194 hx (y := Y3) hown (mvT hZ (tw hw 134 rfl)) (mvT hZ (tw hw 84 rfl)) (mvT hZ (tw hw 3 rfl)) (mvT hZ (tw hw 85 rfl)) (by decide) (backOf (W := 0) (rm_olof l Z a0 hw [] (0 : Int64) T184.heap n0 Zs195 (Old.keep O0 K184 hws)) hZ (tw hw 85 rfl) (tw hw 3 rfl) (by decide) (by decide)) (g := (mkF m 41 #[rv th, rv rr, rv nw, rv w184, .unset] [(.long (0 : Int64))])) rfl (by rw [hml]; rfl) (argsL := [(.long (0 : Int64))]) (rest := []) (lenOf pd_7 rfl) rfl (wle rfl) (hb hby d25_41) (fun _ _ => ⟨rfl, e194, (by decide : 3 + 1 ≤ _), (by decide : 6 + 2 ≤ _)⟩)
  dsimp only [Pt.U, Pt.locs, Pt.cells, Pt.slots] at X196 l196 y196 z196 st196 hQ196
  subst l196 y196 z196
  obtain ⟨w196, rfl, N196q, Kc196, P196_0, P196_1, P196_2, P196_3⟩ := hQ196
  have N196 := Fr.app N194 N196q
  have K196 : Keep h0 T196.heap [] := K184.trans Kc196 all0
  have sz_w196 : h0.size ≤ w196 := Nat.le_trans K184.1 P196_0
  have E_w196_196c : Exa Z T196.heap w196 cOL := P196_1
  have F_w196_isPresent_196c : Fld Z T196.heap w196 cOL nIP "Z" (.int (1 : Int32)) := P196_2
  have F_w196_value_196c : Fld Z T196.heap w196 cOL "value" "J" (.long (0 : Int64)) := P196_3
  refine gs T196 (mkF m 44 #[rv th, rv rr, rv nw, rv w184, .unset] [(.ref w196)]) st196 ?_
  refine gs T196 (mkF m 46 #[rv th, rv rr, rv nw, rv w184, rv w196] []) (fun _ hr => XS.astore X196.here hx rfl (hb hby d25_44) rfl rfl (l' := #[rv th, rv rr, rv nw, rv w184, rv w196]) rfl hr) ?_
  refine gs T196 (mkF m 55 #[rv th, rv rr, rv nw, rv w184, rv w196] []) (fun _ hr => XS.goto X196.here hx rfl (pc0 := 46) (pc' := 55) rfl (hb hby d25_46) (by decide) (by decide) hr) ?_
  refine gs T196 (mkF m 57 #[rv th, rv rr, rv nw, rv w184, rv w196] [(.ref w196)]) (fun _ hr => XS.aload X196.here hx rfl (hb hby d25_55) rfl rfl hr) ?_
  exact Goes.ret (v := some (.ref w196)) X196 (by decide) (by decide) (fun h => by rw [Bd.returns] at h; cases h) (by show Q_rm_beh_p1em Z th rr em q1 q2 op eo nw q4 h0 n0 _ T196.heap _; exact ⟨w196, rfl, N196, K196, sz_w196, E_w196_196c, F_w196_isPresent_196c, F_w196_value_196c⟩) (fun fs hr => retOut X196 hx Bd.returns rfl (Or.inr (Or.inr (Or.inr (Or.inr ⟨rfl, rfl, rfl⟩)))) (hb hby d25_57) hr)
def Q_rm_beh_p1 (Z : State) (th : Addr) (rr : Addr) (em : Addr) (q1 : Int64) (q2 : Int64) (op : Addr) (eo : Addr) (nw : Addr) (fu : Addr) (q3 : Int64) (q4 : Int64) (h0 : Heap) (n0 : Nat) (v : Option Value) (h : Heap) (L : List Loc) : Prop := ∃ w : Addr, v = some (.ref w) ∧ Fr n0 L ∧ Keep h0 h [] ∧ h0.size ≤ w ∧ Exa Z h w cOL ∧ Fld Z h w cOL nIP "Z" (.int (1 : Int32)) ∧ Fld Z h w cOL "value" "J" (.long (q4 - q3))
set_option maxRecDepth 65536 in
set_option maxHeartbeats 40000000 in
theorem rm_beh_p1 (l : Launch) (Z : State) (a0 : Array Value) (hw : ∀ d ∈ tables_1, d.before a0 Z = true) (ws : List Jvm.Cond) (th : Addr) (rr : Addr) (em : Addr) (q1 : Int64) (q2 : Int64) (op : Addr) (eo : Addr) (nw : Addr) (fu : Addr) (q3 : Int64) (q4 : Int64) (h0 : Heap) (n0 : Nat) (Z0 : n0 ≤ h0.size) (O0 : Old Z n0 h0) (E_th : Exa Z h0 th cPL) (F_th_offset : Fld Z h0 th cPL "offset" "J" (.long q1)) (F_th_end : Fld Z h0 th cPL "end" "J" (.long q2)) (F_th_records : Fld Z h0 th cPL "records" dOP (.ref op)) (E_op : Exa Z h0 op cOP) (F_op_value : Fld Z h0 op cOP "value" dOB (.ref rr)) (E_rr : Exa Z h0 rr cRR) (F_rr_onlyMarkersLeft : Fld Z h0 rr cRR nOM "Z" (.int (0 : Int32))) (F_rr_firstUnreadTimestamp : Fld Z h0 rr cRR nLT dOL (.ref fu)) (E_fu : Exa Z h0 fu cOL) (F_fu_isPresent : Fld Z h0 fu cOL nIP "Z" (.int (1 : Int32))) (F_fu_value : Fld Z h0 fu cOL "value" "J" (.long q3)) (E_nw : Exa Z h0 nw cOL) (F_nw_isPresent : Fld Z h0 nw cOL nIP "Z" (.int (1 : Int32))) (F_nw_value : Fld Z h0 nw cOL "value" "J" (.long q4)) (S_OptionalLong_EMPTY_old : Sta Z Z.heap cOL "EMPTY" dOL (.ref em)) (E_em_old : Exa Z Z.heap em cOL) (F_em_isPresent_old : Fld Z Z.heap em cOL nIP "Z" (.int (0 : Int32))) (F_em_value_old : Fld Z Z.heap em cOL "value" "J" (.long (0 : Int64))) (S_Optional_EMPTY_old : Sta Z Z.heap cOP "EMPTY" dOP (.ref eo)) (E_eo_old : Exa Z Z.heap eo cOP) (F_eo_value_old : Fld Z Z.heap eo cOP "value" dOB .null) (hle : ¬ ((0 : Int32) < (XT.cmpL q1 q2))) (hpp : (0 : Int32) < (XT.cmpL (q2 - q1) (0 : Int64))) (hmx : (XT.cmpL (0 : Int64) (q4 - q3)) < (0 : Int32)) :
    MetFree l Y27 (head1 (Cond.code Y27 prog_13_method_6_code 5 (some (.object cOL)) :: ws) r11) (fun a U => a = #[(.ref th), (.ref rr), (.ref nw)] ∧ Z.Warmed39 U.vm ∧ U.heap = h0) (fun _ _ _ _ _ => True) (fun _ U o U' => ∃ v L, o = .returned v ∧ Q_rm_beh_p1 Z th rr em q1 q2 op eo nw fu q3 q4 h0 n0 v U'.heap L ∧ FrameEnd U o U' L r11.cells r11.slots) := by
  refine MetFree.of_bodySF (plainFor_of_name pn_com_example_log_lag_gauge_loglaggauge_model_PositionLag) hisR ?_
  intro p e s m args below meth c s₁ Bd hml0 hP hK
  obtain ⟨rfl, hZ, hh⟩ := hP
  have hx := Bd.exec
  have hby := Bd.bytes
  have hml : c.maxLocals = 5 := hml0
  have hown : s.vm.findClass cPL = some m.cls := findClass_of_methodNamed Bd.named
  have hnm := (name_of_methodNamed Bd.named Bd.method).1
  have X0 : Stand p l e r11 s m #[(.ref th), (.ref rr), (.ref nw)] below meth c s₁ [] 0 0 := Stand.of_body Bd
  have e0 : s₁.heap = h0 := by rw [← hh, Bd.state]; rfl
  have N0 := Fr.nil n0
  refine Goes.out (l := l) (c := c) (R := r11) (Q := Q_rm_beh_p1 Z th rr em q1 q2 op eo nw fu q3 q4 h0 n0) Bd.notSynchronized ?_
  refine Goes.cast (g2 := mkF m 0 #[rv th, rv rr, rv nw, .unset, .unset] []) (by first | (simp [entryFrame, mkF, argsToLocals, Value.category]; done) | rfl) ?_
  have K0 : Keep h0 h0 [] := Keep.refl h0 _
  have hws : ∀ x ∈ ([] : List Addr), n0 ≤ x := all0
  refine gs s₁ (mkF m 1 #[rv th, rv rr, rv nw, .unset, .unset] [(.ref th)]) (fun _ hr => XS.aloadN X0.here hx rfl (hb hby d25_0) rfl rfl hr) ?_
  have Zs197 : n0 ≤ h0.size := Nat.le_trans Z0 K0.1
  obtain ⟨cq198, kq198, q198a, q198b, q198c⟩ := isOf hZ e0 E_th
  obtain ⟨_, _, ⟨T198, L198, k198, n198⟩, -, X198, ⟨Lc198, hQ198, l198, y198, z198⟩, st198⟩ := X0.virtualBack hx (y := Y26) (z := Y26) hown (mvT hZ (tw hw 139 rfl)) (mvT hZ (tw hw 140 rfl)) (notFace_of_selects (args := #[]) (mvT hZ (tw hw 142 rfl))) (mvT hZ (tw hw 142 rfl)) (mvT hZ (tw hw 141 rfl)) (by decide) (backOf (W := 0) (rm_lag0 l Z a0 hw [] th op rr em eo q1 q2 h0 n0 Zs197 (Old.keep O0 K0 hws) E_th F_th_offset F_th_end F_th_records E_op F_op_value E_rr F_rr_onlyMarkersLeft S_OptionalLong_EMPTY_old E_em_old F_em_isPresent_old F_em_value_old S_Optional_EMPTY_old E_eo_old F_eo_value_old hle) hZ (tw hw 143 rfl) (tw hw 13 rfl) (by decide) (by decide)) q198a q198c (g := (mkF m 1 #[rv th, rv rr, rv nw, .unset, .unset] [(.ref th)])) rfl (by rw [hml]; rfl) (Steps.refl _) (argsL := []) (rest := []) (lenOf pd_6 rfl) rfl (wle rfl) (hb hby d25_1) (fun _ _ => ⟨rfl, e0, (by decide : 0 + 3 ≤ _), (by decide : 0 + 6 ≤ _)⟩)
  dsimp only [Pt.U, Pt.locs, Pt.cells, Pt.slots] at X198 l198 y198 z198 st198 hQ198
  subst l198 y198 z198
  obtain ⟨w198, rfl, N198q, Kc198, P198_0, P198_1, P198_2, P198_3⟩ := hQ198
  have N198 := Fr.app N0 N198q
  have E_rr_198 : Exa Z T198.heap rr cRR := E_rr.keep Kc198
  have F_rr_firstUnreadTimestamp_198 : Fld Z T198.heap rr cRR nLT dOL (.ref fu) := F_rr_firstUnreadTimestamp.keep Kc198 nin0
  have E_fu_198 : Exa Z T198.heap fu cOL := E_fu.keep Kc198
  have F_fu_isPresent_198 : Fld Z T198.heap fu cOL nIP "Z" (.int (1 : Int32)) := F_fu_isPresent.keep Kc198 nin0
  have F_fu_value_198 : Fld Z T198.heap fu cOL "value" "J" (.long q3) := F_fu_value.keep Kc198 nin0
  have E_nw_198 : Exa Z T198.heap nw cOL := E_nw.keep Kc198
  have F_nw_isPresent_198 : Fld Z T198.heap nw cOL nIP "Z" (.int (1 : Int32)) := F_nw_isPresent.keep Kc198 nin0
  have F_nw_value_198 : Fld Z T198.heap nw cOL "value" "J" (.long q4) := F_nw_value.keep Kc198 nin0
  have K198 : Keep h0 T198.heap [] := K0.trans Kc198 all0
  have E_w198_198c : Exa Z T198.heap w198 cOL := P198_1
  have F_w198_isPresent_198c : Fld Z T198.heap w198 cOL nIP "Z" (.int (1 : Int32)) := P198_2
  have F_w198_value_198c : Fld Z T198.heap w198 cOL "value" "J" (.long (q2 - q1)) := P198_3
  refine gs T198 (mkF m 4 #[rv th, rv rr, rv nw, .unset, .unset] [(.ref w198)]) (fun _ hr => st198.trans hr) ?_
  refine gs T198 (mkF m 5 #[rv th, rv rr, rv nw, rv w198, .unset] []) (fun _ hr => XS.astoreN X198.here hx rfl (hb hby d25_4) rfl rfl (l' := #[rv th, rv rr, rv nw, rv w198, .unset]) rfl hr) ?_
  refine gs T198 (mkF m 6 #[rv th, rv rr, rv nw, rv w198, .unset] [(.ref w198)]) (fun _ hr => XS.aloadN X198.here hx rfl (hb hby d25_5) rfl rfl hr) ?_
  have Zs199 : n0 ≤ T198.heap.size := Nat.le_trans Z0 K198.1
  obtain ⟨cq200, kq200, q200a, q200b, q200c⟩ := isOf hZ rfl E_w198_198c
  obtain ⟨_, _, ⟨T200, L200, k200, n200⟩, -, X200, ⟨Lc200, hQ200, l200, y200, z200⟩, st200⟩ := X198.virtualBack hx (y := Y6) (z := Y6) hown (mvT hZ (tw hw 179 rfl)) (mvT hZ (tw hw 77 rfl)) (notFace_of_selects (args := #[]) (mvT hZ (tw hw 79 rfl))) (mvT hZ (tw hw 79 rfl)) (mvT hZ (tw hw 78 rfl)) (by decide) (backOf (W := 0) (rm_ole1 l Z a0 hw [] w198 T198.heap n0 Zs199 (Old.keep O0 K198 hws) F_w198_isPresent_198c) hZ (tw hw 80 rfl) (tw hw 3 rfl) (by decide) (by decide)) q200a q200c (g := (mkF m 6 #[rv th, rv rr, rv nw, rv w198, .unset] [(.ref w198)])) rfl (by rw [hml]; rfl) (Steps.refl _) (argsL := []) (rest := []) (lenOf pd_1 rfl) rfl (wle rfl) (hb hby d25_6) (fun _ _ => ⟨rfl, rfl, (by decide : 3 + 0 ≤ _), (by decide : 6 + 0 ≤ _)⟩)
  dsimp only [Pt.U, Pt.locs, Pt.cells, Pt.slots] at X200 l200 y200 z200 st200 hQ200
  subst l200 y200 z200
  obtain ⟨rfl, N200q, e200⟩ := hQ200
  have N200 := Fr.app N198 N200q
  refine gs T200 (mkF m 9 #[rv th, rv rr, rv nw, rv w198, .unset] [(.int (0 : Int32))]) (fun _ hr => st200.trans hr) ?_
  refine gs T200 (mkF m 20 #[rv th, rv rr, rv nw, rv w198, .unset] []) (fun _ hr => XS.ifYes X200.here hx rfl (pc0 := 9) (pc' := 20) rfl (hb hby d25_9) rfl ((if0 _ _).trans (teq (by decide : (0 : Int32) = (0 : Int32))).1) (by decide) (by decide) hr) ?_
  refine gs T200 (mkF m 21 #[rv th, rv rr, rv nw, rv w198, .unset] [(.ref w198)]) (fun _ hr => XS.aloadN X200.here hx rfl (hb hby d25_20) rfl rfl hr) ?_
  have Zs201 : n0 ≤ T198.heap.size := Nat.le_trans Z0 K198.1
  obtain ⟨cq202, kq202, q202a, q202b, q202c⟩ := isOf hZ e200 E_w198_198c
  obtain ⟨_, _, ⟨T202, L202, k202, n202⟩, -, X202, ⟨Lc202, hQ202, l202, y202, z202⟩, st202⟩ := X200.virtualBack hx (y := Y7) (z := Y7) hown (mvT hZ (tw hw 180 rfl)) (mvT hZ (tw hw 150 rfl)) (notFace_of_selects (args := #[]) (mvT hZ (tw hw 152 rfl))) (mvT hZ (tw hw 152 rfl)) (mvT hZ (tw hw 151 rfl)) (by decide) (backOf (W := 0) (rm_olg l Z a0 hw [] w198 (q2 - q1) T198.heap n0 Zs201 (Old.keep O0 K198 hws) F_w198_isPresent_198c F_w198_value_198c) hZ (tw hw 153 rfl) (tw hw 3 rfl) (by decide) (by decide)) q202a q202c (g := (mkF m 21 #[rv th, rv rr, rv nw, rv w198, .unset] [(.ref w198)])) rfl (by rw [hml]; rfl) (Steps.refl _) (argsL := []) (rest := []) (lenOf pd_5 rfl) rfl (wle rfl) (hb hby d25_21) (fun _ _ => ⟨rfl, e200, (by decide : 3 + 0 ≤ _), (by decide : 6 + 0 ≤ _)⟩)
  dsimp only [Pt.U, Pt.locs, Pt.cells, Pt.slots] at X202 l202 y202 z202 st202 hQ202
  subst l202 y202 z202
  obtain ⟨rfl, N202q, e202⟩ := hQ202
  have N202 := Fr.app N200 N202q
  refine gs T202 (mkF m 24 #[rv th, rv rr, rv nw, rv w198, .unset] [(.long (q2 - q1))]) (fun _ hr => st202.trans hr) ?_
  refine gs T202 (mkF m 25 #[rv th, rv rr, rv nw, rv w198, .unset] [(.long (0 : Int64)), (.long (q2 - q1))]) (fun _ hr => XT.lconst X202.here hx rfl (hb hby d25_24) hr) ?_
  refine gs T202 (mkF m 26 #[rv th, rv rr, rv nw, rv w198, .unset] [(.int (XT.cmpL (q2 - q1) (0 : Int64)))]) (fun _ hr => XT.lcmp X202.here hx rfl (hb hby d25_25) rfl hr) ?_
  refine gs T202 (mkF m 29 #[rv th, rv rr, rv nw, rv w198, .unset] []) (fun _ hr => XS.ifNo X202.here hx rfl (hb hby d25_26) rfl ((if0 _ _).trans (tlt (hpp : (0 : Int32) < (XT.cmpL (q2 - q1) (0 : Int64)))).2.2.2) hr) ?_
  refine gs T202 (mkF m 30 #[rv th, rv rr, rv nw, rv w198, .unset] [(.ref nw)]) (fun _ hr => XS.aloadN X202.here hx rfl (hb hby d25_29) rfl rfl hr) ?_
  refine gs T202 (mkF m 31 #[rv th, rv rr, rv nw, rv w198, .unset] [(.ref rr), (.ref nw)]) (fun _ hr => XS.aloadN X202.here hx rfl (hb hby d25_30) rfl rfl hr) ?_
  have Zs203 : n0 ≤ T198.heap.size := Nat.le_trans Z0 K198.1
  obtain ⟨cq204, kq204, q204a, q204b, q204c⟩ := isOf hZ e202 E_rr_198
  obtain ⟨_, _, ⟨T204, L204, k204, n204⟩, -, X204, ⟨Lc204, hQ204, l204, y204, z204⟩, st204⟩ := X202.virtualBack hx (y := Y12) (z := Y12) hown (mvT hZ (tw hw 186 rfl)) (mvT hZ (tw hw 187 rfl)) (notFace_of_selects (args := #[]) (mvT hZ (tw hw 189 rfl))) (mvT hZ (tw hw 189 rfl)) (mvT hZ (tw hw 188 rfl)) (by decide) (backOf (W := 1) (rm_firstUnreadTimestamp l Z a0 hw [] rr fu T198.heap n0 Zs203 (Old.keep O0 K198 hws) F_rr_firstUnreadTimestamp_198) hZ (tw hw 190 rfl) (tw hw 96 rfl) (by decide) (by decide)) q204a q204c (g := (mkF m 31 #[rv th, rv rr, rv nw, rv w198, .unset] [(.ref rr), (.ref nw)])) rfl (by rw [hml]; rfl) (Steps.refl _) (argsL := []) (rest := [(.ref nw)]) (lenOf pd_6 rfl) rfl (wle rfl) (hb hby d25_31) (fun _ _ => ⟨rfl, e202, (by decide : 3 + 0 ≤ _), (by decide : 6 + 0 ≤ _)⟩)
  dsimp only [Pt.U, Pt.locs, Pt.cells, Pt.slots] at X204 l204 y204 z204 st204 hQ204
  subst l204 y204 z204
  obtain ⟨rfl, N204q, e204⟩ := hQ204
  have N204 := Fr.app N202 N204q
  refine gs T204 (mkF m 34 #[rv th, rv rr, rv nw, rv w198, .unset] [(.ref fu), (.ref nw)]) (fun _ hr => st204.trans hr) ?_
  have Zs205 : n0 ≤ T198.heap.size := Nat.le_trans Z0 K198.1
  obtain ⟨_, _, ⟨T206, L206, k206, n206⟩, -, X206, ⟨Lc206, hQ206, l206, y206, z206⟩, st206⟩ := LawKit.callS X204 hx (y := Y23) hown (mvT hZ (tw hw 191 rfl)) (mvT hZ (tw hw 192 rfl)) (mvT hZ (tw hw 146 rfl)) (mvT hZ (tw hw 193 rfl)) (by decide) (backOf (W := 0) (rm_ms111 l Z a0 hw [] nw fu q3 q4 em T198.heap n0 Zs205 (Old.keep O0 K198 hws) E_nw_198 F_nw_isPresent_198 F_nw_value_198 E_fu_198 F_fu_isPresent_198 F_fu_value_198 S_OptionalLong_EMPTY_old E_em_old F_em_isPresent_old F_em_value_old hmx) hZ (tw hw 193 rfl) (tw hw 146 rfl) (by decide) (by decide)) (g := (mkF m 34 #[rv th, rv rr, rv nw, rv w198, .unset] [(.ref fu), (.ref nw)])) rfl (by rw [hml]; rfl) (argsL := [(.ref nw), (.ref fu)]) (rest := []) (lenOf pd_11 rfl) rfl (wle rfl) (hb hby d25_34) (fun _ _ => ⟨rfl, e204, (by decide : 3 + 1 ≤ _), (by decide : 6 + 2 ≤ _)⟩)
  dsimp only [Pt.U, Pt.locs, Pt.cells, Pt.slots] at X206 l206 y206 z206 st206 hQ206
  subst l206 y206 z206
  obtain ⟨w206, rfl, N206q, Kc206, P206_0, P206_1, P206_2, P206_3⟩ := hQ206
  have N206 := Fr.app N204 N206q
  have K206 : Keep h0 T206.heap [] := K198.trans Kc206 all0
  have E_w206_206c : Exa Z T206.heap w206 cOL := P206_1
  have F_w206_isPresent_206c : Fld Z T206.heap w206 cOL nIP "Z" (.int (1 : Int32)) := P206_2
  have F_w206_value_206c : Fld Z T206.heap w206 cOL "value" "J" (.long (q4 - q3)) := P206_3
  refine gs T206 (mkF m 37 #[rv th, rv rr, rv nw, rv w198, .unset] [(.ref w206)]) st206 ?_
  refine gs T206 (mkF m 38 #[rv th, rv rr, rv nw, rv w198, .unset] [(.long (0 : Int64)), (.ref w206)]) (fun _ hr => XT.lconst X206.here hx rfl (hb hby d25_37) hr) ?_
  have Zs207 : n0 ≤ T206.heap.size := Nat.le_trans Z0 K206.1
  obtain ⟨cq208, kq208, q208a, q208b, q208c⟩ := isOf hZ rfl E_w206_206c
  obtain ⟨_, _, ⟨T208, L208, k208, n208⟩, -, X208, ⟨Lc208, hQ208, l208, y208, z208⟩, st208⟩ := X206.virtualBack hx (y := Y8) (z := Y8) hown (mvT hZ (tw hw 198 rfl)) (mvT hZ (tw hw 199 rfl)) (notFace_of_selects (args := #[]) (mvT hZ (tw hw 201 rfl))) (mvT hZ (tw hw 201 rfl)) (mvT hZ (tw hw 200 rfl)) (by decide) (backOf (W := 0) (rm_olo1 l Z a0 hw [] w206 (q4 - q3) (0 : Int64) T206.heap n0 Zs207 (Old.keep O0 K206 hws) F_w206_isPresent_206c F_w206_value_206c) hZ (tw hw 202 rfl) (tw hw 3 rfl) (by decide) (by decide)) q208a q208c (g := (mkF m 38 #[rv th, rv rr, rv nw, rv w198, .unset] [(.long (0 : Int64)), (.ref w206)])) rfl (by rw [hml]; rfl) (Steps.refl _) (argsL := [(.long (0 : Int64))]) (rest := []) (lenOf pd_13 rfl) rfl (wle rfl) (hb hby d25_38) (fun _ _ => ⟨rfl, rfl, (by decide : 4 + 0 ≤ _), (by decide : 8 + 0 ≤ _)⟩)
  dsimp only [Pt.U, Pt.locs, Pt.cells, Pt.slots] at X208 l208 y208 z208 st208 hQ208
  subst l208 y208 z208
  obtain ⟨rfl, N208q, e208⟩ := hQ208
  have N208 := Fr.app N206 N208q
  refine gs T208 (mkF m 41 #[rv th, rv rr, rv nw, rv w198, .unset] [(.long (q4 - q3))]) (fun _ hr => st208.trans hr) ?_
  have Zs209 : n0 ≤ T206.heap.size := Nat.le_trans Z0 K206.1
  obtain ⟨_, _, ⟨T210, L210, k210, n210⟩, -, X210, ⟨Lc210, hQ210, l210, y210, z210⟩, st210⟩ := LawKit.callS X208 hx (y := Y3) hown (mvT hZ (tw hw 134 rfl)) (mvT hZ (tw hw 84 rfl)) (mvT hZ (tw hw 3 rfl)) (mvT hZ (tw hw 85 rfl)) (by decide) (backOf (W := 0) (rm_olof l Z a0 hw [] (q4 - q3) T206.heap n0 Zs209 (Old.keep O0 K206 hws)) hZ (tw hw 85 rfl) (tw hw 3 rfl) (by decide) (by decide)) (g := (mkF m 41 #[rv th, rv rr, rv nw, rv w198, .unset] [(.long (q4 - q3))])) rfl (by rw [hml]; rfl) (argsL := [(.long (q4 - q3))]) (rest := []) (lenOf pd_7 rfl) rfl (wle rfl) (hb hby d25_41) (fun _ _ => ⟨rfl, e208, (by decide : 4 + 1 ≤ _), (by decide : 8 + 2 ≤ _)⟩)
  dsimp only [Pt.U, Pt.locs, Pt.cells, Pt.slots] at X210 l210 y210 z210 st210 hQ210
  subst l210 y210 z210
  obtain ⟨w210, rfl, N210q, Kc210, P210_0, P210_1, P210_2, P210_3⟩ := hQ210
  have N210 := Fr.app N208 N210q
  have K210 : Keep h0 T210.heap [] := K206.trans Kc210 all0
  have sz_w210 : h0.size ≤ w210 := Nat.le_trans K206.1 P210_0
  have E_w210_210c : Exa Z T210.heap w210 cOL := P210_1
  have F_w210_isPresent_210c : Fld Z T210.heap w210 cOL nIP "Z" (.int (1 : Int32)) := P210_2
  have F_w210_value_210c : Fld Z T210.heap w210 cOL "value" "J" (.long (q4 - q3)) := P210_3
  refine gs T210 (mkF m 44 #[rv th, rv rr, rv nw, rv w198, .unset] [(.ref w210)]) st210 ?_
  refine gs T210 (mkF m 46 #[rv th, rv rr, rv nw, rv w198, rv w210] []) (fun _ hr => XS.astore X210.here hx rfl (hb hby d25_44) rfl rfl (l' := #[rv th, rv rr, rv nw, rv w198, rv w210]) rfl hr) ?_
  refine gs T210 (mkF m 55 #[rv th, rv rr, rv nw, rv w198, rv w210] []) (fun _ hr => XS.goto X210.here hx rfl (pc0 := 46) (pc' := 55) rfl (hb hby d25_46) (by decide) (by decide) hr) ?_
  refine gs T210 (mkF m 57 #[rv th, rv rr, rv nw, rv w198, rv w210] [(.ref w210)]) (fun _ hr => XS.aload X210.here hx rfl (hb hby d25_55) rfl rfl hr) ?_
  exact Goes.ret (v := some (.ref w210)) X210 (by decide) (by decide) (fun h => by rw [Bd.returns] at h; cases h) (by show Q_rm_beh_p1 Z th rr em q1 q2 op eo nw fu q3 q4 h0 n0 _ T210.heap _; exact ⟨w210, rfl, N210, K210, sz_w210, E_w210_210c, F_w210_isPresent_210c, F_w210_value_210c⟩) (fun fs hr => retOut X210 hx Bd.returns rfl (Or.inr (Or.inr (Or.inr (Or.inr ⟨rfl, rfl, rfl⟩)))) (hb hby d25_57) hr)
def Q_rm_beh_p0 (Z : State) (th : Addr) (rr : Addr) (em : Addr) (q1 : Int64) (q2 : Int64) (op : Addr) (eo : Addr) (nw : Addr) (fu : Addr) (q3 : Int64) (q4 : Int64) (h0 : Heap) (n0 : Nat) (v : Option Value) (h : Heap) (L : List Loc) : Prop := ∃ w : Addr, v = some (.ref w) ∧ Fr n0 L ∧ Keep h0 h [] ∧ h0.size ≤ w ∧ Exa Z h w cOL ∧ Fld Z h w cOL nIP "Z" (.int (1 : Int32)) ∧ Fld Z h w cOL "value" "J" (.long (0 : Int64))
set_option maxRecDepth 65536 in
set_option maxHeartbeats 40000000 in
theorem rm_beh_p0 (l : Launch) (Z : State) (a0 : Array Value) (hw : ∀ d ∈ tables_1, d.before a0 Z = true) (ws : List Jvm.Cond) (th : Addr) (rr : Addr) (em : Addr) (q1 : Int64) (q2 : Int64) (op : Addr) (eo : Addr) (nw : Addr) (fu : Addr) (q3 : Int64) (q4 : Int64) (h0 : Heap) (n0 : Nat) (Z0 : n0 ≤ h0.size) (O0 : Old Z n0 h0) (E_th : Exa Z h0 th cPL) (F_th_offset : Fld Z h0 th cPL "offset" "J" (.long q1)) (F_th_end : Fld Z h0 th cPL "end" "J" (.long q2)) (F_th_records : Fld Z h0 th cPL "records" dOP (.ref op)) (E_op : Exa Z h0 op cOP) (F_op_value : Fld Z h0 op cOP "value" dOB (.ref rr)) (E_rr : Exa Z h0 rr cRR) (F_rr_onlyMarkersLeft : Fld Z h0 rr cRR nOM "Z" (.int (0 : Int32))) (F_rr_firstUnreadTimestamp : Fld Z h0 rr cRR nLT dOL (.ref fu)) (E_fu : Exa Z h0 fu cOL) (F_fu_isPresent : Fld Z h0 fu cOL nIP "Z" (.int (1 : Int32))) (F_fu_value : Fld Z h0 fu cOL "value" "J" (.long q3)) (E_nw : Exa Z h0 nw cOL) (F_nw_isPresent : Fld Z h0 nw cOL nIP "Z" (.int (1 : Int32))) (F_nw_value : Fld Z h0 nw cOL "value" "J" (.long q4)) (S_OptionalLong_EMPTY_old : Sta Z Z.heap cOL "EMPTY" dOL (.ref em)) (E_em_old : Exa Z Z.heap em cOL) (F_em_isPresent_old : Fld Z Z.heap em cOL nIP "Z" (.int (0 : Int32))) (F_em_value_old : Fld Z Z.heap em cOL "value" "J" (.long (0 : Int64))) (S_Optional_EMPTY_old : Sta Z Z.heap cOP "EMPTY" dOP (.ref eo)) (E_eo_old : Exa Z Z.heap eo cOP) (F_eo_value_old : Fld Z Z.heap eo cOP "value" dOB .null) (hle : ¬ ((0 : Int32) < (XT.cmpL q1 q2))) (hpp : (0 : Int32) < (XT.cmpL (q2 - q1) (0 : Int64))) (hmn : ¬ ((XT.cmpL (0 : Int64) (q4 - q3)) < (0 : Int32))) :
    MetFree l Y27 (head1 (Cond.code Y27 prog_13_method_6_code 5 (some (.object cOL)) :: ws) r11) (fun a U => a = #[(.ref th), (.ref rr), (.ref nw)] ∧ Z.Warmed39 U.vm ∧ U.heap = h0) (fun _ _ _ _ _ => True) (fun _ U o U' => ∃ v L, o = .returned v ∧ Q_rm_beh_p0 Z th rr em q1 q2 op eo nw fu q3 q4 h0 n0 v U'.heap L ∧ FrameEnd U o U' L r11.cells r11.slots) := by
  refine MetFree.of_bodySF (plainFor_of_name pn_com_example_log_lag_gauge_loglaggauge_model_PositionLag) hisR ?_
  intro p e s m args below meth c s₁ Bd hml0 hP hK
  obtain ⟨rfl, hZ, hh⟩ := hP
  have hx := Bd.exec
  have hby := Bd.bytes
  have hml : c.maxLocals = 5 := hml0
  have hown : s.vm.findClass cPL = some m.cls := findClass_of_methodNamed Bd.named
  have hnm := (name_of_methodNamed Bd.named Bd.method).1
  have X0 : Stand p l e r11 s m #[(.ref th), (.ref rr), (.ref nw)] below meth c s₁ [] 0 0 := Stand.of_body Bd
  have e0 : s₁.heap = h0 := by rw [← hh, Bd.state]; rfl
  have N0 := Fr.nil n0
  refine Goes.out (l := l) (c := c) (R := r11) (Q := Q_rm_beh_p0 Z th rr em q1 q2 op eo nw fu q3 q4 h0 n0) Bd.notSynchronized ?_
  refine Goes.cast (g2 := mkF m 0 #[rv th, rv rr, rv nw, .unset, .unset] []) (by first | (simp [entryFrame, mkF, argsToLocals, Value.category]; done) | rfl) ?_
  have K0 : Keep h0 h0 [] := Keep.refl h0 _
  have hws : ∀ x ∈ ([] : List Addr), n0 ≤ x := all0
  refine gs s₁ (mkF m 1 #[rv th, rv rr, rv nw, .unset, .unset] [(.ref th)]) (fun _ hr => XS.aloadN X0.here hx rfl (hb hby d25_0) rfl rfl hr) ?_
  have Zs211 : n0 ≤ h0.size := Nat.le_trans Z0 K0.1
  obtain ⟨cq212, kq212, q212a, q212b, q212c⟩ := isOf hZ e0 E_th
  obtain ⟨_, _, ⟨T212, L212, k212, n212⟩, -, X212, ⟨Lc212, hQ212, l212, y212, z212⟩, st212⟩ := X0.virtualBack hx (y := Y26) (z := Y26) hown (mvT hZ (tw hw 139 rfl)) (mvT hZ (tw hw 140 rfl)) (notFace_of_selects (args := #[]) (mvT hZ (tw hw 142 rfl))) (mvT hZ (tw hw 142 rfl)) (mvT hZ (tw hw 141 rfl)) (by decide) (backOf (W := 0) (rm_lag0 l Z a0 hw [] th op rr em eo q1 q2 h0 n0 Zs211 (Old.keep O0 K0 hws) E_th F_th_offset F_th_end F_th_records E_op F_op_value E_rr F_rr_onlyMarkersLeft S_OptionalLong_EMPTY_old E_em_old F_em_isPresent_old F_em_value_old S_Optional_EMPTY_old E_eo_old F_eo_value_old hle) hZ (tw hw 143 rfl) (tw hw 13 rfl) (by decide) (by decide)) q212a q212c (g := (mkF m 1 #[rv th, rv rr, rv nw, .unset, .unset] [(.ref th)])) rfl (by rw [hml]; rfl) (Steps.refl _) (argsL := []) (rest := []) (lenOf pd_6 rfl) rfl (wle rfl) (hb hby d25_1) (fun _ _ => ⟨rfl, e0, (by decide : 0 + 3 ≤ _), (by decide : 0 + 6 ≤ _)⟩)
  dsimp only [Pt.U, Pt.locs, Pt.cells, Pt.slots] at X212 l212 y212 z212 st212 hQ212
  subst l212 y212 z212
  obtain ⟨w212, rfl, N212q, Kc212, P212_0, P212_1, P212_2, P212_3⟩ := hQ212
  have N212 := Fr.app N0 N212q
  have E_rr_212 : Exa Z T212.heap rr cRR := E_rr.keep Kc212
  have F_rr_firstUnreadTimestamp_212 : Fld Z T212.heap rr cRR nLT dOL (.ref fu) := F_rr_firstUnreadTimestamp.keep Kc212 nin0
  have E_fu_212 : Exa Z T212.heap fu cOL := E_fu.keep Kc212
  have F_fu_isPresent_212 : Fld Z T212.heap fu cOL nIP "Z" (.int (1 : Int32)) := F_fu_isPresent.keep Kc212 nin0
  have F_fu_value_212 : Fld Z T212.heap fu cOL "value" "J" (.long q3) := F_fu_value.keep Kc212 nin0
  have E_nw_212 : Exa Z T212.heap nw cOL := E_nw.keep Kc212
  have F_nw_isPresent_212 : Fld Z T212.heap nw cOL nIP "Z" (.int (1 : Int32)) := F_nw_isPresent.keep Kc212 nin0
  have F_nw_value_212 : Fld Z T212.heap nw cOL "value" "J" (.long q4) := F_nw_value.keep Kc212 nin0
  have K212 : Keep h0 T212.heap [] := K0.trans Kc212 all0
  have E_w212_212c : Exa Z T212.heap w212 cOL := P212_1
  have F_w212_isPresent_212c : Fld Z T212.heap w212 cOL nIP "Z" (.int (1 : Int32)) := P212_2
  have F_w212_value_212c : Fld Z T212.heap w212 cOL "value" "J" (.long (q2 - q1)) := P212_3
  refine gs T212 (mkF m 4 #[rv th, rv rr, rv nw, .unset, .unset] [(.ref w212)]) (fun _ hr => st212.trans hr) ?_
  refine gs T212 (mkF m 5 #[rv th, rv rr, rv nw, rv w212, .unset] []) (fun _ hr => XS.astoreN X212.here hx rfl (hb hby d25_4) rfl rfl (l' := #[rv th, rv rr, rv nw, rv w212, .unset]) rfl hr) ?_
  refine gs T212 (mkF m 6 #[rv th, rv rr, rv nw, rv w212, .unset] [(.ref w212)]) (fun _ hr => XS.aloadN X212.here hx rfl (hb hby d25_5) rfl rfl hr) ?_
  have Zs213 : n0 ≤ T212.heap.size := Nat.le_trans Z0 K212.1
  obtain ⟨cq214, kq214, q214a, q214b, q214c⟩ := isOf hZ rfl E_w212_212c
  obtain ⟨_, _, ⟨T214, L214, k214, n214⟩, -, X214, ⟨Lc214, hQ214, l214, y214, z214⟩, st214⟩ := X212.virtualBack hx (y := Y6) (z := Y6) hown (mvT hZ (tw hw 179 rfl)) (mvT hZ (tw hw 77 rfl)) (notFace_of_selects (args := #[]) (mvT hZ (tw hw 79 rfl))) (mvT hZ (tw hw 79 rfl)) (mvT hZ (tw hw 78 rfl)) (by decide) (backOf (W := 0) (rm_ole1 l Z a0 hw [] w212 T212.heap n0 Zs213 (Old.keep O0 K212 hws) F_w212_isPresent_212c) hZ (tw hw 80 rfl) (tw hw 3 rfl) (by decide) (by decide)) q214a q214c (g := (mkF m 6 #[rv th, rv rr, rv nw, rv w212, .unset] [(.ref w212)])) rfl (by rw [hml]; rfl) (Steps.refl _) (argsL := []) (rest := []) (lenOf pd_1 rfl) rfl (wle rfl) (hb hby d25_6) (fun _ _ => ⟨rfl, rfl, (by decide : 3 + 0 ≤ _), (by decide : 6 + 0 ≤ _)⟩)
  dsimp only [Pt.U, Pt.locs, Pt.cells, Pt.slots] at X214 l214 y214 z214 st214 hQ214
  subst l214 y214 z214
  obtain ⟨rfl, N214q, e214⟩ := hQ214
  have N214 := Fr.app N212 N214q
  refine gs T214 (mkF m 9 #[rv th, rv rr, rv nw, rv w212, .unset] [(.int (0 : Int32))]) (fun _ hr => st214.trans hr) ?_
  refine gs T214 (mkF m 20 #[rv th, rv rr, rv nw, rv w212, .unset] []) (fun _ hr => XS.ifYes X214.here hx rfl (pc0 := 9) (pc' := 20) rfl (hb hby d25_9) rfl ((if0 _ _).trans (teq (by decide : (0 : Int32) = (0 : Int32))).1) (by decide) (by decide) hr) ?_
  refine gs T214 (mkF m 21 #[rv th, rv rr, rv nw, rv w212, .unset] [(.ref w212)]) (fun _ hr => XS.aloadN X214.here hx rfl (hb hby d25_20) rfl rfl hr) ?_
  have Zs215 : n0 ≤ T212.heap.size := Nat.le_trans Z0 K212.1
  obtain ⟨cq216, kq216, q216a, q216b, q216c⟩ := isOf hZ e214 E_w212_212c
  obtain ⟨_, _, ⟨T216, L216, k216, n216⟩, -, X216, ⟨Lc216, hQ216, l216, y216, z216⟩, st216⟩ := X214.virtualBack hx (y := Y7) (z := Y7) hown (mvT hZ (tw hw 180 rfl)) (mvT hZ (tw hw 150 rfl)) (notFace_of_selects (args := #[]) (mvT hZ (tw hw 152 rfl))) (mvT hZ (tw hw 152 rfl)) (mvT hZ (tw hw 151 rfl)) (by decide) (backOf (W := 0) (rm_olg l Z a0 hw [] w212 (q2 - q1) T212.heap n0 Zs215 (Old.keep O0 K212 hws) F_w212_isPresent_212c F_w212_value_212c) hZ (tw hw 153 rfl) (tw hw 3 rfl) (by decide) (by decide)) q216a q216c (g := (mkF m 21 #[rv th, rv rr, rv nw, rv w212, .unset] [(.ref w212)])) rfl (by rw [hml]; rfl) (Steps.refl _) (argsL := []) (rest := []) (lenOf pd_5 rfl) rfl (wle rfl) (hb hby d25_21) (fun _ _ => ⟨rfl, e214, (by decide : 3 + 0 ≤ _), (by decide : 6 + 0 ≤ _)⟩)
  dsimp only [Pt.U, Pt.locs, Pt.cells, Pt.slots] at X216 l216 y216 z216 st216 hQ216
  subst l216 y216 z216
  obtain ⟨rfl, N216q, e216⟩ := hQ216
  have N216 := Fr.app N214 N216q
  refine gs T216 (mkF m 24 #[rv th, rv rr, rv nw, rv w212, .unset] [(.long (q2 - q1))]) (fun _ hr => st216.trans hr) ?_
  refine gs T216 (mkF m 25 #[rv th, rv rr, rv nw, rv w212, .unset] [(.long (0 : Int64)), (.long (q2 - q1))]) (fun _ hr => XT.lconst X216.here hx rfl (hb hby d25_24) hr) ?_
  refine gs T216 (mkF m 26 #[rv th, rv rr, rv nw, rv w212, .unset] [(.int (XT.cmpL (q2 - q1) (0 : Int64)))]) (fun _ hr => XT.lcmp X216.here hx rfl (hb hby d25_25) rfl hr) ?_
  refine gs T216 (mkF m 29 #[rv th, rv rr, rv nw, rv w212, .unset] []) (fun _ hr => XS.ifNo X216.here hx rfl (hb hby d25_26) rfl ((if0 _ _).trans (tlt (hpp : (0 : Int32) < (XT.cmpL (q2 - q1) (0 : Int64)))).2.2.2) hr) ?_
  refine gs T216 (mkF m 30 #[rv th, rv rr, rv nw, rv w212, .unset] [(.ref nw)]) (fun _ hr => XS.aloadN X216.here hx rfl (hb hby d25_29) rfl rfl hr) ?_
  refine gs T216 (mkF m 31 #[rv th, rv rr, rv nw, rv w212, .unset] [(.ref rr), (.ref nw)]) (fun _ hr => XS.aloadN X216.here hx rfl (hb hby d25_30) rfl rfl hr) ?_
  have Zs217 : n0 ≤ T212.heap.size := Nat.le_trans Z0 K212.1
  obtain ⟨cq218, kq218, q218a, q218b, q218c⟩ := isOf hZ e216 E_rr_212
  obtain ⟨_, _, ⟨T218, L218, k218, n218⟩, -, X218, ⟨Lc218, hQ218, l218, y218, z218⟩, st218⟩ := X216.virtualBack hx (y := Y12) (z := Y12) hown (mvT hZ (tw hw 186 rfl)) (mvT hZ (tw hw 187 rfl)) (notFace_of_selects (args := #[]) (mvT hZ (tw hw 189 rfl))) (mvT hZ (tw hw 189 rfl)) (mvT hZ (tw hw 188 rfl)) (by decide) (backOf (W := 1) (rm_firstUnreadTimestamp l Z a0 hw [] rr fu T212.heap n0 Zs217 (Old.keep O0 K212 hws) F_rr_firstUnreadTimestamp_212) hZ (tw hw 190 rfl) (tw hw 96 rfl) (by decide) (by decide)) q218a q218c (g := (mkF m 31 #[rv th, rv rr, rv nw, rv w212, .unset] [(.ref rr), (.ref nw)])) rfl (by rw [hml]; rfl) (Steps.refl _) (argsL := []) (rest := [(.ref nw)]) (lenOf pd_6 rfl) rfl (wle rfl) (hb hby d25_31) (fun _ _ => ⟨rfl, e216, (by decide : 3 + 0 ≤ _), (by decide : 6 + 0 ≤ _)⟩)
  dsimp only [Pt.U, Pt.locs, Pt.cells, Pt.slots] at X218 l218 y218 z218 st218 hQ218
  subst l218 y218 z218
  obtain ⟨rfl, N218q, e218⟩ := hQ218
  have N218 := Fr.app N216 N218q
  refine gs T218 (mkF m 34 #[rv th, rv rr, rv nw, rv w212, .unset] [(.ref fu), (.ref nw)]) (fun _ hr => st218.trans hr) ?_
  have Zs219 : n0 ≤ T212.heap.size := Nat.le_trans Z0 K212.1
  obtain ⟨_, _, ⟨T220, L220, k220, n220⟩, -, X220, ⟨Lc220, hQ220, l220, y220, z220⟩, st220⟩ := LawKit.callS X218 hx (y := Y23) hown (mvT hZ (tw hw 191 rfl)) (mvT hZ (tw hw 192 rfl)) (mvT hZ (tw hw 146 rfl)) (mvT hZ (tw hw 193 rfl)) (by decide) (backOf (W := 0) (rm_ms110 l Z a0 hw [] nw fu q3 q4 em T212.heap n0 Zs219 (Old.keep O0 K212 hws) E_nw_212 F_nw_isPresent_212 F_nw_value_212 E_fu_212 F_fu_isPresent_212 F_fu_value_212 S_OptionalLong_EMPTY_old E_em_old F_em_isPresent_old F_em_value_old hmn) hZ (tw hw 193 rfl) (tw hw 146 rfl) (by decide) (by decide)) (g := (mkF m 34 #[rv th, rv rr, rv nw, rv w212, .unset] [(.ref fu), (.ref nw)])) rfl (by rw [hml]; rfl) (argsL := [(.ref nw), (.ref fu)]) (rest := []) (lenOf pd_11 rfl) rfl (wle rfl) (hb hby d25_34) (fun _ _ => ⟨rfl, e218, (by decide : 3 + 1 ≤ _), (by decide : 6 + 2 ≤ _)⟩)
  dsimp only [Pt.U, Pt.locs, Pt.cells, Pt.slots] at X220 l220 y220 z220 st220 hQ220
  subst l220 y220 z220
  obtain ⟨w220, rfl, N220q, Kc220, P220_0, P220_1, P220_2, P220_3⟩ := hQ220
  have N220 := Fr.app N218 N220q
  have K220 : Keep h0 T220.heap [] := K212.trans Kc220 all0
  have E_w220_220c : Exa Z T220.heap w220 cOL := P220_1
  have F_w220_isPresent_220c : Fld Z T220.heap w220 cOL nIP "Z" (.int (1 : Int32)) := P220_2
  have F_w220_value_220c : Fld Z T220.heap w220 cOL "value" "J" (.long (0 : Int64)) := P220_3
  refine gs T220 (mkF m 37 #[rv th, rv rr, rv nw, rv w212, .unset] [(.ref w220)]) st220 ?_
  refine gs T220 (mkF m 38 #[rv th, rv rr, rv nw, rv w212, .unset] [(.long (0 : Int64)), (.ref w220)]) (fun _ hr => XT.lconst X220.here hx rfl (hb hby d25_37) hr) ?_
  have Zs221 : n0 ≤ T220.heap.size := Nat.le_trans Z0 K220.1
  obtain ⟨cq222, kq222, q222a, q222b, q222c⟩ := isOf hZ rfl E_w220_220c
  obtain ⟨_, _, ⟨T222, L222, k222, n222⟩, -, X222, ⟨Lc222, hQ222, l222, y222, z222⟩, st222⟩ := X220.virtualBack hx (y := Y8) (z := Y8) hown (mvT hZ (tw hw 198 rfl)) (mvT hZ (tw hw 199 rfl)) (notFace_of_selects (args := #[]) (mvT hZ (tw hw 201 rfl))) (mvT hZ (tw hw 201 rfl)) (mvT hZ (tw hw 200 rfl)) (by decide) (backOf (W := 0) (rm_olo1 l Z a0 hw [] w220 (0 : Int64) (0 : Int64) T220.heap n0 Zs221 (Old.keep O0 K220 hws) F_w220_isPresent_220c F_w220_value_220c) hZ (tw hw 202 rfl) (tw hw 3 rfl) (by decide) (by decide)) q222a q222c (g := (mkF m 38 #[rv th, rv rr, rv nw, rv w212, .unset] [(.long (0 : Int64)), (.ref w220)])) rfl (by rw [hml]; rfl) (Steps.refl _) (argsL := [(.long (0 : Int64))]) (rest := []) (lenOf pd_13 rfl) rfl (wle rfl) (hb hby d25_38) (fun _ _ => ⟨rfl, rfl, (by decide : 4 + 0 ≤ _), (by decide : 8 + 0 ≤ _)⟩)
  dsimp only [Pt.U, Pt.locs, Pt.cells, Pt.slots] at X222 l222 y222 z222 st222 hQ222
  subst l222 y222 z222
  obtain ⟨rfl, N222q, e222⟩ := hQ222
  have N222 := Fr.app N220 N222q
  refine gs T222 (mkF m 41 #[rv th, rv rr, rv nw, rv w212, .unset] [(.long (0 : Int64))]) (fun _ hr => st222.trans hr) ?_
  have Zs223 : n0 ≤ T220.heap.size := Nat.le_trans Z0 K220.1
  obtain ⟨_, _, ⟨T224, L224, k224, n224⟩, -, X224, ⟨Lc224, hQ224, l224, y224, z224⟩, st224⟩ := LawKit.callS X222 hx (y := Y3) hown (mvT hZ (tw hw 134 rfl)) (mvT hZ (tw hw 84 rfl)) (mvT hZ (tw hw 3 rfl)) (mvT hZ (tw hw 85 rfl)) (by decide) (backOf (W := 0) (rm_olof l Z a0 hw [] (0 : Int64) T220.heap n0 Zs223 (Old.keep O0 K220 hws)) hZ (tw hw 85 rfl) (tw hw 3 rfl) (by decide) (by decide)) (g := (mkF m 41 #[rv th, rv rr, rv nw, rv w212, .unset] [(.long (0 : Int64))])) rfl (by rw [hml]; rfl) (argsL := [(.long (0 : Int64))]) (rest := []) (lenOf pd_7 rfl) rfl (wle rfl) (hb hby d25_41) (fun _ _ => ⟨rfl, e222, (by decide : 4 + 1 ≤ _), (by decide : 8 + 2 ≤ _)⟩)
  dsimp only [Pt.U, Pt.locs, Pt.cells, Pt.slots] at X224 l224 y224 z224 st224 hQ224
  subst l224 y224 z224
  obtain ⟨w224, rfl, N224q, Kc224, P224_0, P224_1, P224_2, P224_3⟩ := hQ224
  have N224 := Fr.app N222 N224q
  have K224 : Keep h0 T224.heap [] := K220.trans Kc224 all0
  have sz_w224 : h0.size ≤ w224 := Nat.le_trans K220.1 P224_0
  have E_w224_224c : Exa Z T224.heap w224 cOL := P224_1
  have F_w224_isPresent_224c : Fld Z T224.heap w224 cOL nIP "Z" (.int (1 : Int32)) := P224_2
  have F_w224_value_224c : Fld Z T224.heap w224 cOL "value" "J" (.long (0 : Int64)) := P224_3
  refine gs T224 (mkF m 44 #[rv th, rv rr, rv nw, rv w212, .unset] [(.ref w224)]) st224 ?_
  refine gs T224 (mkF m 46 #[rv th, rv rr, rv nw, rv w212, rv w224] []) (fun _ hr => XS.astore X224.here hx rfl (hb hby d25_44) rfl rfl (l' := #[rv th, rv rr, rv nw, rv w212, rv w224]) rfl hr) ?_
  refine gs T224 (mkF m 55 #[rv th, rv rr, rv nw, rv w212, rv w224] []) (fun _ hr => XS.goto X224.here hx rfl (pc0 := 46) (pc' := 55) rfl (hb hby d25_46) (by decide) (by decide) hr) ?_
  refine gs T224 (mkF m 57 #[rv th, rv rr, rv nw, rv w212, rv w224] [(.ref w224)]) (fun _ hr => XS.aload X224.here hx rfl (hb hby d25_55) rfl rfl hr) ?_
  exact Goes.ret (v := some (.ref w224)) X224 (by decide) (by decide) (fun h => by rw [Bd.returns] at h; cases h) (by show Q_rm_beh_p0 Z th rr em q1 q2 op eo nw fu q3 q4 h0 n0 _ T224.heap _; exact ⟨w224, rfl, N224, K224, sz_w224, E_w224_224c, F_w224_isPresent_224c, F_w224_value_224c⟩) (fun fs hr => retOut X224 hx Bd.returns rfl (Or.inr (Or.inr (Or.inr (Or.inr ⟨rfl, rfl, rfl⟩)))) (hb hby d25_57) hr)
theorem d26_0 : decode prog_13_method_13_code 0 = .ok (.aload_n 0, 1) := by decide +kernel
theorem d26_1 : decode prog_13_method_13_code 1 = .ok (.aload_n 1, 1) := by decide +kernel
theorem d26_2 : decode prog_13_method_13_code 2 = .ok (.aload_n 1, 1) := by decide +kernel
theorem d26_3 : decode prog_13_method_13_code 3 = .ok (.invokevirtual 101, 3) := by decide +kernel
theorem d26_6 : decode prog_13_method_13_code 6 = .ok (.invokestatic 41, 3) := by decide +kernel
theorem d26_9 : decode prog_13_method_13_code 9 = .ok (.invokevirtual 104, 3) := by decide +kernel
theorem d26_12 : decode prog_13_method_13_code 12 = .ok (.areturn, 1) := by decide +kernel
def Q_rm_lam_gt (Z : State) (th : Addr) (rr : Addr) (em : Addr) (q1 : Int64) (q2 : Int64) (q4 : Int64) (h0 : Heap) (n0 : Nat) (v : Option Value) (h : Heap) (L : List Loc) : Prop := v = some (.ref em) ∧ Fr n0 L ∧ Keep h0 h []
set_option maxRecDepth 65536 in
set_option maxHeartbeats 40000000 in
theorem rm_lam_gt (l : Launch) (Z : State) (a0 : Array Value) (hw : ∀ d ∈ tables_1, d.before a0 Z = true) (ws : List Jvm.Cond) (th : Addr) (rr : Addr) (em : Addr) (q1 : Int64) (q2 : Int64) (q4 : Int64) (h0 : Heap) (n0 : Nat) (Z0 : n0 ≤ h0.size) (O0 : Old Z n0 h0) (E_th : Exa Z h0 th cPL) (F_th_offset : Fld Z h0 th cPL "offset" "J" (.long q1)) (F_th_end : Fld Z h0 th cPL "end" "J" (.long q2)) (E_rr : Exa Z h0 rr cRR) (F_rr_lookedAt : Fld Z h0 rr cRR "lookedAt" "J" (.long q4)) (S_OptionalLong_EMPTY_old : Sta Z Z.heap cOL "EMPTY" dOL (.ref em)) (E_em_old : Exa Z Z.heap em cOL) (F_em_isPresent_old : Fld Z Z.heap em cOL nIP "Z" (.int (0 : Int32))) (F_em_value_old : Fld Z Z.heap em cOL "value" "J" (.long (0 : Int64))) (hgt : (0 : Int32) < (XT.cmpL q1 q2)) :
    MetFree l Y0 (head1 (Cond.code Y0 prog_13_method_13_code 2 (some (.object cOL)) :: ws) r13) (fun a U => a = #[(.ref th), (.ref rr)] ∧ Z.Warmed39 U.vm ∧ U.heap = h0) (fun _ _ _ _ _ => True) (fun _ U o U' => ∃ v L, o = .returned v ∧ Q_rm_lam_gt Z th rr em q1 q2 q4 h0 n0 v U'.heap L ∧ FrameEnd U o U' L r13.cells r13.slots) := by
  refine MetFree.of_bodySF (plainFor_of_name pn_com_example_log_lag_gauge_loglaggauge_model_PositionLag) hisR ?_
  intro p e s m args below meth c s₁ Bd hml0 hP hK
  obtain ⟨rfl, hZ, hh⟩ := hP
  have hx := Bd.exec
  have hby := Bd.bytes
  have hml : c.maxLocals = 2 := hml0
  have hown : s.vm.findClass cPL = some m.cls := findClass_of_methodNamed Bd.named
  have hnm := (name_of_methodNamed Bd.named Bd.method).1
  have X0 : Stand p l e r13 s m #[(.ref th), (.ref rr)] below meth c s₁ [] 0 0 := Stand.of_body Bd
  have e0 : s₁.heap = h0 := by rw [← hh, Bd.state]; rfl
  have N0 := Fr.nil n0
  refine Goes.out (l := l) (c := c) (R := r13) (Q := Q_rm_lam_gt Z th rr em q1 q2 q4 h0 n0) Bd.notSynchronized ?_
  refine Goes.cast (g2 := mkF m 0 #[rv th, rv rr] []) (by first | (simp [entryFrame, mkF, argsToLocals, Value.category]; done) | rfl) ?_
  have K0 : Keep h0 h0 [] := Keep.refl h0 _
  have hws : ∀ x ∈ ([] : List Addr), n0 ≤ x := all0
  refine gs s₁ (mkF m 1 #[rv th, rv rr] [(.ref th)]) (fun _ hr => XS.aloadN X0.here hx rfl (hb hby d26_0) rfl rfl hr) ?_
  refine gs s₁ (mkF m 2 #[rv th, rv rr] [(.ref rr), (.ref th)]) (fun _ hr => XS.aloadN X0.here hx rfl (hb hby d26_1) rfl rfl hr) ?_
  refine gs s₁ (mkF m 3 #[rv th, rv rr] [(.ref rr), (.ref rr), (.ref th)]) (fun _ hr => XS.aloadN X0.here hx rfl (hb hby d26_2) rfl rfl hr) ?_
  have Zs225 : n0 ≤ h0.size := Nat.le_trans Z0 K0.1
  obtain ⟨cq226, kq226, q226a, q226b, q226c⟩ := isOf hZ e0 E_rr
  obtain ⟨_, _, ⟨T226, L226, k226, n226⟩, -, X226, ⟨Lc226, hQ226, l226, y226, z226⟩, st226⟩ := X0.virtualBack hx (y := Y11) (z := Y11) hown (mvT hZ (tw hw 129 rfl)) (mvT hZ (tw hw 130 rfl)) (notFace_of_selects (args := #[]) (mvT hZ (tw hw 132 rfl))) (mvT hZ (tw hw 132 rfl)) (mvT hZ (tw hw 131 rfl)) (by decide) (backOf (W := 2) (rm_lookedAt l Z a0 hw [] rr q4 h0 n0 Zs225 (Old.keep O0 K0 hws) F_rr_lookedAt) hZ (tw hw 133 rfl) (tw hw 96 rfl) (by decide) (by decide)) q226a q226c (g := (mkF m 3 #[rv th, rv rr] [(.ref rr), (.ref rr), (.ref th)])) rfl (by rw [hml]; rfl) (Steps.refl _) (argsL := []) (rest := [(.ref rr), (.ref th)]) (lenOf pd_5 rfl) rfl (wle rfl) (hb hby d26_3) (fun _ _ => ⟨rfl, e0, (by decide : 0 + 0 ≤ _), (by decide : 0 + 0 ≤ _)⟩)
  dsimp only [Pt.U, Pt.locs, Pt.cells, Pt.slots] at X226 l226 y226 z226 st226 hQ226
  subst l226 y226 z226
  obtain ⟨rfl, N226q, e226⟩ := hQ226
  have N226 := Fr.app N0 N226q
  refine gs T226 (mkF m 6 #[rv th, rv rr] [(.long q4), (.ref rr), (.ref th)]) (fun _ hr => st226.trans hr) ?_
  have Zs227 : n0 ≤ h0.size := Nat.le_trans Z0 K0.1
  obtain ⟨_, _, ⟨T228, L228, k228, n228⟩, -, X228, ⟨Lc228, hQ228, l228, y228, z228⟩, st228⟩ := LawKit.callS X226 hx (y := Y3) hown (mvT hZ (tw hw 134 rfl)) (mvT hZ (tw hw 84 rfl)) (mvT hZ (tw hw 3 rfl)) (mvT hZ (tw hw 85 rfl)) (by decide) (backOf (W := 2) (rm_olof l Z a0 hw [] q4 h0 n0 Zs227 (Old.keep O0 K0 hws)) hZ (tw hw 85 rfl) (tw hw 3 rfl) (by decide) (by decide)) (g := (mkF m 6 #[rv th, rv rr] [(.long q4), (.ref rr), (.ref th)])) rfl (by rw [hml]; rfl) (argsL := [(.long q4)]) (rest := [(.ref rr), (.ref th)]) (lenOf pd_7 rfl) rfl (wle rfl) (hb hby d26_6) (fun _ _ => ⟨rfl, e226, (by decide : 0 + 1 ≤ _), (by decide : 0 + 2 ≤ _)⟩)
  dsimp only [Pt.U, Pt.locs, Pt.cells, Pt.slots] at X228 l228 y228 z228 st228 hQ228
  subst l228 y228 z228
  obtain ⟨w228, rfl, N228q, Kc228, P228_0, P228_1, P228_2, P228_3⟩ := hQ228
  have N228 := Fr.app N226 N228q
  have E_th_228 : Exa Z T228.heap th cPL := E_th.keep Kc228
  have F_th_offset_228 : Fld Z T228.heap th cPL "offset" "J" (.long q1) := F_th_offset.keep Kc228 nin0
  have F_th_end_228 : Fld Z T228.heap th cPL "end" "J" (.long q2) := F_th_end.keep Kc228 nin0
  have K228 : Keep h0 T228.heap [] := K0.trans Kc228 all0
  refine gs T228 (mkF m 9 #[rv th, rv rr] [(.ref w228), (.ref rr), (.ref th)]) st228 ?_
  have Zs229 : n0 ≤ T228.heap.size := Nat.le_trans Z0 K228.1
  obtain ⟨cl230, kl230, q230a, -, -, q230d, -⟩ := id E_th_228
  obtain ⟨_, _, ⟨T230, L230, k230, n230⟩, -, X230, ⟨Lc230, hQ230, l230, y230, z230⟩, st230⟩ := X228.privateBack hx (y := Y27) hown (mvT hZ (tw hw 135 rfl)) (mvT hZ (tw hw 136 rfl)) (own_selP (mvT hZ (tw hw 12 rfl)) (mvT hZ (tw hw 137 rfl)) (mvT hZ (tw hw 136 rfl)) (by decide)) (Cond.privateMethod_at (args := #[]) (mvT hZ (tw hw 137 rfl))) (mvT hZ (tw hw 138 rfl)) (by decide) (backOf (W := 0) (rm_beh_gt l Z a0 hw [] th rr em q1 q2 w228 T228.heap n0 Zs229 (Old.keep O0 K228 hws) E_th_228 F_th_offset_228 F_th_end_228 S_OptionalLong_EMPTY_old E_em_old F_em_isPresent_old F_em_value_old hgt) hZ (tw hw 138 rfl) (tw hw 13 rfl) (by decide) (by decide)) (g := (mkF m 9 #[rv th, rv rr] [(.ref w228), (.ref rr), (.ref th)])) rfl (by rw [hml]; rfl) (Steps.refl _) (own_at rfl q230a) (fun q z => by rw [z] at q230d; cases q230d) (argsL := [(.ref rr), (.ref w228)]) (rest := []) (lenOf pd_14 rfl) rfl (wle rfl) (hb hby d26_9) (fun _ _ => ⟨rfl, rfl, (by decide : 1 + 2 ≤ _), (by decide : 2 + 4 ≤ _)⟩)
  dsimp only [Pt.U, Pt.locs, Pt.cells, Pt.slots] at X230 l230 y230 z230 st230 hQ230
  subst l230 y230 z230
  obtain ⟨rfl, N230q, Kc230⟩ := hQ230
  have N230 := Fr.app N228 N230q
  have K230 : Keep h0 T230.heap [] := K228.trans Kc230 all0
  refine gs T230 (mkF m 12 #[rv th, rv rr] [(.ref em)]) (fun _ hr => st230.trans hr) ?_
  exact Goes.ret (v := some (.ref em)) X230 (by decide) (by decide) (fun h => by rw [Bd.returns] at h; cases h) (by show Q_rm_lam_gt Z th rr em q1 q2 q4 h0 n0 _ T230.heap _; exact ⟨rfl, N230, K230⟩) (fun fs hr => retOut X230 hx Bd.returns rfl (Or.inr (Or.inr (Or.inr (Or.inr ⟨rfl, rfl, rfl⟩)))) (hb hby d26_12) hr)
theorem d27_0 : decode jdk_32_method_11_code 0 = .ok (.aload_n 1, 1) := by decide +kernel
theorem d27_1 : decode jdk_32_method_11_code 1 = .ok (.invokestatic 17, 3) := by decide +kernel
theorem d27_4 : decode jdk_32_method_11_code 4 = .ok (.pop, 1) := by decide +kernel
theorem d27_5 : decode jdk_32_method_11_code 5 = .ok (.aload_n 0, 1) := by decide +kernel
theorem d27_6 : decode jdk_32_method_11_code 6 = .ok (.invokevirtual 43, 3) := by decide +kernel
theorem d27_9 : decode jdk_32_method_11_code 9 = .ok (.ifCond .eq 7, 3) := by decide +kernel
theorem d27_16 : decode jdk_32_method_11_code 16 = .ok (.aload_n 1, 1) := by decide +kernel
theorem d27_17 : decode jdk_32_method_11_code 17 = .ok (.aload_n 0, 1) := by decide +kernel
theorem d27_18 : decode jdk_32_method_11_code 18 = .ok (.getfield 13, 3) := by decide +kernel
theorem d27_21 : decode jdk_32_method_11_code 21 = .ok (.invokeinterface 57 2, 5) := by decide +kernel
theorem d27_26 : decode jdk_32_method_11_code 26 = .ok (.invokestatic 62, 3) := by decide +kernel
theorem d27_29 : decode jdk_32_method_11_code 29 = .ok (.areturn, 1) := by decide +kernel
def Q_rm_map_gt (Z : State) (th : Addr) (rr : Addr) (em : Addr) (q1 : Int64) (q2 : Int64) (q4 : Int64) (op : Addr) (eo : Addr) (fa : Addr) (cK : ClassId) (h0 : Heap) (n0 : Nat) (v : Option Value) (h : Heap) (L : List Loc) : Prop := ∃ w : Addr, v = some (.ref w) ∧ Fr n0 L ∧ Keep h0 h [] ∧ h0.size ≤ w ∧ Exa Z h w cOP ∧ Fld Z h w cOP "value" dOB (.ref em)
set_option maxRecDepth 65536 in
set_option maxHeartbeats 40000000 in
theorem rm_map_gt (l : Launch) (Z : State) (a0 : Array Value) (hw : ∀ d ∈ tables_1, d.before a0 Z = true) (ws : List Jvm.Cond) (th : Addr) (rr : Addr) (em : Addr) (q1 : Int64) (q2 : Int64) (q4 : Int64) (op : Addr) (eo : Addr) (fa : Addr) (cK : ClassId) (h0 : Heap) (n0 : Nat) (Z0 : n0 ≤ h0.size) (O0 : Old Z n0 h0) (E_th : Exa Z h0 th cPL) (F_th_offset : Fld Z h0 th cPL "offset" "J" (.long q1)) (F_th_end : Fld Z h0 th cPL "end" "J" (.long q2)) (E_rr : Exa Z h0 rr cRR) (F_rr_lookedAt : Fld Z h0 rr cRR "lookedAt" "J" (.long q4)) (E_op : Exa Z h0 op cOP) (F_op_value : Fld Z h0 op cOP "value" dOB (.ref rr)) (G_fa : FnV h0 fa cK #[(.ref th)]) (S_OptionalLong_EMPTY_old : Sta Z Z.heap cOL "EMPTY" dOL (.ref em)) (E_em_old : Exa Z Z.heap em cOL) (F_em_isPresent_old : Fld Z Z.heap em cOL nIP "Z" (.int (0 : Int32))) (F_em_value_old : Fld Z Z.heap em cOL "value" "J" (.long (0 : Int64))) (S_Optional_EMPTY_old : Sta Z Z.heap cOP "EMPTY" dOP (.ref eo)) (E_eo_old : Exa Z Z.heap eo cOP) (F_eo_value_old : Fld Z Z.heap eo cOP "value" dOB .null) (hgt : (0 : Int32) < (XT.cmpL q1 q2)) (Md : Jvm.LamKit.Made Z cPL sgA cK) :
    MetFree l Y29 (head1 (Cond.code Y29 jdk_32_method_11_code 2 (some (.object cOP)) :: ws) r14) (fun a U => a = #[(.ref op), (.ref fa)] ∧ Z.Warmed39 U.vm ∧ U.heap = h0) (fun _ _ _ _ _ => True) (fun _ U o U' => ∃ v L, o = .returned v ∧ Q_rm_map_gt Z th rr em q1 q2 q4 op eo fa cK h0 n0 v U'.heap L ∧ FrameEnd U o U' L r14.cells r14.slots) := by
  refine MetFree.of_bodySF (plainFor_of_name pn_java_util_Optional) hisR ?_
  intro p e s m args below meth c s₁ Bd hml0 hP hK
  obtain ⟨rfl, hZ, hh⟩ := hP
  have hx := Bd.exec
  have hby := Bd.bytes
  have hml : c.maxLocals = 2 := hml0
  have hown : s.vm.findClass cOP = some m.cls := findClass_of_methodNamed Bd.named
  have hnm := (name_of_methodNamed Bd.named Bd.method).1
  have X0 : Stand p l e r14 s m #[(.ref op), (.ref fa)] below meth c s₁ [] 0 0 := Stand.of_body Bd
  have e0 : s₁.heap = h0 := by rw [← hh, Bd.state]; rfl
  have N0 := Fr.nil n0
  refine Goes.out (l := l) (c := c) (R := r14) (Q := Q_rm_map_gt Z th rr em q1 q2 q4 op eo fa cK h0 n0) Bd.notSynchronized ?_
  refine Goes.cast (g2 := mkF m 0 #[rv op, rv fa] []) (by first | (simp [entryFrame, mkF, argsToLocals, Value.category]; done) | rfl) ?_
  have K0 : Keep h0 h0 [] := Keep.refl h0 _
  have hws : ∀ x ∈ ([] : List Addr), n0 ≤ x := all0
  refine gs s₁ (mkF m 1 #[rv op, rv fa] [(.ref fa)]) (fun _ hr => XS.aloadN X0.here hx rfl (hb hby d27_0) rfl rfl hr) ?_
  have Zs231 : n0 ≤ h0.size := Nat.le_trans Z0 K0.1
  obtain ⟨_, _, ⟨T232, L232, k232, n232⟩, -, X232, ⟨Lc232, hQ232, l232, y232, z232⟩, st232⟩ := LawKit.callS X0 hx (y := Y13) hown (mvT hZ (tw hw 57 rfl)) (mvT hZ (tw hw 58 rfl)) (mvT hZ (tw hw 35 rfl)) (mvT hZ (tw hw 59 rfl)) (by decide) (backOf (W := 0) (rm_rnn1 l Z a0 hw [] fa h0 n0 Zs231 (Old.keep O0 K0 hws)) hZ (tw hw 59 rfl) (tw hw 35 rfl) (by decide) (by decide)) (g := (mkF m 1 #[rv op, rv fa] [(.ref fa)])) rfl (by rw [hml]; rfl) (argsL := [(.ref fa)]) (rest := []) (lenOf pd_3 rfl) rfl (wle rfl) (hb hby d27_1) (fun _ _ => ⟨rfl, e0, (by decide : 0 + 0 ≤ _), (by decide : 0 + 0 ≤ _)⟩)
  dsimp only [Pt.U, Pt.locs, Pt.cells, Pt.slots] at X232 l232 y232 z232 st232 hQ232
  subst l232 y232 z232
  obtain ⟨rfl, N232q, e232⟩ := hQ232
  have N232 := Fr.app N0 N232q
  refine gs T232 (mkF m 4 #[rv op, rv fa] [(.ref fa)]) st232 ?_
  refine gs T232 (mkF m 5 #[rv op, rv fa] []) (fun _ hr => XT.pop X232.here hx rfl (hb hby d27_4) rfl rfl hr) ?_
  refine gs T232 (mkF m 6 #[rv op, rv fa] [(.ref op)]) (fun _ hr => XS.aloadN X232.here hx rfl (hb hby d27_5) rfl rfl hr) ?_
  have Zs233 : n0 ≤ h0.size := Nat.le_trans Z0 K0.1
  obtain ⟨cq234, kq234, q234a, q234b, q234c⟩ := isOf hZ e232 E_op
  obtain ⟨_, _, ⟨T234, L234, k234, n234⟩, -, X234, ⟨Lc234, hQ234, l234, y234, z234⟩, st234⟩ := X232.virtualBack hx (y := Y18) (z := Y18) hown (mvT hZ (tw hw 60 rfl)) (mvT hZ (tw hw 61 rfl)) (notFace_of_selects (args := #[]) (mvT hZ (tw hw 63 rfl))) (mvT hZ (tw hw 63 rfl)) (mvT hZ (tw hw 62 rfl)) (by decide) (backOf (W := 0) (rm_oise1 l Z a0 hw [] op rr h0 n0 Zs233 (Old.keep O0 K0 hws) F_op_value) hZ (tw hw 64 rfl) (tw hw 8 rfl) (by decide) (by decide)) q234a q234c (g := (mkF m 6 #[rv op, rv fa] [(.ref op)])) rfl (by rw [hml]; rfl) (Steps.refl _) (argsL := []) (rest := []) (lenOf pd_1 rfl) rfl (wle rfl) (hb hby d27_6) (fun _ _ => ⟨rfl, e232, (by decide : 0 + 0 ≤ _), (by decide : 0 + 0 ≤ _)⟩)
  dsimp only [Pt.U, Pt.locs, Pt.cells, Pt.slots] at X234 l234 y234 z234 st234 hQ234
  subst l234 y234 z234
  obtain ⟨rfl, N234q, e234⟩ := hQ234
  have N234 := Fr.app N232 N234q
  refine gs T234 (mkF m 9 #[rv op, rv fa] [(.int (0 : Int32))]) (fun _ hr => st234.trans hr) ?_
  refine gs T234 (mkF m 16 #[rv op, rv fa] []) (fun _ hr => XS.ifYes X234.here hx rfl (pc0 := 9) (pc' := 16) rfl (hb hby d27_9) rfl ((if0 _ _).trans (teq (by decide : (0 : Int32) = (0 : Int32))).1) (by decide) (by decide) hr) ?_
  refine gs T234 (mkF m 17 #[rv op, rv fa] [(.ref fa)]) (fun _ hr => XS.aloadN X234.here hx rfl (hb hby d27_16) rfl rfl hr) ?_
  refine gs T234 (mkF m 18 #[rv op, rv fa] [(.ref op), (.ref fa)]) (fun _ hr => XS.aloadN X234.here hx rfl (hb hby d27_17) rfl rfl hr) ?_
  obtain ⟨T235, X235, e235, st235⟩ := getF X234 hx hZ hown (host := "") (Or.inl (tw hw 65 rfl)) Via.refl e234 F_op_value (g := (mkF m 18 #[rv op, rv fa] [(.ref op), (.ref fa)])) rfl rfl (hb hby d27_18)
  refine gs T235 (mkF m 21 #[rv op, rv fa] [(.ref rr), (.ref fa)]) st235 ?_
  have Zs236 : n0 ≤ h0.size := Nat.le_trans Z0 K0.1
  obtain ⟨_, T237, Lc237, X237, hQ237, st237⟩ := own_callFace X235 hx hZ (xi := Y28) hown (tw hw 122 rfl) (tw hw 123 rfl) (tw hw 124 rfl) ⟨rfl, rfl, by decide +kernel⟩ (by decide) Md e235 G_fa okA (g := (mkF m 21 #[rv op, rv fa] [(.ref rr), (.ref fa)])) rfl (by rw [hml]; rfl) (argsL := [(.ref rr)]) (rest := []) (lenOf pd_3 rfl) rfl (hb hby d27_21) (R' := r15) (Q := Q_rm_lam_gt Z th rr em q1 q2 q4 h0 n0) (by decide) (by show 2 * 0 + 0 + 13 + 84 ≤ _; decide) (by decide) (by decide) (fun s' U bl mk ck Y' hZ' eU zq1 zq2 zq3 => bodyA hx Y' hZ' hw Md zq1 zq2 zq3 eU G_fa E_rr E_th (rm_lam_gt l Z a0 hw [] th rr em q1 q2 q4 h0 n0 Zs236 (Old.keep O0 K0 hws) E_th F_th_offset F_th_end E_rr F_rr_lookedAt S_OptionalLong_EMPTY_old E_em_old F_em_isPresent_old F_em_value_old hgt) (fun v h L q => by obtain ⟨rfl, -⟩ := q; exact ⟨_, rfl⟩) (by decide) (by decide) (by decide) (by decide))
  obtain ⟨rfl, N237q, Kc237⟩ := hQ237
  have N237 := Fr.app N234 N237q
  have K237 : Keep h0 T237.heap [] := K0.trans Kc237 all0
  refine gs T237 (mkF m 26 #[rv op, rv fa] [(.ref em)]) st237 ?_
  have Zs238 : n0 ≤ T237.heap.size := Nat.le_trans Z0 K237.1
  obtain ⟨_, _, ⟨T239, L239, k239, n239⟩, -, X239, ⟨Lc239, hQ239, l239, y239, z239⟩, st239⟩ := LawKit.callS X237 hx (y := Y16) hown (mvT hZ (tw hw 181 rfl)) (mvT hZ (tw hw 182 rfl)) (mvT hZ (tw hw 8 rfl)) (mvT hZ (tw hw 183 rfl)) (by decide) (backOf (W := 0) (rm_oofn l Z a0 hw [] em T237.heap n0 Zs238 (Old.keep O0 K237 hws)) hZ (tw hw 183 rfl) (tw hw 8 rfl) (by decide) (by decide)) (g := (mkF m 26 #[rv op, rv fa] [(.ref em)])) rfl (by rw [hml]; rfl) (argsL := [(.ref em)]) (rest := []) (lenOf pd_15 rfl) rfl (wle rfl) (hb hby d27_26) (fun _ _ => ⟨rfl, rfl, (by decide : 3 + 1 ≤ _), (by decide : 6 + 1 ≤ _)⟩)
  dsimp only [Pt.U, Pt.locs, Pt.cells, Pt.slots] at X239 l239 y239 z239 st239 hQ239
  subst l239 y239 z239
  obtain ⟨w239, rfl, N239q, Kc239, P239_0, P239_1, P239_2⟩ := hQ239
  have N239 := Fr.app N237 N239q
  have K239 : Keep h0 T239.heap [] := K237.trans Kc239 all0
  have sz_w239 : h0.size ≤ w239 := Nat.le_trans K237.1 P239_0
  have E_w239_239c : Exa Z T239.heap w239 cOP := P239_1
  have F_w239_value_239c : Fld Z T239.heap w239 cOP "value" dOB (.ref em) := P239_2
  refine gs T239 (mkF m 29 #[rv op, rv fa] [(.ref w239)]) st239 ?_
  exact Goes.ret (v := some (.ref w239)) X239 (by decide) (by decide) (fun h => by rw [Bd.returns] at h; cases h) (by show Q_rm_map_gt Z th rr em q1 q2 q4 op eo fa cK h0 n0 _ T239.heap _; exact ⟨w239, rfl, N239, K239, sz_w239, E_w239_239c, F_w239_value_239c⟩) (fun fs hr => retOut X239 hx Bd.returns rfl (Or.inr (Or.inr (Or.inr (Or.inr ⟨rfl, rfl, rfl⟩)))) (hb hby d27_29) hr)
theorem d28_0 : decode prog_13_method_5_code 0 = .ok (.aload_n 0, 1) := by decide +kernel
theorem d28_1 : decode prog_13_method_5_code 1 = .ok (.getfield 24, 3) := by decide +kernel
theorem d28_4 : decode prog_13_method_5_code 4 = .ok (.aload_n 0, 1) := by decide +kernel
theorem d28_5 : decode prog_13_method_5_code 5 = .ok (.invokedynamic 81, 5) := by decide +kernel
theorem d28_10 : decode prog_13_method_5_code 10 = .ok (.invokevirtual 69, 3) := by decide +kernel
theorem d28_13 : decode prog_13_method_5_code 13 = .ok (.invokestatic 73, 3) := by decide +kernel
theorem d28_16 : decode prog_13_method_5_code 16 = .ok (.invokevirtual 77, 3) := by decide +kernel
theorem d28_19 : decode prog_13_method_5_code 19 = .ok (.checkcast 42, 3) := by decide +kernel
theorem d28_22 : decode prog_13_method_5_code 22 = .ok (.areturn, 1) := by decide +kernel
def Q_rm_age_gt (Z : State) (th : Addr) (rr : Addr) (em : Addr) (q1 : Int64) (q2 : Int64) (q4 : Int64) (op : Addr) (eo : Addr) (h0 : Heap) (n0 : Nat) (v : Option Value) (h : Heap) (L : List Loc) : Prop := v = some (.ref em) ∧ Fr n0 L ∧ Keep h0 h []
set_option maxRecDepth 65536 in
set_option maxHeartbeats 40000000 in
theorem rm_age_gt (l : Launch) (Z : State) (a0 : Array Value) (hw : ∀ d ∈ tables_1, d.before a0 Z = true) (ws : List Jvm.Cond) (th : Addr) (rr : Addr) (em : Addr) (q1 : Int64) (q2 : Int64) (q4 : Int64) (op : Addr) (eo : Addr) (h0 : Heap) (n0 : Nat) (Z0 : n0 ≤ h0.size) (O0 : Old Z n0 h0) (E_th : Exa Z h0 th cPL) (F_th_offset : Fld Z h0 th cPL "offset" "J" (.long q1)) (F_th_end : Fld Z h0 th cPL "end" "J" (.long q2)) (E_rr : Exa Z h0 rr cRR) (F_rr_lookedAt : Fld Z h0 rr cRR "lookedAt" "J" (.long q4)) (F_th_records : Fld Z h0 th cPL "records" dOP (.ref op)) (E_op : Exa Z h0 op cOP) (F_op_value : Fld Z h0 op cOP "value" dOB (.ref rr)) (S_OptionalLong_EMPTY_old : Sta Z Z.heap cOL "EMPTY" dOL (.ref em)) (E_em_old : Exa Z Z.heap em cOL) (F_em_isPresent_old : Fld Z Z.heap em cOL nIP "Z" (.int (0 : Int32))) (F_em_value_old : Fld Z Z.heap em cOL "value" "J" (.long (0 : Int64))) (S_Optional_EMPTY_old : Sta Z Z.heap cOP "EMPTY" dOP (.ref eo)) (E_eo_old : Exa Z Z.heap eo cOP) (F_eo_value_old : Fld Z Z.heap eo cOP "value" dOB .null) (hgt : (0 : Int32) < (XT.cmpL q1 q2)) :
    MetFree l Y30 (head1 (Cond.code Y30 prog_13_method_5_code 1 (some (.object cOL)) :: ws) r16) (fun a U => a = #[(.ref th)] ∧ Z.Warmed39 U.vm ∧ U.heap = h0) (fun _ _ _ _ _ => True) (fun _ U o U' => ∃ v L, o = .returned v ∧ Q_rm_age_gt Z th rr em q1 q2 q4 op eo h0 n0 v U'.heap L ∧ FrameEnd U o U' L r16.cells r16.slots) := by
  refine MetFree.of_bodySF (plainFor_of_name pn_com_example_log_lag_gauge_loglaggauge_model_PositionLag) hisR ?_
  intro p e s m args below meth c s₁ Bd hml0 hP hK
  obtain ⟨rfl, hZ, hh⟩ := hP
  have hx := Bd.exec
  have hby := Bd.bytes
  have hml : c.maxLocals = 1 := hml0
  have hown : s.vm.findClass cPL = some m.cls := findClass_of_methodNamed Bd.named
  have hnm := (name_of_methodNamed Bd.named Bd.method).1
  have X0 : Stand p l e r16 s m #[(.ref th)] below meth c s₁ [] 0 0 := Stand.of_body Bd
  have e0 : s₁.heap = h0 := by rw [← hh, Bd.state]; rfl
  have N0 := Fr.nil n0
  refine Goes.out (l := l) (c := c) (R := r16) (Q := Q_rm_age_gt Z th rr em q1 q2 q4 op eo h0 n0) Bd.notSynchronized ?_
  refine Goes.cast (g2 := mkF m 0 #[rv th] []) (by first | (simp [entryFrame, mkF, argsToLocals, Value.category]; done) | rfl) ?_
  have K0 : Keep h0 h0 [] := Keep.refl h0 _
  have hws : ∀ x ∈ ([] : List Addr), n0 ≤ x := all0
  refine gs s₁ (mkF m 1 #[rv th] [(.ref th)]) (fun _ hr => XS.aloadN X0.here hx rfl (hb hby d28_0) rfl rfl hr) ?_
  obtain ⟨T240, X240, e240, st240⟩ := getF X0 hx hZ hown (host := "") (Or.inl (tw hw 41 rfl)) Via.refl e0 F_th_records (g := (mkF m 1 #[rv th] [(.ref th)])) rfl rfl (hb hby d28_1)
  refine gs T240 (mkF m 4 #[rv th] [(.ref op)]) st240 ?_
  refine gs T240 (mkF m 5 #[rv th] [(.ref th), (.ref op)]) (fun _ hr => XS.aloadN X240.here hx rfl (hb hby d28_4) rfl rfl hr) ?_
  obtain ⟨T241, h241, c241, X241, e241, E241, A241, Md241, st241⟩ := own_siteMakes X240 hx hZ (x := Y30) (pc := 5) (fi := 15) (σ := sgA) Bd.named (tw hw 48 rfl) (by decide) cpA (tw hw 51 rfl) e240 (g := (mkF m 5 #[rv th] [(.ref th), (.ref op)])) rfl rfl (by rw [hml]; rfl) (hb hby d28_5) (vals := [(.ref th)]) (rest := [(.ref op)]) rfl rfl own_fit1 (by show 2 * 0 + 2 + 3072 ≤ _; decide) (N := 1) rfl (by decide) (by decide)
  obtain ⟨b241, g241⟩ : ∃ z, z = h0.size := ⟨_, rfl⟩
  rw [← g241] at A241 st241
  have E_th_241 : Exa Z h241 th cPL := E_th.ext E241
  have F_th_offset_241 : Fld Z h241 th cPL "offset" "J" (.long q1) := F_th_offset.ext E241
  have F_th_end_241 : Fld Z h241 th cPL "end" "J" (.long q2) := F_th_end.ext E241
  have E_rr_241 : Exa Z h241 rr cRR := E_rr.ext E241
  have F_rr_lookedAt_241 : Fld Z h241 rr cRR "lookedAt" "J" (.long q4) := F_rr_lookedAt.ext E241
  have E_op_241 : Exa Z h241 op cOP := E_op.ext E241
  have F_op_value_241 : Fld Z h241 op cOP "value" dOB (.ref rr) := F_op_value.ext E241
  have K241 : Keep h0 h241 [] := K0.ext E241
  refine gs T241 (mkF m 10 #[rv th] [(.ref b241), (.ref op)]) st241 ?_
  have Zs242 : n0 ≤ h241.size := Nat.le_trans Z0 K241.1
  obtain ⟨cq243, kq243, q243a, q243b, q243c⟩ := isOf hZ e241 E_op_241
  obtain ⟨_, _, ⟨T243, L243, k243, n243⟩, -, X243, ⟨Lc243, hQ243, l243, y243, z243⟩, st243⟩ := X241.virtualBack hx (y := Y29) (z := Y29) hown (mvT hZ (tw hw 52 rfl)) (mvT hZ (tw hw 53 rfl)) (notFace_of_selects (args := #[]) (mvT hZ (tw hw 55 rfl))) (mvT hZ (tw hw 55 rfl)) (mvT hZ (tw hw 54 rfl)) (by decide) (backOf (W := 0) (rm_map_gt l Z a0 hw [] th rr em q1 q2 q4 op eo b241 c241 h241 n0 Zs242 (Old.keep O0 K241 hws) E_th_241 F_th_offset_241 F_th_end_241 E_rr_241 F_rr_lookedAt_241 E_op_241 F_op_value_241 A241 S_OptionalLong_EMPTY_old E_em_old F_em_isPresent_old F_em_value_old S_Optional_EMPTY_old E_eo_old F_eo_value_old hgt Md241) hZ (tw hw 56 rfl) (tw hw 8 rfl) (by decide) (by decide)) q243a q243c (g := (mkF m 10 #[rv th] [(.ref b241), (.ref op)])) rfl (by rw [hml]; rfl) (Steps.refl _) (argsL := [(.ref b241)]) (rest := []) (lenOf pd_16 rfl) rfl (wle rfl) (hb hby d28_10) (fun _ _ => ⟨rfl, e241, (by decide : 1 + 4 ≤ _), (by decide : 1 + 7 ≤ _)⟩)
  dsimp only [Pt.U, Pt.locs, Pt.cells, Pt.slots] at X243 l243 y243 z243 st243 hQ243
  subst l243 y243 z243
  obtain ⟨w243, rfl, N243q, Kc243, P243_0, P243_1, P243_2⟩ := hQ243
  have N243 := Fr.app N0 N243q
  have K243 : Keep h0 T243.heap [] := K241.trans Kc243 all0
  have E_w243_243c : Exa Z T243.heap w243 cOP := P243_1
  have F_w243_value_243c : Fld Z T243.heap w243 cOP "value" dOB (.ref em) := P243_2
  refine gs T243 (mkF m 13 #[rv th] [(.ref w243)]) (fun _ hr => st243.trans hr) ?_
  have Zs244 : n0 ≤ T243.heap.size := Nat.le_trans Z0 K243.1
  obtain ⟨_, _, ⟨T245, L245, k245, n245⟩, -, X245, ⟨Lc245, hQ245, l245, y245, z245⟩, st245⟩ := LawKit.callS X243 hx (y := Y4) hown (mvT hZ (tw hw 68 rfl)) (mvT hZ (tw hw 2 rfl)) (mvT hZ (tw hw 3 rfl)) (mvT hZ (tw hw 4 rfl)) (by decide) (backOf (W := 1) (rm_olem l Z a0 hw [] em T243.heap n0 Zs244 (Old.keep O0 K243 hws) S_OptionalLong_EMPTY_old) hZ (tw hw 4 rfl) (tw hw 3 rfl) (by decide) (by decide)) (g := (mkF m 13 #[rv th] [(.ref w243)])) rfl (by rw [hml]; rfl) (argsL := []) (rest := [(.ref w243)]) (lenOf pd_6 rfl) rfl (wle rfl) (hb hby d28_13) (fun _ _ => ⟨rfl, rfl, (by decide : 5 + 0 ≤ _), (by decide : 8 + 0 ≤ _)⟩)
  dsimp only [Pt.U, Pt.locs, Pt.cells, Pt.slots] at X245 l245 y245 z245 st245 hQ245
  subst l245 y245 z245
  obtain ⟨rfl, N245q, e245⟩ := hQ245
  have N245 := Fr.app N243 N245q
  refine gs T245 (mkF m 16 #[rv th] [(.ref em), (.ref w243)]) st245 ?_
  have Zs246 : n0 ≤ T243.heap.size := Nat.le_trans Z0 K243.1
  obtain ⟨cq247, kq247, q247a, q247b, q247c⟩ := isOf hZ e245 E_w243_243c
  obtain ⟨_, _, ⟨T247, L247, k247, n247⟩, -, X247, ⟨Lc247, hQ247, l247, y247, z247⟩, st247⟩ := X245.virtualBack hx (y := Y20) (z := Y20) hown (mvT hZ (tw hw 69 rfl)) (mvT hZ (tw hw 70 rfl)) (notFace_of_selects (args := #[]) (mvT hZ (tw hw 72 rfl))) (mvT hZ (tw hw 72 rfl)) (mvT hZ (tw hw 71 rfl)) (by decide) (backOf (W := 0) (rm_oore1 l Z a0 hw [] w243 em em T243.heap n0 Zs246 (Old.keep O0 K243 hws) F_w243_value_243c) hZ (tw hw 73 rfl) (tw hw 8 rfl) (by decide) (by decide)) q247a q247c (g := (mkF m 16 #[rv th] [(.ref em), (.ref w243)])) rfl (by rw [hml]; rfl) (Steps.refl _) (argsL := [(.ref em)]) (rest := []) (lenOf pd_3 rfl) rfl (wle rfl) (hb hby d28_16) (fun _ _ => ⟨rfl, e245, (by decide : 5 + 0 ≤ _), (by decide : 8 + 0 ≤ _)⟩)
  dsimp only [Pt.U, Pt.locs, Pt.cells, Pt.slots] at X247 l247 y247 z247 st247 hQ247
  subst l247 y247 z247
  obtain ⟨rfl, N247q, e247⟩ := hQ247
  have N247 := Fr.app N245 N247q
  refine gs T247 (mkF m 19 #[rv th] [(.ref em)]) (fun _ hr => st247.trans hr) ?_
  obtain ⟨T248, X248, e248, st248⟩ := castY X247 hx hZ hown (tw hw 74 rfl) e247 (Ins.self (E_em_old.ext (Old.keep O0 K243 hws).2)) (g := (mkF m 19 #[rv th] [(.ref em)])) rfl rfl (hb hby d28_19)
  refine gs T248 (mkF m 22 #[rv th] [(.ref em)]) st248 ?_
  exact Goes.ret (v := some (.ref em)) X248 (by decide) (by decide) (fun h => by rw [Bd.returns] at h; cases h) (by show Q_rm_age_gt Z th rr em q1 q2 q4 op eo h0 n0 _ T248.heap _; rw [e248]; exact ⟨rfl, N247, K243⟩) (fun fs hr => retOut X248 hx Bd.returns rfl (Or.inr (Or.inr (Or.inr (Or.inr ⟨rfl, rfl, rfl⟩)))) (hb hby d28_22) hr)
def Q_rm_lam_z1 (Z : State) (th : Addr) (rr : Addr) (em : Addr) (q1 : Int64) (q2 : Int64) (op : Addr) (eo : Addr) (q4 : Int64) (h0 : Heap) (n0 : Nat) (v : Option Value) (h : Heap) (L : List Loc) : Prop := ∃ w : Addr, v = some (.ref w) ∧ Fr n0 L ∧ Keep h0 h [] ∧ h0.size ≤ w ∧ Exa Z h w cOL ∧ Fld Z h w cOL nIP "Z" (.int (1 : Int32)) ∧ Fld Z h w cOL "value" "J" (.long (0 : Int64))
set_option maxRecDepth 65536 in
set_option maxHeartbeats 40000000 in
theorem rm_lam_z1 (l : Launch) (Z : State) (a0 : Array Value) (hw : ∀ d ∈ tables_1, d.before a0 Z = true) (ws : List Jvm.Cond) (th : Addr) (rr : Addr) (em : Addr) (q1 : Int64) (q2 : Int64) (op : Addr) (eo : Addr) (q4 : Int64) (h0 : Heap) (n0 : Nat) (Z0 : n0 ≤ h0.size) (O0 : Old Z n0 h0) (E_th : Exa Z h0 th cPL) (F_th_offset : Fld Z h0 th cPL "offset" "J" (.long q1)) (F_th_end : Fld Z h0 th cPL "end" "J" (.long q2)) (F_th_records : Fld Z h0 th cPL "records" dOP (.ref op)) (E_op : Exa Z h0 op cOP) (F_op_value : Fld Z h0 op cOP "value" dOB (.ref rr)) (E_rr : Exa Z h0 rr cRR) (F_rr_onlyMarkersLeft : Fld Z h0 rr cRR nOM "Z" (.int (1 : Int32))) (F_rr_lookedAt : Fld Z h0 rr cRR "lookedAt" "J" (.long q4)) (S_OptionalLong_EMPTY_old : Sta Z Z.heap cOL "EMPTY" dOL (.ref em)) (E_em_old : Exa Z Z.heap em cOL) (F_em_isPresent_old : Fld Z Z.heap em cOL nIP "Z" (.int (0 : Int32))) (F_em_value_old : Fld Z Z.heap em cOL "value" "J" (.long (0 : Int64))) (S_Optional_EMPTY_old : Sta Z Z.heap cOP "EMPTY" dOP (.ref eo)) (E_eo_old : Exa Z Z.heap eo cOP) (F_eo_value_old : Fld Z Z.heap eo cOP "value" dOB .null) (hle : ¬ ((0 : Int32) < (XT.cmpL q1 q2))) :
    MetFree l Y0 (head1 (Cond.code Y0 prog_13_method_13_code 2 (some (.object cOL)) :: ws) r17) (fun a U => a = #[(.ref th), (.ref rr)] ∧ Z.Warmed39 U.vm ∧ U.heap = h0) (fun _ _ _ _ _ => True) (fun _ U o U' => ∃ v L, o = .returned v ∧ Q_rm_lam_z1 Z th rr em q1 q2 op eo q4 h0 n0 v U'.heap L ∧ FrameEnd U o U' L r17.cells r17.slots) := by
  refine MetFree.of_bodySF (plainFor_of_name pn_com_example_log_lag_gauge_loglaggauge_model_PositionLag) hisR ?_
  intro p e s m args below meth c s₁ Bd hml0 hP hK
  obtain ⟨rfl, hZ, hh⟩ := hP
  have hx := Bd.exec
  have hby := Bd.bytes
  have hml : c.maxLocals = 2 := hml0
  have hown : s.vm.findClass cPL = some m.cls := findClass_of_methodNamed Bd.named
  have hnm := (name_of_methodNamed Bd.named Bd.method).1
  have X0 : Stand p l e r17 s m #[(.ref th), (.ref rr)] below meth c s₁ [] 0 0 := Stand.of_body Bd
  have e0 : s₁.heap = h0 := by rw [← hh, Bd.state]; rfl
  have N0 := Fr.nil n0
  refine Goes.out (l := l) (c := c) (R := r17) (Q := Q_rm_lam_z1 Z th rr em q1 q2 op eo q4 h0 n0) Bd.notSynchronized ?_
  refine Goes.cast (g2 := mkF m 0 #[rv th, rv rr] []) (by first | (simp [entryFrame, mkF, argsToLocals, Value.category]; done) | rfl) ?_
  have K0 : Keep h0 h0 [] := Keep.refl h0 _
  have hws : ∀ x ∈ ([] : List Addr), n0 ≤ x := all0
  refine gs s₁ (mkF m 1 #[rv th, rv rr] [(.ref th)]) (fun _ hr => XS.aloadN X0.here hx rfl (hb hby d26_0) rfl rfl hr) ?_
  refine gs s₁ (mkF m 2 #[rv th, rv rr] [(.ref rr), (.ref th)]) (fun _ hr => XS.aloadN X0.here hx rfl (hb hby d26_1) rfl rfl hr) ?_
  refine gs s₁ (mkF m 3 #[rv th, rv rr] [(.ref rr), (.ref rr), (.ref th)]) (fun _ hr => XS.aloadN X0.here hx rfl (hb hby d26_2) rfl rfl hr) ?_
  have Zs249 : n0 ≤ h0.size := Nat.le_trans Z0 K0.1
  obtain ⟨cq250, kq250, q250a, q250b, q250c⟩ := isOf hZ e0 E_rr
  obtain ⟨_, _, ⟨T250, L250, k250, n250⟩, -, X250, ⟨Lc250, hQ250, l250, y250, z250⟩, st250⟩ := X0.virtualBack hx (y := Y11) (z := Y11) hown (mvT hZ (tw hw 129 rfl)) (mvT hZ (tw hw 130 rfl)) (notFace_of_selects (args := #[]) (mvT hZ (tw hw 132 rfl))) (mvT hZ (tw hw 132 rfl)) (mvT hZ (tw hw 131 rfl)) (by decide) (backOf (W := 2) (rm_lookedAt l Z a0 hw [] rr q4 h0 n0 Zs249 (Old.keep O0 K0 hws) F_rr_lookedAt) hZ (tw hw 133 rfl) (tw hw 96 rfl) (by decide) (by decide)) q250a q250c (g := (mkF m 3 #[rv th, rv rr] [(.ref rr), (.ref rr), (.ref th)])) rfl (by rw [hml]; rfl) (Steps.refl _) (argsL := []) (rest := [(.ref rr), (.ref th)]) (lenOf pd_5 rfl) rfl (wle rfl) (hb hby d26_3) (fun _ _ => ⟨rfl, e0, (by decide : 0 + 0 ≤ _), (by decide : 0 + 0 ≤ _)⟩)
  dsimp only [Pt.U, Pt.locs, Pt.cells, Pt.slots] at X250 l250 y250 z250 st250 hQ250
  subst l250 y250 z250
  obtain ⟨rfl, N250q, e250⟩ := hQ250
  have N250 := Fr.app N0 N250q
  refine gs T250 (mkF m 6 #[rv th, rv rr] [(.long q4), (.ref rr), (.ref th)]) (fun _ hr => st250.trans hr) ?_
  have Zs251 : n0 ≤ h0.size := Nat.le_trans Z0 K0.1
  obtain ⟨_, _, ⟨T252, L252, k252, n252⟩, -, X252, ⟨Lc252, hQ252, l252, y252, z252⟩, st252⟩ := LawKit.callS X250 hx (y := Y3) hown (mvT hZ (tw hw 134 rfl)) (mvT hZ (tw hw 84 rfl)) (mvT hZ (tw hw 3 rfl)) (mvT hZ (tw hw 85 rfl)) (by decide) (backOf (W := 2) (rm_olof l Z a0 hw [] q4 h0 n0 Zs251 (Old.keep O0 K0 hws)) hZ (tw hw 85 rfl) (tw hw 3 rfl) (by decide) (by decide)) (g := (mkF m 6 #[rv th, rv rr] [(.long q4), (.ref rr), (.ref th)])) rfl (by rw [hml]; rfl) (argsL := [(.long q4)]) (rest := [(.ref rr), (.ref th)]) (lenOf pd_7 rfl) rfl (wle rfl) (hb hby d26_6) (fun _ _ => ⟨rfl, e250, (by decide : 0 + 1 ≤ _), (by decide : 0 + 2 ≤ _)⟩)
  dsimp only [Pt.U, Pt.locs, Pt.cells, Pt.slots] at X252 l252 y252 z252 st252 hQ252
  subst l252 y252 z252
  obtain ⟨w252, rfl, N252q, Kc252, P252_0, P252_1, P252_2, P252_3⟩ := hQ252
  have N252 := Fr.app N250 N252q
  have E_th_252 : Exa Z T252.heap th cPL := E_th.keep Kc252
  have F_th_offset_252 : Fld Z T252.heap th cPL "offset" "J" (.long q1) := F_th_offset.keep Kc252 nin0
  have F_th_end_252 : Fld Z T252.heap th cPL "end" "J" (.long q2) := F_th_end.keep Kc252 nin0
  have F_th_records_252 : Fld Z T252.heap th cPL "records" dOP (.ref op) := F_th_records.keep Kc252 nin0
  have E_op_252 : Exa Z T252.heap op cOP := E_op.keep Kc252
  have F_op_value_252 : Fld Z T252.heap op cOP "value" dOB (.ref rr) := F_op_value.keep Kc252 nin0
  have E_rr_252 : Exa Z T252.heap rr cRR := E_rr.keep Kc252
  have F_rr_onlyMarkersLeft_252 : Fld Z T252.heap rr cRR nOM "Z" (.int (1 : Int32)) := F_rr_onlyMarkersLeft.keep Kc252 nin0
  have K252 : Keep h0 T252.heap [] := K0.trans Kc252 all0
  refine gs T252 (mkF m 9 #[rv th, rv rr] [(.ref w252), (.ref rr), (.ref th)]) st252 ?_
  have Zs253 : n0 ≤ T252.heap.size := Nat.le_trans Z0 K252.1
  obtain ⟨cl254, kl254, q254a, -, -, q254d, -⟩ := id E_th_252
  obtain ⟨_, _, ⟨T254, L254, k254, n254⟩, -, X254, ⟨Lc254, hQ254, l254, y254, z254⟩, st254⟩ := X252.privateBack hx (y := Y27) hown (mvT hZ (tw hw 135 rfl)) (mvT hZ (tw hw 136 rfl)) (own_selP (mvT hZ (tw hw 12 rfl)) (mvT hZ (tw hw 137 rfl)) (mvT hZ (tw hw 136 rfl)) (by decide)) (Cond.privateMethod_at (args := #[]) (mvT hZ (tw hw 137 rfl))) (mvT hZ (tw hw 138 rfl)) (by decide) (backOf (W := 0) (rm_beh_z1 l Z a0 hw [] th rr em q1 q2 op eo w252 T252.heap n0 Zs253 (Old.keep O0 K252 hws) E_th_252 F_th_offset_252 F_th_end_252 F_th_records_252 E_op_252 F_op_value_252 E_rr_252 F_rr_onlyMarkersLeft_252 S_OptionalLong_EMPTY_old E_em_old F_em_isPresent_old F_em_value_old S_Optional_EMPTY_old E_eo_old F_eo_value_old hle) hZ (tw hw 138 rfl) (tw hw 13 rfl) (by decide) (by decide)) (g := (mkF m 9 #[rv th, rv rr] [(.ref w252), (.ref rr), (.ref th)])) rfl (by rw [hml]; rfl) (Steps.refl _) (own_at rfl q254a) (fun q z => by rw [z] at q254d; cases q254d) (argsL := [(.ref rr), (.ref w252)]) (rest := []) (lenOf pd_14 rfl) rfl (wle rfl) (hb hby d26_9) (fun _ _ => ⟨rfl, rfl, (by decide : 1 + 5 ≤ _), (by decide : 2 + 10 ≤ _)⟩)
  dsimp only [Pt.U, Pt.locs, Pt.cells, Pt.slots] at X254 l254 y254 z254 st254 hQ254
  subst l254 y254 z254
  obtain ⟨w254, rfl, N254q, Kc254, P254_0, P254_1, P254_2, P254_3⟩ := hQ254
  have N254 := Fr.app N252 N254q
  have K254 : Keep h0 T254.heap [] := K252.trans Kc254 all0
  have sz_w254 : h0.size ≤ w254 := Nat.le_trans K252.1 P254_0
  have E_w254_254c : Exa Z T254.heap w254 cOL := P254_1
  have F_w254_isPresent_254c : Fld Z T254.heap w254 cOL nIP "Z" (.int (1 : Int32)) := P254_2
  have F_w254_value_254c : Fld Z T254.heap w254 cOL "value" "J" (.long (0 : Int64)) := P254_3
  refine gs T254 (mkF m 12 #[rv th, rv rr] [(.ref w254)]) (fun _ hr => st254.trans hr) ?_
  exact Goes.ret (v := some (.ref w254)) X254 (by decide) (by decide) (fun h => by rw [Bd.returns] at h; cases h) (by show Q_rm_lam_z1 Z th rr em q1 q2 op eo q4 h0 n0 _ T254.heap _; exact ⟨w254, rfl, N254, K254, sz_w254, E_w254_254c, F_w254_isPresent_254c, F_w254_value_254c⟩) (fun fs hr => retOut X254 hx Bd.returns rfl (Or.inr (Or.inr (Or.inr (Or.inr ⟨rfl, rfl, rfl⟩)))) (hb hby d26_12) hr)
def Q_rm_map_z1 (Z : State) (th : Addr) (rr : Addr) (em : Addr) (q1 : Int64) (q2 : Int64) (op : Addr) (eo : Addr) (q4 : Int64) (fa : Addr) (cK : ClassId) (h0 : Heap) (n0 : Nat) (v : Option Value) (h : Heap) (L : List Loc) : Prop := ∃ w : Addr, ∃ wr : Addr, v = some (.ref w) ∧ Fr n0 L ∧ Keep h0 h [] ∧ h0.size ≤ w ∧ Exa Z h w cOP ∧ Fld Z h w cOP "value" dOB (.ref wr) ∧ h0.size ≤ wr ∧ Exa Z h wr cOL ∧ Fld Z h wr cOL nIP "Z" (.int (1 : Int32)) ∧ Fld Z h wr cOL "value" "J" (.long (0 : Int64))
set_option maxRecDepth 65536 in
set_option maxHeartbeats 40000000 in
theorem rm_map_z1 (l : Launch) (Z : State) (a0 : Array Value) (hw : ∀ d ∈ tables_1, d.before a0 Z = true) (ws : List Jvm.Cond) (th : Addr) (rr : Addr) (em : Addr) (q1 : Int64) (q2 : Int64) (op : Addr) (eo : Addr) (q4 : Int64) (fa : Addr) (cK : ClassId) (h0 : Heap) (n0 : Nat) (Z0 : n0 ≤ h0.size) (O0 : Old Z n0 h0) (E_th : Exa Z h0 th cPL) (F_th_offset : Fld Z h0 th cPL "offset" "J" (.long q1)) (F_th_end : Fld Z h0 th cPL "end" "J" (.long q2)) (F_th_records : Fld Z h0 th cPL "records" dOP (.ref op)) (E_op : Exa Z h0 op cOP) (F_op_value : Fld Z h0 op cOP "value" dOB (.ref rr)) (E_rr : Exa Z h0 rr cRR) (F_rr_onlyMarkersLeft : Fld Z h0 rr cRR nOM "Z" (.int (1 : Int32))) (F_rr_lookedAt : Fld Z h0 rr cRR "lookedAt" "J" (.long q4)) (G_fa : FnV h0 fa cK #[(.ref th)]) (S_OptionalLong_EMPTY_old : Sta Z Z.heap cOL "EMPTY" dOL (.ref em)) (E_em_old : Exa Z Z.heap em cOL) (F_em_isPresent_old : Fld Z Z.heap em cOL nIP "Z" (.int (0 : Int32))) (F_em_value_old : Fld Z Z.heap em cOL "value" "J" (.long (0 : Int64))) (S_Optional_EMPTY_old : Sta Z Z.heap cOP "EMPTY" dOP (.ref eo)) (E_eo_old : Exa Z Z.heap eo cOP) (F_eo_value_old : Fld Z Z.heap eo cOP "value" dOB .null) (hle : ¬ ((0 : Int32) < (XT.cmpL q1 q2))) (Md : Jvm.LamKit.Made Z cPL sgA cK) :
    MetFree l Y29 (head1 (Cond.code Y29 jdk_32_method_11_code 2 (some (.object cOP)) :: ws) r18) (fun a U => a = #[(.ref op), (.ref fa)] ∧ Z.Warmed39 U.vm ∧ U.heap = h0) (fun _ _ _ _ _ => True) (fun _ U o U' => ∃ v L, o = .returned v ∧ Q_rm_map_z1 Z th rr em q1 q2 op eo q4 fa cK h0 n0 v U'.heap L ∧ FrameEnd U o U' L r18.cells r18.slots) := by
  refine MetFree.of_bodySF (plainFor_of_name pn_java_util_Optional) hisR ?_
  intro p e s m args below meth c s₁ Bd hml0 hP hK
  obtain ⟨rfl, hZ, hh⟩ := hP
  have hx := Bd.exec
  have hby := Bd.bytes
  have hml : c.maxLocals = 2 := hml0
  have hown : s.vm.findClass cOP = some m.cls := findClass_of_methodNamed Bd.named
  have hnm := (name_of_methodNamed Bd.named Bd.method).1
  have X0 : Stand p l e r18 s m #[(.ref op), (.ref fa)] below meth c s₁ [] 0 0 := Stand.of_body Bd
  have e0 : s₁.heap = h0 := by rw [← hh, Bd.state]; rfl
  have N0 := Fr.nil n0
  refine Goes.out (l := l) (c := c) (R := r18) (Q := Q_rm_map_z1 Z th rr em q1 q2 op eo q4 fa cK h0 n0) Bd.notSynchronized ?_
  refine Goes.cast (g2 := mkF m 0 #[rv op, rv fa] []) (by first | (simp [entryFrame, mkF, argsToLocals, Value.category]; done) | rfl) ?_
  have K0 : Keep h0 h0 [] := Keep.refl h0 _
  have hws : ∀ x ∈ ([] : List Addr), n0 ≤ x := all0
  refine gs s₁ (mkF m 1 #[rv op, rv fa] [(.ref fa)]) (fun _ hr => XS.aloadN X0.here hx rfl (hb hby d27_0) rfl rfl hr) ?_
  have Zs255 : n0 ≤ h0.size := Nat.le_trans Z0 K0.1
  obtain ⟨_, _, ⟨T256, L256, k256, n256⟩, -, X256, ⟨Lc256, hQ256, l256, y256, z256⟩, st256⟩ := LawKit.callS X0 hx (y := Y13) hown (mvT hZ (tw hw 57 rfl)) (mvT hZ (tw hw 58 rfl)) (mvT hZ (tw hw 35 rfl)) (mvT hZ (tw hw 59 rfl)) (by decide) (backOf (W := 0) (rm_rnn1 l Z a0 hw [] fa h0 n0 Zs255 (Old.keep O0 K0 hws)) hZ (tw hw 59 rfl) (tw hw 35 rfl) (by decide) (by decide)) (g := (mkF m 1 #[rv op, rv fa] [(.ref fa)])) rfl (by rw [hml]; rfl) (argsL := [(.ref fa)]) (rest := []) (lenOf pd_3 rfl) rfl (wle rfl) (hb hby d27_1) (fun _ _ => ⟨rfl, e0, (by decide : 0 + 0 ≤ _), (by decide : 0 + 0 ≤ _)⟩)
  dsimp only [Pt.U, Pt.locs, Pt.cells, Pt.slots] at X256 l256 y256 z256 st256 hQ256
  subst l256 y256 z256
  obtain ⟨rfl, N256q, e256⟩ := hQ256
  have N256 := Fr.app N0 N256q
  refine gs T256 (mkF m 4 #[rv op, rv fa] [(.ref fa)]) st256 ?_
  refine gs T256 (mkF m 5 #[rv op, rv fa] []) (fun _ hr => XT.pop X256.here hx rfl (hb hby d27_4) rfl rfl hr) ?_
  refine gs T256 (mkF m 6 #[rv op, rv fa] [(.ref op)]) (fun _ hr => XS.aloadN X256.here hx rfl (hb hby d27_5) rfl rfl hr) ?_
  have Zs257 : n0 ≤ h0.size := Nat.le_trans Z0 K0.1
  obtain ⟨cq258, kq258, q258a, q258b, q258c⟩ := isOf hZ e256 E_op
  obtain ⟨_, _, ⟨T258, L258, k258, n258⟩, -, X258, ⟨Lc258, hQ258, l258, y258, z258⟩, st258⟩ := X256.virtualBack hx (y := Y18) (z := Y18) hown (mvT hZ (tw hw 60 rfl)) (mvT hZ (tw hw 61 rfl)) (notFace_of_selects (args := #[]) (mvT hZ (tw hw 63 rfl))) (mvT hZ (tw hw 63 rfl)) (mvT hZ (tw hw 62 rfl)) (by decide) (backOf (W := 0) (rm_oise1 l Z a0 hw [] op rr h0 n0 Zs257 (Old.keep O0 K0 hws) F_op_value) hZ (tw hw 64 rfl) (tw hw 8 rfl) (by decide) (by decide)) q258a q258c (g := (mkF m 6 #[rv op, rv fa] [(.ref op)])) rfl (by rw [hml]; rfl) (Steps.refl _) (argsL := []) (rest := []) (lenOf pd_1 rfl) rfl (wle rfl) (hb hby d27_6) (fun _ _ => ⟨rfl, e256, (by decide : 0 + 0 ≤ _), (by decide : 0 + 0 ≤ _)⟩)
  dsimp only [Pt.U, Pt.locs, Pt.cells, Pt.slots] at X258 l258 y258 z258 st258 hQ258
  subst l258 y258 z258
  obtain ⟨rfl, N258q, e258⟩ := hQ258
  have N258 := Fr.app N256 N258q
  refine gs T258 (mkF m 9 #[rv op, rv fa] [(.int (0 : Int32))]) (fun _ hr => st258.trans hr) ?_
  refine gs T258 (mkF m 16 #[rv op, rv fa] []) (fun _ hr => XS.ifYes X258.here hx rfl (pc0 := 9) (pc' := 16) rfl (hb hby d27_9) rfl ((if0 _ _).trans (teq (by decide : (0 : Int32) = (0 : Int32))).1) (by decide) (by decide) hr) ?_
  refine gs T258 (mkF m 17 #[rv op, rv fa] [(.ref fa)]) (fun _ hr => XS.aloadN X258.here hx rfl (hb hby d27_16) rfl rfl hr) ?_
  refine gs T258 (mkF m 18 #[rv op, rv fa] [(.ref op), (.ref fa)]) (fun _ hr => XS.aloadN X258.here hx rfl (hb hby d27_17) rfl rfl hr) ?_
  obtain ⟨T259, X259, e259, st259⟩ := getF X258 hx hZ hown (host := "") (Or.inl (tw hw 65 rfl)) Via.refl e258 F_op_value (g := (mkF m 18 #[rv op, rv fa] [(.ref op), (.ref fa)])) rfl rfl (hb hby d27_18)
  refine gs T259 (mkF m 21 #[rv op, rv fa] [(.ref rr), (.ref fa)]) st259 ?_
  have Zs260 : n0 ≤ h0.size := Nat.le_trans Z0 K0.1
  obtain ⟨_, T261, Lc261, X261, hQ261, st261⟩ := own_callFace X259 hx hZ (xi := Y28) hown (tw hw 122 rfl) (tw hw 123 rfl) (tw hw 124 rfl) ⟨rfl, rfl, by decide +kernel⟩ (by decide) Md e259 G_fa okA (g := (mkF m 21 #[rv op, rv fa] [(.ref rr), (.ref fa)])) rfl (by rw [hml]; rfl) (argsL := [(.ref rr)]) (rest := []) (lenOf pd_3 rfl) rfl (hb hby d27_21) (R' := r19) (Q := Q_rm_lam_z1 Z th rr em q1 q2 op eo q4 h0 n0) (by decide) (by show 2 * 0 + 0 + 13 + 3116 ≤ _; decide) (by decide) (by decide) (fun s' U bl mk ck Y' hZ' eU zq1 zq2 zq3 => bodyA hx Y' hZ' hw Md zq1 zq2 zq3 eU G_fa E_rr E_th (rm_lam_z1 l Z a0 hw [] th rr em q1 q2 op eo q4 h0 n0 Zs260 (Old.keep O0 K0 hws) E_th F_th_offset F_th_end F_th_records E_op F_op_value E_rr F_rr_onlyMarkersLeft F_rr_lookedAt S_OptionalLong_EMPTY_old E_em_old F_em_isPresent_old F_em_value_old S_Optional_EMPTY_old E_eo_old F_eo_value_old hle) (fun v h L q => by obtain ⟨_, rfl, -⟩ := q; exact ⟨_, rfl⟩) (by decide) (by decide) (by decide) (by decide))
  obtain ⟨w261, rfl, N261q, Kc261, P261_0, P261_1, P261_2, P261_3⟩ := hQ261
  have N261 := Fr.app N258 N261q
  have K261 : Keep h0 T261.heap [] := K0.trans Kc261 all0
  have sz_w261 : h0.size ≤ w261 := Nat.le_trans K0.1 P261_0
  have E_w261_261c : Exa Z T261.heap w261 cOL := P261_1
  have F_w261_isPresent_261c : Fld Z T261.heap w261 cOL nIP "Z" (.int (1 : Int32)) := P261_2
  have F_w261_value_261c : Fld Z T261.heap w261 cOL "value" "J" (.long (0 : Int64)) := P261_3
  refine gs T261 (mkF m 26 #[rv op, rv fa] [(.ref w261)]) st261 ?_
  have Zs262 : n0 ≤ T261.heap.size := Nat.le_trans Z0 K261.1
  obtain ⟨_, _, ⟨T263, L263, k263, n263⟩, -, X263, ⟨Lc263, hQ263, l263, y263, z263⟩, st263⟩ := LawKit.callS X261 hx (y := Y16) hown (mvT hZ (tw hw 181 rfl)) (mvT hZ (tw hw 182 rfl)) (mvT hZ (tw hw 8 rfl)) (mvT hZ (tw hw 183 rfl)) (by decide) (backOf (W := 0) (rm_oofn l Z a0 hw [] w261 T261.heap n0 Zs262 (Old.keep O0 K261 hws)) hZ (tw hw 183 rfl) (tw hw 8 rfl) (by decide) (by decide)) (g := (mkF m 26 #[rv op, rv fa] [(.ref w261)])) rfl (by rw [hml]; rfl) (argsL := [(.ref w261)]) (rest := []) (lenOf pd_15 rfl) rfl (wle rfl) (hb hby d27_26) (fun _ _ => ⟨rfl, rfl, (by decide : 6 + 1 ≤ _), (by decide : 12 + 1 ≤ _)⟩)
  dsimp only [Pt.U, Pt.locs, Pt.cells, Pt.slots] at X263 l263 y263 z263 st263 hQ263
  subst l263 y263 z263
  obtain ⟨w263, rfl, N263q, Kc263, P263_0, P263_1, P263_2⟩ := hQ263
  have N263 := Fr.app N261 N263q
  have E_w261_263 : Exa Z T263.heap w261 cOL := E_w261_261c.keep Kc263
  have F_w261_isPresent_263 : Fld Z T263.heap w261 cOL nIP "Z" (.int (1 : Int32)) := F_w261_isPresent_261c.keep Kc263 nin0
  have F_w261_value_263 : Fld Z T263.heap w261 cOL "value" "J" (.long (0 : Int64)) := F_w261_value_261c.keep Kc263 nin0
  have K263 : Keep h0 T263.heap [] := K261.trans Kc263 all0
  have sz_w263 : h0.size ≤ w263 := Nat.le_trans K261.1 P263_0
  have E_w263_263c : Exa Z T263.heap w263 cOP := P263_1
  have F_w263_value_263c : Fld Z T263.heap w263 cOP "value" dOB (.ref w261) := P263_2
  refine gs T263 (mkF m 29 #[rv op, rv fa] [(.ref w263)]) st263 ?_
  exact Goes.ret (v := some (.ref w263)) X263 (by decide) (by decide) (fun h => by rw [Bd.returns] at h; cases h) (by show Q_rm_map_z1 Z th rr em q1 q2 op eo q4 fa cK h0 n0 _ T263.heap _; exact ⟨w263, w261, rfl, N263, K263, sz_w263, E_w263_263c, F_w263_value_263c, sz_w261, E_w261_263, F_w261_isPresent_263, F_w261_value_263⟩) (fun fs hr => retOut X263 hx Bd.returns rfl (Or.inr (Or.inr (Or.inr (Or.inr ⟨rfl, rfl, rfl⟩)))) (hb hby d27_29) hr)
def Q_rm_age_z1 (Z : State) (th : Addr) (rr : Addr) (em : Addr) (q1 : Int64) (q2 : Int64) (op : Addr) (eo : Addr) (q4 : Int64) (h0 : Heap) (n0 : Nat) (v : Option Value) (h : Heap) (L : List Loc) : Prop := ∃ w : Addr, v = some (.ref w) ∧ Fr n0 L ∧ Keep h0 h [] ∧ h0.size ≤ w ∧ Exa Z h w cOL ∧ Fld Z h w cOL nIP "Z" (.int (1 : Int32)) ∧ Fld Z h w cOL "value" "J" (.long (0 : Int64))
set_option maxRecDepth 65536 in
set_option maxHeartbeats 40000000 in
theorem rm_age_z1 (l : Launch) (Z : State) (a0 : Array Value) (hw : ∀ d ∈ tables_1, d.before a0 Z = true) (ws : List Jvm.Cond) (th : Addr) (rr : Addr) (em : Addr) (q1 : Int64) (q2 : Int64) (op : Addr) (eo : Addr) (q4 : Int64) (h0 : Heap) (n0 : Nat) (Z0 : n0 ≤ h0.size) (O0 : Old Z n0 h0) (E_th : Exa Z h0 th cPL) (F_th_offset : Fld Z h0 th cPL "offset" "J" (.long q1)) (F_th_end : Fld Z h0 th cPL "end" "J" (.long q2)) (F_th_records : Fld Z h0 th cPL "records" dOP (.ref op)) (E_op : Exa Z h0 op cOP) (F_op_value : Fld Z h0 op cOP "value" dOB (.ref rr)) (E_rr : Exa Z h0 rr cRR) (F_rr_onlyMarkersLeft : Fld Z h0 rr cRR nOM "Z" (.int (1 : Int32))) (F_rr_lookedAt : Fld Z h0 rr cRR "lookedAt" "J" (.long q4)) (S_OptionalLong_EMPTY_old : Sta Z Z.heap cOL "EMPTY" dOL (.ref em)) (E_em_old : Exa Z Z.heap em cOL) (F_em_isPresent_old : Fld Z Z.heap em cOL nIP "Z" (.int (0 : Int32))) (F_em_value_old : Fld Z Z.heap em cOL "value" "J" (.long (0 : Int64))) (S_Optional_EMPTY_old : Sta Z Z.heap cOP "EMPTY" dOP (.ref eo)) (E_eo_old : Exa Z Z.heap eo cOP) (F_eo_value_old : Fld Z Z.heap eo cOP "value" dOB .null) (hle : ¬ ((0 : Int32) < (XT.cmpL q1 q2))) :
    MetFree l Y30 (head1 (Cond.code Y30 prog_13_method_5_code 1 (some (.object cOL)) :: ws) r20) (fun a U => a = #[(.ref th)] ∧ Z.Warmed39 U.vm ∧ U.heap = h0) (fun _ _ _ _ _ => True) (fun _ U o U' => ∃ v L, o = .returned v ∧ Q_rm_age_z1 Z th rr em q1 q2 op eo q4 h0 n0 v U'.heap L ∧ FrameEnd U o U' L r20.cells r20.slots) := by
  refine MetFree.of_bodySF (plainFor_of_name pn_com_example_log_lag_gauge_loglaggauge_model_PositionLag) hisR ?_
  intro p e s m args below meth c s₁ Bd hml0 hP hK
  obtain ⟨rfl, hZ, hh⟩ := hP
  have hx := Bd.exec
  have hby := Bd.bytes
  have hml : c.maxLocals = 1 := hml0
  have hown : s.vm.findClass cPL = some m.cls := findClass_of_methodNamed Bd.named
  have hnm := (name_of_methodNamed Bd.named Bd.method).1
  have X0 : Stand p l e r20 s m #[(.ref th)] below meth c s₁ [] 0 0 := Stand.of_body Bd
  have e0 : s₁.heap = h0 := by rw [← hh, Bd.state]; rfl
  have N0 := Fr.nil n0
  refine Goes.out (l := l) (c := c) (R := r20) (Q := Q_rm_age_z1 Z th rr em q1 q2 op eo q4 h0 n0) Bd.notSynchronized ?_
  refine Goes.cast (g2 := mkF m 0 #[rv th] []) (by first | (simp [entryFrame, mkF, argsToLocals, Value.category]; done) | rfl) ?_
  have K0 : Keep h0 h0 [] := Keep.refl h0 _
  have hws : ∀ x ∈ ([] : List Addr), n0 ≤ x := all0
  refine gs s₁ (mkF m 1 #[rv th] [(.ref th)]) (fun _ hr => XS.aloadN X0.here hx rfl (hb hby d28_0) rfl rfl hr) ?_
  obtain ⟨T264, X264, e264, st264⟩ := getF X0 hx hZ hown (host := "") (Or.inl (tw hw 41 rfl)) Via.refl e0 F_th_records (g := (mkF m 1 #[rv th] [(.ref th)])) rfl rfl (hb hby d28_1)
  refine gs T264 (mkF m 4 #[rv th] [(.ref op)]) st264 ?_
  refine gs T264 (mkF m 5 #[rv th] [(.ref th), (.ref op)]) (fun _ hr => XS.aloadN X264.here hx rfl (hb hby d28_4) rfl rfl hr) ?_
  obtain ⟨T265, h265, c265, X265, e265, E265, A265, Md265, st265⟩ := own_siteMakes X264 hx hZ (x := Y30) (pc := 5) (fi := 15) (σ := sgA) Bd.named (tw hw 48 rfl) (by decide) cpA (tw hw 51 rfl) e264 (g := (mkF m 5 #[rv th] [(.ref th), (.ref op)])) rfl rfl (by rw [hml]; rfl) (hb hby d28_5) (vals := [(.ref th)]) (rest := [(.ref op)]) rfl rfl own_fit1 (by show 2 * 0 + 2 + 3072 ≤ _; decide) (N := 1) rfl (by decide) (by decide)
  obtain ⟨b265, g265⟩ : ∃ z, z = h0.size := ⟨_, rfl⟩
  rw [← g265] at A265 st265
  have E_th_265 : Exa Z h265 th cPL := E_th.ext E265
  have F_th_offset_265 : Fld Z h265 th cPL "offset" "J" (.long q1) := F_th_offset.ext E265
  have F_th_end_265 : Fld Z h265 th cPL "end" "J" (.long q2) := F_th_end.ext E265
  have F_th_records_265 : Fld Z h265 th cPL "records" dOP (.ref op) := F_th_records.ext E265
  have E_op_265 : Exa Z h265 op cOP := E_op.ext E265
  have F_op_value_265 : Fld Z h265 op cOP "value" dOB (.ref rr) := F_op_value.ext E265
  have E_rr_265 : Exa Z h265 rr cRR := E_rr.ext E265
  have F_rr_onlyMarkersLeft_265 : Fld Z h265 rr cRR nOM "Z" (.int (1 : Int32)) := F_rr_onlyMarkersLeft.ext E265
  have F_rr_lookedAt_265 : Fld Z h265 rr cRR "lookedAt" "J" (.long q4) := F_rr_lookedAt.ext E265
  have K265 : Keep h0 h265 [] := K0.ext E265
  refine gs T265 (mkF m 10 #[rv th] [(.ref b265), (.ref op)]) st265 ?_
  have Zs266 : n0 ≤ h265.size := Nat.le_trans Z0 K265.1
  obtain ⟨cq267, kq267, q267a, q267b, q267c⟩ := isOf hZ e265 E_op_265
  obtain ⟨_, _, ⟨T267, L267, k267, n267⟩, -, X267, ⟨Lc267, hQ267, l267, y267, z267⟩, st267⟩ := X265.virtualBack hx (y := Y29) (z := Y29) hown (mvT hZ (tw hw 52 rfl)) (mvT hZ (tw hw 53 rfl)) (notFace_of_selects (args := #[]) (mvT hZ (tw hw 55 rfl))) (mvT hZ (tw hw 55 rfl)) (mvT hZ (tw hw 54 rfl)) (by decide) (backOf (W := 0) (rm_map_z1 l Z a0 hw [] th rr em q1 q2 op eo q4 b265 c265 h265 n0 Zs266 (Old.keep O0 K265 hws) E_th_265 F_th_offset_265 F_th_end_265 F_th_records_265 E_op_265 F_op_value_265 E_rr_265 F_rr_onlyMarkersLeft_265 F_rr_lookedAt_265 A265 S_OptionalLong_EMPTY_old E_em_old F_em_isPresent_old F_em_value_old S_Optional_EMPTY_old E_eo_old F_eo_value_old hle Md265) hZ (tw hw 56 rfl) (tw hw 8 rfl) (by decide) (by decide)) q267a q267c (g := (mkF m 10 #[rv th] [(.ref b265), (.ref op)])) rfl (by rw [hml]; rfl) (Steps.refl _) (argsL := [(.ref b265)]) (rest := []) (lenOf pd_16 rfl) rfl (wle rfl) (hb hby d28_10) (fun _ _ => ⟨rfl, e265, (by decide : 1 + 7 ≤ _), (by decide : 1 + 13 ≤ _)⟩)
  dsimp only [Pt.U, Pt.locs, Pt.cells, Pt.slots] at X267 l267 y267 z267 st267 hQ267
  subst l267 y267 z267
  obtain ⟨w267, wr267, rfl, N267q, Kc267, P267_0, P267_1, P267_2, P267_3, P267_4, P267_5, P267_6⟩ := hQ267
  have N267 := Fr.app N0 N267q
  have K267 : Keep h0 T267.heap [] := K265.trans Kc267 all0
  have E_w267_267c : Exa Z T267.heap w267 cOP := P267_1
  have F_w267_value_267c : Fld Z T267.heap w267 cOP "value" dOB (.ref wr267) := P267_2
  have sz_wr267 : h0.size ≤ wr267 := Nat.le_trans K265.1 P267_3
  have E_wr267_267c : Exa Z T267.heap wr267 cOL := P267_4
  have F_wr267_isPresent_267c : Fld Z T267.heap wr267 cOL nIP "Z" (.int (1 : Int32)) := P267_5
  have F_wr267_value_267c : Fld Z T267.heap wr267 cOL "value" "J" (.long (0 : Int64)) := P267_6
  refine gs T267 (mkF m 13 #[rv th] [(.ref w267)]) (fun _ hr => st267.trans hr) ?_
  have Zs268 : n0 ≤ T267.heap.size := Nat.le_trans Z0 K267.1
  obtain ⟨_, _, ⟨T269, L269, k269, n269⟩, -, X269, ⟨Lc269, hQ269, l269, y269, z269⟩, st269⟩ := LawKit.callS X267 hx (y := Y4) hown (mvT hZ (tw hw 68 rfl)) (mvT hZ (tw hw 2 rfl)) (mvT hZ (tw hw 3 rfl)) (mvT hZ (tw hw 4 rfl)) (by decide) (backOf (W := 1) (rm_olem l Z a0 hw [] em T267.heap n0 Zs268 (Old.keep O0 K267 hws) S_OptionalLong_EMPTY_old) hZ (tw hw 4 rfl) (tw hw 3 rfl) (by decide) (by decide)) (g := (mkF m 13 #[rv th] [(.ref w267)])) rfl (by rw [hml]; rfl) (argsL := []) (rest := [(.ref w267)]) (lenOf pd_6 rfl) rfl (wle rfl) (hb hby d28_13) (fun _ _ => ⟨rfl, rfl, (by decide : 8 + 0 ≤ _), (by decide : 14 + 0 ≤ _)⟩)
  dsimp only [Pt.U, Pt.locs, Pt.cells, Pt.slots] at X269 l269 y269 z269 st269 hQ269
  subst l269 y269 z269
  obtain ⟨rfl, N269q, e269⟩ := hQ269
  have N269 := Fr.app N267 N269q
  refine gs T269 (mkF m 16 #[rv th] [(.ref em), (.ref w267)]) st269 ?_
  have Zs270 : n0 ≤ T267.heap.size := Nat.le_trans Z0 K267.1
  obtain ⟨cq271, kq271, q271a, q271b, q271c⟩ := isOf hZ e269 E_w267_267c
  obtain ⟨_, _, ⟨T271, L271, k271, n271⟩, -, X271, ⟨Lc271, hQ271, l271, y271, z271⟩, st271⟩ := X269.virtualBack hx (y := Y20) (z := Y20) hown (mvT hZ (tw hw 69 rfl)) (mvT hZ (tw hw 70 rfl)) (notFace_of_selects (args := #[]) (mvT hZ (tw hw 72 rfl))) (mvT hZ (tw hw 72 rfl)) (mvT hZ (tw hw 71 rfl)) (by decide) (backOf (W := 0) (rm_oore1 l Z a0 hw [] w267 wr267 em T267.heap n0 Zs270 (Old.keep O0 K267 hws) F_w267_value_267c) hZ (tw hw 73 rfl) (tw hw 8 rfl) (by decide) (by decide)) q271a q271c (g := (mkF m 16 #[rv th] [(.ref em), (.ref w267)])) rfl (by rw [hml]; rfl) (Steps.refl _) (argsL := [(.ref em)]) (rest := []) (lenOf pd_3 rfl) rfl (wle rfl) (hb hby d28_16) (fun _ _ => ⟨rfl, e269, (by decide : 8 + 0 ≤ _), (by decide : 14 + 0 ≤ _)⟩)
  dsimp only [Pt.U, Pt.locs, Pt.cells, Pt.slots] at X271 l271 y271 z271 st271 hQ271
  subst l271 y271 z271
  obtain ⟨rfl, N271q, e271⟩ := hQ271
  have N271 := Fr.app N269 N271q
  refine gs T271 (mkF m 19 #[rv th] [(.ref wr267)]) (fun _ hr => st271.trans hr) ?_
  obtain ⟨T272, X272, e272, st272⟩ := castY X271 hx hZ hown (tw hw 74 rfl) e271 (Ins.self E_wr267_267c) (g := (mkF m 19 #[rv th] [(.ref wr267)])) rfl rfl (hb hby d28_19)
  refine gs T272 (mkF m 22 #[rv th] [(.ref wr267)]) st272 ?_
  exact Goes.ret (v := some (.ref wr267)) X272 (by decide) (by decide) (fun h => by rw [Bd.returns] at h; cases h) (by show Q_rm_age_z1 Z th rr em q1 q2 op eo q4 h0 n0 _ T272.heap _; rw [e272]; exact ⟨wr267, rfl, N271, K267, sz_wr267, E_wr267_267c, F_wr267_isPresent_267c, F_wr267_value_267c⟩) (fun fs hr => retOut X272 hx Bd.returns rfl (Or.inr (Or.inr (Or.inr (Or.inr ⟨rfl, rfl, rfl⟩)))) (hb hby d28_22) hr)
def Q_rm_lam_z0 (Z : State) (th : Addr) (rr : Addr) (em : Addr) (q1 : Int64) (q2 : Int64) (op : Addr) (eo : Addr) (q4 : Int64) (h0 : Heap) (n0 : Nat) (v : Option Value) (h : Heap) (L : List Loc) : Prop := ∃ w : Addr, v = some (.ref w) ∧ Fr n0 L ∧ Keep h0 h [] ∧ h0.size ≤ w ∧ Exa Z h w cOL ∧ Fld Z h w cOL nIP "Z" (.int (1 : Int32)) ∧ Fld Z h w cOL "value" "J" (.long (0 : Int64))
set_option maxRecDepth 65536 in
set_option maxHeartbeats 40000000 in
theorem rm_lam_z0 (l : Launch) (Z : State) (a0 : Array Value) (hw : ∀ d ∈ tables_1, d.before a0 Z = true) (ws : List Jvm.Cond) (th : Addr) (rr : Addr) (em : Addr) (q1 : Int64) (q2 : Int64) (op : Addr) (eo : Addr) (q4 : Int64) (h0 : Heap) (n0 : Nat) (Z0 : n0 ≤ h0.size) (O0 : Old Z n0 h0) (E_th : Exa Z h0 th cPL) (F_th_offset : Fld Z h0 th cPL "offset" "J" (.long q1)) (F_th_end : Fld Z h0 th cPL "end" "J" (.long q2)) (F_th_records : Fld Z h0 th cPL "records" dOP (.ref op)) (E_op : Exa Z h0 op cOP) (F_op_value : Fld Z h0 op cOP "value" dOB (.ref rr)) (E_rr : Exa Z h0 rr cRR) (F_rr_onlyMarkersLeft : Fld Z h0 rr cRR nOM "Z" (.int (0 : Int32))) (F_rr_lookedAt : Fld Z h0 rr cRR "lookedAt" "J" (.long q4)) (S_OptionalLong_EMPTY_old : Sta Z Z.heap cOL "EMPTY" dOL (.ref em)) (E_em_old : Exa Z Z.heap em cOL) (F_em_isPresent_old : Fld Z Z.heap em cOL nIP "Z" (.int (0 : Int32))) (F_em_value_old : Fld Z Z.heap em cOL "value" "J" (.long (0 : Int64))) (S_Optional_EMPTY_old : Sta Z Z.heap cOP "EMPTY" dOP (.ref eo)) (E_eo_old : Exa Z Z.heap eo cOP) (F_eo_value_old : Fld Z Z.heap eo cOP "value" dOB .null) (hle : ¬ ((0 : Int32) < (XT.cmpL q1 q2))) (hzz : ¬ ((0 : Int32) < (XT.cmpL (q2 - q1) (0 : Int64)))) :
    MetFree l Y0 (head1 (Cond.code Y0 prog_13_method_13_code 2 (some (.object cOL)) :: ws) r21) (fun a U => a = #[(.ref th), (.ref rr)] ∧ Z.Warmed39 U.vm ∧ U.heap = h0) (fun _ _ _ _ _ => True) (fun _ U o U' => ∃ v L, o = .returned v ∧ Q_rm_lam_z0 Z th rr em q1 q2 op eo q4 h0 n0 v U'.heap L ∧ FrameEnd U o U' L r21.cells r21.slots) := by
  refine MetFree.of_bodySF (plainFor_of_name pn_com_example_log_lag_gauge_loglaggauge_model_PositionLag) hisR ?_
  intro p e s m args below meth c s₁ Bd hml0 hP hK
  obtain ⟨rfl, hZ, hh⟩ := hP
  have hx := Bd.exec
  have hby := Bd.bytes
  have hml : c.maxLocals = 2 := hml0
  have hown : s.vm.findClass cPL = some m.cls := findClass_of_methodNamed Bd.named
  have hnm := (name_of_methodNamed Bd.named Bd.method).1
  have X0 : Stand p l e r21 s m #[(.ref th), (.ref rr)] below meth c s₁ [] 0 0 := Stand.of_body Bd
  have e0 : s₁.heap = h0 := by rw [← hh, Bd.state]; rfl
  have N0 := Fr.nil n0
  refine Goes.out (l := l) (c := c) (R := r21) (Q := Q_rm_lam_z0 Z th rr em q1 q2 op eo q4 h0 n0) Bd.notSynchronized ?_
  refine Goes.cast (g2 := mkF m 0 #[rv th, rv rr] []) (by first | (simp [entryFrame, mkF, argsToLocals, Value.category]; done) | rfl) ?_
  have K0 : Keep h0 h0 [] := Keep.refl h0 _
  have hws : ∀ x ∈ ([] : List Addr), n0 ≤ x := all0
  refine gs s₁ (mkF m 1 #[rv th, rv rr] [(.ref th)]) (fun _ hr => XS.aloadN X0.here hx rfl (hb hby d26_0) rfl rfl hr) ?_
  refine gs s₁ (mkF m 2 #[rv th, rv rr] [(.ref rr), (.ref th)]) (fun _ hr => XS.aloadN X0.here hx rfl (hb hby d26_1) rfl rfl hr) ?_
  refine gs s₁ (mkF m 3 #[rv th, rv rr] [(.ref rr), (.ref rr), (.ref th)]) (fun _ hr => XS.aloadN X0.here hx rfl (hb hby d26_2) rfl rfl hr) ?_
  have Zs273 : n0 ≤ h0.size := Nat.le_trans Z0 K0.1
  obtain ⟨cq274, kq274, q274a, q274b, q274c⟩ := isOf hZ e0 E_rr
  obtain ⟨_, _, ⟨T274, L274, k274, n274⟩, -, X274, ⟨Lc274, hQ274, l274, y274, z274⟩, st274⟩ := X0.virtualBack hx (y := Y11) (z := Y11) hown (mvT hZ (tw hw 129 rfl)) (mvT hZ (tw hw 130 rfl)) (notFace_of_selects (args := #[]) (mvT hZ (tw hw 132 rfl))) (mvT hZ (tw hw 132 rfl)) (mvT hZ (tw hw 131 rfl)) (by decide) (backOf (W := 2) (rm_lookedAt l Z a0 hw [] rr q4 h0 n0 Zs273 (Old.keep O0 K0 hws) F_rr_lookedAt) hZ (tw hw 133 rfl) (tw hw 96 rfl) (by decide) (by decide)) q274a q274c (g := (mkF m 3 #[rv th, rv rr] [(.ref rr), (.ref rr), (.ref th)])) rfl (by rw [hml]; rfl) (Steps.refl _) (argsL := []) (rest := [(.ref rr), (.ref th)]) (lenOf pd_5 rfl) rfl (wle rfl) (hb hby d26_3) (fun _ _ => ⟨rfl, e0, (by decide : 0 + 0 ≤ _), (by decide : 0 + 0 ≤ _)⟩)
  dsimp only [Pt.U, Pt.locs, Pt.cells, Pt.slots] at X274 l274 y274 z274 st274 hQ274
  subst l274 y274 z274
  obtain ⟨rfl, N274q, e274⟩ := hQ274
  have N274 := Fr.app N0 N274q
  refine gs T274 (mkF m 6 #[rv th, rv rr] [(.long q4), (.ref rr), (.ref th)]) (fun _ hr => st274.trans hr) ?_
  have Zs275 : n0 ≤ h0.size := Nat.le_trans Z0 K0.1
  obtain ⟨_, _, ⟨T276, L276, k276, n276⟩, -, X276, ⟨Lc276, hQ276, l276, y276, z276⟩, st276⟩ := LawKit.callS X274 hx (y := Y3) hown (mvT hZ (tw hw 134 rfl)) (mvT hZ (tw hw 84 rfl)) (mvT hZ (tw hw 3 rfl)) (mvT hZ (tw hw 85 rfl)) (by decide) (backOf (W := 2) (rm_olof l Z a0 hw [] q4 h0 n0 Zs275 (Old.keep O0 K0 hws)) hZ (tw hw 85 rfl) (tw hw 3 rfl) (by decide) (by decide)) (g := (mkF m 6 #[rv th, rv rr] [(.long q4), (.ref rr), (.ref th)])) rfl (by rw [hml]; rfl) (argsL := [(.long q4)]) (rest := [(.ref rr), (.ref th)]) (lenOf pd_7 rfl) rfl (wle rfl) (hb hby d26_6) (fun _ _ => ⟨rfl, e274, (by decide : 0 + 1 ≤ _), (by decide : 0 + 2 ≤ _)⟩)
  dsimp only [Pt.U, Pt.locs, Pt.cells, Pt.slots] at X276 l276 y276 z276 st276 hQ276
  subst l276 y276 z276
  obtain ⟨w276, rfl, N276q, Kc276, P276_0, P276_1, P276_2, P276_3⟩ := hQ276
  have N276 := Fr.app N274 N276q
  have E_th_276 : Exa Z T276.heap th cPL := E_th.keep Kc276
  have F_th_offset_276 : Fld Z T276.heap th cPL "offset" "J" (.long q1) := F_th_offset.keep Kc276 nin0
  have F_th_end_276 : Fld Z T276.heap th cPL "end" "J" (.long q2) := F_th_end.keep Kc276 nin0
  have F_th_records_276 : Fld Z T276.heap th cPL "records" dOP (.ref op) := F_th_records.keep Kc276 nin0
  have E_op_276 : Exa Z T276.heap op cOP := E_op.keep Kc276
  have F_op_value_276 : Fld Z T276.heap op cOP "value" dOB (.ref rr) := F_op_value.keep Kc276 nin0
  have E_rr_276 : Exa Z T276.heap rr cRR := E_rr.keep Kc276
  have F_rr_onlyMarkersLeft_276 : Fld Z T276.heap rr cRR nOM "Z" (.int (0 : Int32)) := F_rr_onlyMarkersLeft.keep Kc276 nin0
  have K276 : Keep h0 T276.heap [] := K0.trans Kc276 all0
  refine gs T276 (mkF m 9 #[rv th, rv rr] [(.ref w276), (.ref rr), (.ref th)]) st276 ?_
  have Zs277 : n0 ≤ T276.heap.size := Nat.le_trans Z0 K276.1
  obtain ⟨cl278, kl278, q278a, -, -, q278d, -⟩ := id E_th_276
  obtain ⟨_, _, ⟨T278, L278, k278, n278⟩, -, X278, ⟨Lc278, hQ278, l278, y278, z278⟩, st278⟩ := X276.privateBack hx (y := Y27) hown (mvT hZ (tw hw 135 rfl)) (mvT hZ (tw hw 136 rfl)) (own_selP (mvT hZ (tw hw 12 rfl)) (mvT hZ (tw hw 137 rfl)) (mvT hZ (tw hw 136 rfl)) (by decide)) (Cond.privateMethod_at (args := #[]) (mvT hZ (tw hw 137 rfl))) (mvT hZ (tw hw 138 rfl)) (by decide) (backOf (W := 0) (rm_beh_z0 l Z a0 hw [] th rr em q1 q2 op eo w276 T276.heap n0 Zs277 (Old.keep O0 K276 hws) E_th_276 F_th_offset_276 F_th_end_276 F_th_records_276 E_op_276 F_op_value_276 E_rr_276 F_rr_onlyMarkersLeft_276 S_OptionalLong_EMPTY_old E_em_old F_em_isPresent_old F_em_value_old S_Optional_EMPTY_old E_eo_old F_eo_value_old hle hzz) hZ (tw hw 138 rfl) (tw hw 13 rfl) (by decide) (by decide)) (g := (mkF m 9 #[rv th, rv rr] [(.ref w276), (.ref rr), (.ref th)])) rfl (by rw [hml]; rfl) (Steps.refl _) (own_at rfl q278a) (fun q z => by rw [z] at q278d; cases q278d) (argsL := [(.ref rr), (.ref w276)]) (rest := []) (lenOf pd_14 rfl) rfl (wle rfl) (hb hby d26_9) (fun _ _ => ⟨rfl, rfl, (by decide : 1 + 4 ≤ _), (by decide : 2 + 8 ≤ _)⟩)
  dsimp only [Pt.U, Pt.locs, Pt.cells, Pt.slots] at X278 l278 y278 z278 st278 hQ278
  subst l278 y278 z278
  obtain ⟨w278, rfl, N278q, Kc278, P278_0, P278_1, P278_2, P278_3⟩ := hQ278
  have N278 := Fr.app N276 N278q
  have K278 : Keep h0 T278.heap [] := K276.trans Kc278 all0
  have sz_w278 : h0.size ≤ w278 := Nat.le_trans K276.1 P278_0
  have E_w278_278c : Exa Z T278.heap w278 cOL := P278_1
  have F_w278_isPresent_278c : Fld Z T278.heap w278 cOL nIP "Z" (.int (1 : Int32)) := P278_2
  have F_w278_value_278c : Fld Z T278.heap w278 cOL "value" "J" (.long (0 : Int64)) := P278_3
  refine gs T278 (mkF m 12 #[rv th, rv rr] [(.ref w278)]) (fun _ hr => st278.trans hr) ?_
  exact Goes.ret (v := some (.ref w278)) X278 (by decide) (by decide) (fun h => by rw [Bd.returns] at h; cases h) (by show Q_rm_lam_z0 Z th rr em q1 q2 op eo q4 h0 n0 _ T278.heap _; exact ⟨w278, rfl, N278, K278, sz_w278, E_w278_278c, F_w278_isPresent_278c, F_w278_value_278c⟩) (fun fs hr => retOut X278 hx Bd.returns rfl (Or.inr (Or.inr (Or.inr (Or.inr ⟨rfl, rfl, rfl⟩)))) (hb hby d26_12) hr)
def Q_rm_map_z0 (Z : State) (th : Addr) (rr : Addr) (em : Addr) (q1 : Int64) (q2 : Int64) (op : Addr) (eo : Addr) (q4 : Int64) (fa : Addr) (cK : ClassId) (h0 : Heap) (n0 : Nat) (v : Option Value) (h : Heap) (L : List Loc) : Prop := ∃ w : Addr, ∃ wr : Addr, v = some (.ref w) ∧ Fr n0 L ∧ Keep h0 h [] ∧ h0.size ≤ w ∧ Exa Z h w cOP ∧ Fld Z h w cOP "value" dOB (.ref wr) ∧ h0.size ≤ wr ∧ Exa Z h wr cOL ∧ Fld Z h wr cOL nIP "Z" (.int (1 : Int32)) ∧ Fld Z h wr cOL "value" "J" (.long (0 : Int64))
set_option maxRecDepth 65536 in
set_option maxHeartbeats 40000000 in
theorem rm_map_z0 (l : Launch) (Z : State) (a0 : Array Value) (hw : ∀ d ∈ tables_1, d.before a0 Z = true) (ws : List Jvm.Cond) (th : Addr) (rr : Addr) (em : Addr) (q1 : Int64) (q2 : Int64) (op : Addr) (eo : Addr) (q4 : Int64) (fa : Addr) (cK : ClassId) (h0 : Heap) (n0 : Nat) (Z0 : n0 ≤ h0.size) (O0 : Old Z n0 h0) (E_th : Exa Z h0 th cPL) (F_th_offset : Fld Z h0 th cPL "offset" "J" (.long q1)) (F_th_end : Fld Z h0 th cPL "end" "J" (.long q2)) (F_th_records : Fld Z h0 th cPL "records" dOP (.ref op)) (E_op : Exa Z h0 op cOP) (F_op_value : Fld Z h0 op cOP "value" dOB (.ref rr)) (E_rr : Exa Z h0 rr cRR) (F_rr_onlyMarkersLeft : Fld Z h0 rr cRR nOM "Z" (.int (0 : Int32))) (F_rr_lookedAt : Fld Z h0 rr cRR "lookedAt" "J" (.long q4)) (G_fa : FnV h0 fa cK #[(.ref th)]) (S_OptionalLong_EMPTY_old : Sta Z Z.heap cOL "EMPTY" dOL (.ref em)) (E_em_old : Exa Z Z.heap em cOL) (F_em_isPresent_old : Fld Z Z.heap em cOL nIP "Z" (.int (0 : Int32))) (F_em_value_old : Fld Z Z.heap em cOL "value" "J" (.long (0 : Int64))) (S_Optional_EMPTY_old : Sta Z Z.heap cOP "EMPTY" dOP (.ref eo)) (E_eo_old : Exa Z Z.heap eo cOP) (F_eo_value_old : Fld Z Z.heap eo cOP "value" dOB .null) (hle : ¬ ((0 : Int32) < (XT.cmpL q1 q2))) (hzz : ¬ ((0 : Int32) < (XT.cmpL (q2 - q1) (0 : Int64)))) (Md : Jvm.LamKit.Made Z cPL sgA cK) :
    MetFree l Y29 (head1 (Cond.code Y29 jdk_32_method_11_code 2 (some (.object cOP)) :: ws) r22) (fun a U => a = #[(.ref op), (.ref fa)] ∧ Z.Warmed39 U.vm ∧ U.heap = h0) (fun _ _ _ _ _ => True) (fun _ U o U' => ∃ v L, o = .returned v ∧ Q_rm_map_z0 Z th rr em q1 q2 op eo q4 fa cK h0 n0 v U'.heap L ∧ FrameEnd U o U' L r22.cells r22.slots) := by
  refine MetFree.of_bodySF (plainFor_of_name pn_java_util_Optional) hisR ?_
  intro p e s m args below meth c s₁ Bd hml0 hP hK
  obtain ⟨rfl, hZ, hh⟩ := hP
  have hx := Bd.exec
  have hby := Bd.bytes
  have hml : c.maxLocals = 2 := hml0
  have hown : s.vm.findClass cOP = some m.cls := findClass_of_methodNamed Bd.named
  have hnm := (name_of_methodNamed Bd.named Bd.method).1
  have X0 : Stand p l e r22 s m #[(.ref op), (.ref fa)] below meth c s₁ [] 0 0 := Stand.of_body Bd
  have e0 : s₁.heap = h0 := by rw [← hh, Bd.state]; rfl
  have N0 := Fr.nil n0
  refine Goes.out (l := l) (c := c) (R := r22) (Q := Q_rm_map_z0 Z th rr em q1 q2 op eo q4 fa cK h0 n0) Bd.notSynchronized ?_
  refine Goes.cast (g2 := mkF m 0 #[rv op, rv fa] []) (by first | (simp [entryFrame, mkF, argsToLocals, Value.category]; done) | rfl) ?_
  have K0 : Keep h0 h0 [] := Keep.refl h0 _
  have hws : ∀ x ∈ ([] : List Addr), n0 ≤ x := all0
  refine gs s₁ (mkF m 1 #[rv op, rv fa] [(.ref fa)]) (fun _ hr => XS.aloadN X0.here hx rfl (hb hby d27_0) rfl rfl hr) ?_
  have Zs279 : n0 ≤ h0.size := Nat.le_trans Z0 K0.1
  obtain ⟨_, _, ⟨T280, L280, k280, n280⟩, -, X280, ⟨Lc280, hQ280, l280, y280, z280⟩, st280⟩ := LawKit.callS X0 hx (y := Y13) hown (mvT hZ (tw hw 57 rfl)) (mvT hZ (tw hw 58 rfl)) (mvT hZ (tw hw 35 rfl)) (mvT hZ (tw hw 59 rfl)) (by decide) (backOf (W := 0) (rm_rnn1 l Z a0 hw [] fa h0 n0 Zs279 (Old.keep O0 K0 hws)) hZ (tw hw 59 rfl) (tw hw 35 rfl) (by decide) (by decide)) (g := (mkF m 1 #[rv op, rv fa] [(.ref fa)])) rfl (by rw [hml]; rfl) (argsL := [(.ref fa)]) (rest := []) (lenOf pd_3 rfl) rfl (wle rfl) (hb hby d27_1) (fun _ _ => ⟨rfl, e0, (by decide : 0 + 0 ≤ _), (by decide : 0 + 0 ≤ _)⟩)
  dsimp only [Pt.U, Pt.locs, Pt.cells, Pt.slots] at X280 l280 y280 z280 st280 hQ280
  subst l280 y280 z280
  obtain ⟨rfl, N280q, e280⟩ := hQ280
  have N280 := Fr.app N0 N280q
  refine gs T280 (mkF m 4 #[rv op, rv fa] [(.ref fa)]) st280 ?_
  refine gs T280 (mkF m 5 #[rv op, rv fa] []) (fun _ hr => XT.pop X280.here hx rfl (hb hby d27_4) rfl rfl hr) ?_
  refine gs T280 (mkF m 6 #[rv op, rv fa] [(.ref op)]) (fun _ hr => XS.aloadN X280.here hx rfl (hb hby d27_5) rfl rfl hr) ?_
  have Zs281 : n0 ≤ h0.size := Nat.le_trans Z0 K0.1
  obtain ⟨cq282, kq282, q282a, q282b, q282c⟩ := isOf hZ e280 E_op
  obtain ⟨_, _, ⟨T282, L282, k282, n282⟩, -, X282, ⟨Lc282, hQ282, l282, y282, z282⟩, st282⟩ := X280.virtualBack hx (y := Y18) (z := Y18) hown (mvT hZ (tw hw 60 rfl)) (mvT hZ (tw hw 61 rfl)) (notFace_of_selects (args := #[]) (mvT hZ (tw hw 63 rfl))) (mvT hZ (tw hw 63 rfl)) (mvT hZ (tw hw 62 rfl)) (by decide) (backOf (W := 0) (rm_oise1 l Z a0 hw [] op rr h0 n0 Zs281 (Old.keep O0 K0 hws) F_op_value) hZ (tw hw 64 rfl) (tw hw 8 rfl) (by decide) (by decide)) q282a q282c (g := (mkF m 6 #[rv op, rv fa] [(.ref op)])) rfl (by rw [hml]; rfl) (Steps.refl _) (argsL := []) (rest := []) (lenOf pd_1 rfl) rfl (wle rfl) (hb hby d27_6) (fun _ _ => ⟨rfl, e280, (by decide : 0 + 0 ≤ _), (by decide : 0 + 0 ≤ _)⟩)
  dsimp only [Pt.U, Pt.locs, Pt.cells, Pt.slots] at X282 l282 y282 z282 st282 hQ282
  subst l282 y282 z282
  obtain ⟨rfl, N282q, e282⟩ := hQ282
  have N282 := Fr.app N280 N282q
  refine gs T282 (mkF m 9 #[rv op, rv fa] [(.int (0 : Int32))]) (fun _ hr => st282.trans hr) ?_
  refine gs T282 (mkF m 16 #[rv op, rv fa] []) (fun _ hr => XS.ifYes X282.here hx rfl (pc0 := 9) (pc' := 16) rfl (hb hby d27_9) rfl ((if0 _ _).trans (teq (by decide : (0 : Int32) = (0 : Int32))).1) (by decide) (by decide) hr) ?_
  refine gs T282 (mkF m 17 #[rv op, rv fa] [(.ref fa)]) (fun _ hr => XS.aloadN X282.here hx rfl (hb hby d27_16) rfl rfl hr) ?_
  refine gs T282 (mkF m 18 #[rv op, rv fa] [(.ref op), (.ref fa)]) (fun _ hr => XS.aloadN X282.here hx rfl (hb hby d27_17) rfl rfl hr) ?_
  obtain ⟨T283, X283, e283, st283⟩ := getF X282 hx hZ hown (host := "") (Or.inl (tw hw 65 rfl)) Via.refl e282 F_op_value (g := (mkF m 18 #[rv op, rv fa] [(.ref op), (.ref fa)])) rfl rfl (hb hby d27_18)
  refine gs T283 (mkF m 21 #[rv op, rv fa] [(.ref rr), (.ref fa)]) st283 ?_
  have Zs284 : n0 ≤ h0.size := Nat.le_trans Z0 K0.1
  obtain ⟨_, T285, Lc285, X285, hQ285, st285⟩ := own_callFace X283 hx hZ (xi := Y28) hown (tw hw 122 rfl) (tw hw 123 rfl) (tw hw 124 rfl) ⟨rfl, rfl, by decide +kernel⟩ (by decide) Md e283 G_fa okA (g := (mkF m 21 #[rv op, rv fa] [(.ref rr), (.ref fa)])) rfl (by rw [hml]; rfl) (argsL := [(.ref rr)]) (rest := []) (lenOf pd_3 rfl) rfl (hb hby d27_21) (R' := r23) (Q := Q_rm_lam_z0 Z th rr em q1 q2 op eo q4 h0 n0) (by decide) (by show 2 * 0 + 0 + 13 + 3116 ≤ _; decide) (by decide) (by decide) (fun s' U bl mk ck Y' hZ' eU zq1 zq2 zq3 => bodyA hx Y' hZ' hw Md zq1 zq2 zq3 eU G_fa E_rr E_th (rm_lam_z0 l Z a0 hw [] th rr em q1 q2 op eo q4 h0 n0 Zs284 (Old.keep O0 K0 hws) E_th F_th_offset F_th_end F_th_records E_op F_op_value E_rr F_rr_onlyMarkersLeft F_rr_lookedAt S_OptionalLong_EMPTY_old E_em_old F_em_isPresent_old F_em_value_old S_Optional_EMPTY_old E_eo_old F_eo_value_old hle hzz) (fun v h L q => by obtain ⟨_, rfl, -⟩ := q; exact ⟨_, rfl⟩) (by decide) (by decide) (by decide) (by decide))
  obtain ⟨w285, rfl, N285q, Kc285, P285_0, P285_1, P285_2, P285_3⟩ := hQ285
  have N285 := Fr.app N282 N285q
  have K285 : Keep h0 T285.heap [] := K0.trans Kc285 all0
  have sz_w285 : h0.size ≤ w285 := Nat.le_trans K0.1 P285_0
  have E_w285_285c : Exa Z T285.heap w285 cOL := P285_1
  have F_w285_isPresent_285c : Fld Z T285.heap w285 cOL nIP "Z" (.int (1 : Int32)) := P285_2
  have F_w285_value_285c : Fld Z T285.heap w285 cOL "value" "J" (.long (0 : Int64)) := P285_3
  refine gs T285 (mkF m 26 #[rv op, rv fa] [(.ref w285)]) st285 ?_
  have Zs286 : n0 ≤ T285.heap.size := Nat.le_trans Z0 K285.1
  obtain ⟨_, _, ⟨T287, L287, k287, n287⟩, -, X287, ⟨Lc287, hQ287, l287, y287, z287⟩, st287⟩ := LawKit.callS X285 hx (y := Y16) hown (mvT hZ (tw hw 181 rfl)) (mvT hZ (tw hw 182 rfl)) (mvT hZ (tw hw 8 rfl)) (mvT hZ (tw hw 183 rfl)) (by decide) (backOf (W := 0) (rm_oofn l Z a0 hw [] w285 T285.heap n0 Zs286 (Old.keep O0 K285 hws)) hZ (tw hw 183 rfl) (tw hw 8 rfl) (by decide) (by decide)) (g := (mkF m 26 #[rv op, rv fa] [(.ref w285)])) rfl (by rw [hml]; rfl) (argsL := [(.ref w285)]) (rest := []) (lenOf pd_15 rfl) rfl (wle rfl) (hb hby d27_26) (fun _ _ => ⟨rfl, rfl, (by decide : 5 + 1 ≤ _), (by decide : 10 + 1 ≤ _)⟩)
  dsimp only [Pt.U, Pt.locs, Pt.cells, Pt.slots] at X287 l287 y287 z287 st287 hQ287
  subst l287 y287 z287
  obtain ⟨w287, rfl, N287q, Kc287, P287_0, P287_1, P287_2⟩ := hQ287
  have N287 := Fr.app N285 N287q
  have E_w285_287 : Exa Z T287.heap w285 cOL := E_w285_285c.keep Kc287
  have F_w285_isPresent_287 : Fld Z T287.heap w285 cOL nIP "Z" (.int (1 : Int32)) := F_w285_isPresent_285c.keep Kc287 nin0
  have F_w285_value_287 : Fld Z T287.heap w285 cOL "value" "J" (.long (0 : Int64)) := F_w285_value_285c.keep Kc287 nin0
  have K287 : Keep h0 T287.heap [] := K285.trans Kc287 all0
  have sz_w287 : h0.size ≤ w287 := Nat.le_trans K285.1 P287_0
  have E_w287_287c : Exa Z T287.heap w287 cOP := P287_1
  have F_w287_value_287c : Fld Z T287.heap w287 cOP "value" dOB (.ref w285) := P287_2
  refine gs T287 (mkF m 29 #[rv op, rv fa] [(.ref w287)]) st287 ?_
  exact Goes.ret (v := some (.ref w287)) X287 (by decide) (by decide) (fun h => by rw [Bd.returns] at h; cases h) (by show Q_rm_map_z0 Z th rr em q1 q2 op eo q4 fa cK h0 n0 _ T287.heap _; exact ⟨w287, w285, rfl, N287, K287, sz_w287, E_w287_287c, F_w287_value_287c, sz_w285, E_w285_287, F_w285_isPresent_287, F_w285_value_287⟩) (fun fs hr => retOut X287 hx Bd.returns rfl (Or.inr (Or.inr (Or.inr (Or.inr ⟨rfl, rfl, rfl⟩)))) (hb hby d27_29) hr)
def Q_rm_age_z0 (Z : State) (th : Addr) (rr : Addr) (em : Addr) (q1 : Int64) (q2 : Int64) (op : Addr) (eo : Addr) (q4 : Int64) (h0 : Heap) (n0 : Nat) (v : Option Value) (h : Heap) (L : List Loc) : Prop := ∃ w : Addr, v = some (.ref w) ∧ Fr n0 L ∧ Keep h0 h [] ∧ h0.size ≤ w ∧ Exa Z h w cOL ∧ Fld Z h w cOL nIP "Z" (.int (1 : Int32)) ∧ Fld Z h w cOL "value" "J" (.long (0 : Int64))
set_option maxRecDepth 65536 in
set_option maxHeartbeats 40000000 in
theorem rm_age_z0 (l : Launch) (Z : State) (a0 : Array Value) (hw : ∀ d ∈ tables_1, d.before a0 Z = true) (ws : List Jvm.Cond) (th : Addr) (rr : Addr) (em : Addr) (q1 : Int64) (q2 : Int64) (op : Addr) (eo : Addr) (q4 : Int64) (h0 : Heap) (n0 : Nat) (Z0 : n0 ≤ h0.size) (O0 : Old Z n0 h0) (E_th : Exa Z h0 th cPL) (F_th_offset : Fld Z h0 th cPL "offset" "J" (.long q1)) (F_th_end : Fld Z h0 th cPL "end" "J" (.long q2)) (F_th_records : Fld Z h0 th cPL "records" dOP (.ref op)) (E_op : Exa Z h0 op cOP) (F_op_value : Fld Z h0 op cOP "value" dOB (.ref rr)) (E_rr : Exa Z h0 rr cRR) (F_rr_onlyMarkersLeft : Fld Z h0 rr cRR nOM "Z" (.int (0 : Int32))) (F_rr_lookedAt : Fld Z h0 rr cRR "lookedAt" "J" (.long q4)) (S_OptionalLong_EMPTY_old : Sta Z Z.heap cOL "EMPTY" dOL (.ref em)) (E_em_old : Exa Z Z.heap em cOL) (F_em_isPresent_old : Fld Z Z.heap em cOL nIP "Z" (.int (0 : Int32))) (F_em_value_old : Fld Z Z.heap em cOL "value" "J" (.long (0 : Int64))) (S_Optional_EMPTY_old : Sta Z Z.heap cOP "EMPTY" dOP (.ref eo)) (E_eo_old : Exa Z Z.heap eo cOP) (F_eo_value_old : Fld Z Z.heap eo cOP "value" dOB .null) (hle : ¬ ((0 : Int32) < (XT.cmpL q1 q2))) (hzz : ¬ ((0 : Int32) < (XT.cmpL (q2 - q1) (0 : Int64)))) :
    MetFree l Y30 (head1 (Cond.code Y30 prog_13_method_5_code 1 (some (.object cOL)) :: ws) r24) (fun a U => a = #[(.ref th)] ∧ Z.Warmed39 U.vm ∧ U.heap = h0) (fun _ _ _ _ _ => True) (fun _ U o U' => ∃ v L, o = .returned v ∧ Q_rm_age_z0 Z th rr em q1 q2 op eo q4 h0 n0 v U'.heap L ∧ FrameEnd U o U' L r24.cells r24.slots) := by
  refine MetFree.of_bodySF (plainFor_of_name pn_com_example_log_lag_gauge_loglaggauge_model_PositionLag) hisR ?_
  intro p e s m args below meth c s₁ Bd hml0 hP hK
  obtain ⟨rfl, hZ, hh⟩ := hP
  have hx := Bd.exec
  have hby := Bd.bytes
  have hml : c.maxLocals = 1 := hml0
  have hown : s.vm.findClass cPL = some m.cls := findClass_of_methodNamed Bd.named
  have hnm := (name_of_methodNamed Bd.named Bd.method).1
  have X0 : Stand p l e r24 s m #[(.ref th)] below meth c s₁ [] 0 0 := Stand.of_body Bd
  have e0 : s₁.heap = h0 := by rw [← hh, Bd.state]; rfl
  have N0 := Fr.nil n0
  refine Goes.out (l := l) (c := c) (R := r24) (Q := Q_rm_age_z0 Z th rr em q1 q2 op eo q4 h0 n0) Bd.notSynchronized ?_
  refine Goes.cast (g2 := mkF m 0 #[rv th] []) (by first | (simp [entryFrame, mkF, argsToLocals, Value.category]; done) | rfl) ?_
  have K0 : Keep h0 h0 [] := Keep.refl h0 _
  have hws : ∀ x ∈ ([] : List Addr), n0 ≤ x := all0
  refine gs s₁ (mkF m 1 #[rv th] [(.ref th)]) (fun _ hr => XS.aloadN X0.here hx rfl (hb hby d28_0) rfl rfl hr) ?_
  obtain ⟨T288, X288, e288, st288⟩ := getF X0 hx hZ hown (host := "") (Or.inl (tw hw 41 rfl)) Via.refl e0 F_th_records (g := (mkF m 1 #[rv th] [(.ref th)])) rfl rfl (hb hby d28_1)
  refine gs T288 (mkF m 4 #[rv th] [(.ref op)]) st288 ?_
  refine gs T288 (mkF m 5 #[rv th] [(.ref th), (.ref op)]) (fun _ hr => XS.aloadN X288.here hx rfl (hb hby d28_4) rfl rfl hr) ?_
  obtain ⟨T289, h289, c289, X289, e289, E289, A289, Md289, st289⟩ := own_siteMakes X288 hx hZ (x := Y30) (pc := 5) (fi := 15) (σ := sgA) Bd.named (tw hw 48 rfl) (by decide) cpA (tw hw 51 rfl) e288 (g := (mkF m 5 #[rv th] [(.ref th), (.ref op)])) rfl rfl (by rw [hml]; rfl) (hb hby d28_5) (vals := [(.ref th)]) (rest := [(.ref op)]) rfl rfl own_fit1 (by show 2 * 0 + 2 + 3072 ≤ _; decide) (N := 1) rfl (by decide) (by decide)
  obtain ⟨b289, g289⟩ : ∃ z, z = h0.size := ⟨_, rfl⟩
  rw [← g289] at A289 st289
  have E_th_289 : Exa Z h289 th cPL := E_th.ext E289
  have F_th_offset_289 : Fld Z h289 th cPL "offset" "J" (.long q1) := F_th_offset.ext E289
  have F_th_end_289 : Fld Z h289 th cPL "end" "J" (.long q2) := F_th_end.ext E289
  have F_th_records_289 : Fld Z h289 th cPL "records" dOP (.ref op) := F_th_records.ext E289
  have E_op_289 : Exa Z h289 op cOP := E_op.ext E289
  have F_op_value_289 : Fld Z h289 op cOP "value" dOB (.ref rr) := F_op_value.ext E289
  have E_rr_289 : Exa Z h289 rr cRR := E_rr.ext E289
  have F_rr_onlyMarkersLeft_289 : Fld Z h289 rr cRR nOM "Z" (.int (0 : Int32)) := F_rr_onlyMarkersLeft.ext E289
  have F_rr_lookedAt_289 : Fld Z h289 rr cRR "lookedAt" "J" (.long q4) := F_rr_lookedAt.ext E289
  have K289 : Keep h0 h289 [] := K0.ext E289
  refine gs T289 (mkF m 10 #[rv th] [(.ref b289), (.ref op)]) st289 ?_
  have Zs290 : n0 ≤ h289.size := Nat.le_trans Z0 K289.1
  obtain ⟨cq291, kq291, q291a, q291b, q291c⟩ := isOf hZ e289 E_op_289
  obtain ⟨_, _, ⟨T291, L291, k291, n291⟩, -, X291, ⟨Lc291, hQ291, l291, y291, z291⟩, st291⟩ := X289.virtualBack hx (y := Y29) (z := Y29) hown (mvT hZ (tw hw 52 rfl)) (mvT hZ (tw hw 53 rfl)) (notFace_of_selects (args := #[]) (mvT hZ (tw hw 55 rfl))) (mvT hZ (tw hw 55 rfl)) (mvT hZ (tw hw 54 rfl)) (by decide) (backOf (W := 0) (rm_map_z0 l Z a0 hw [] th rr em q1 q2 op eo q4 b289 c289 h289 n0 Zs290 (Old.keep O0 K289 hws) E_th_289 F_th_offset_289 F_th_end_289 F_th_records_289 E_op_289 F_op_value_289 E_rr_289 F_rr_onlyMarkersLeft_289 F_rr_lookedAt_289 A289 S_OptionalLong_EMPTY_old E_em_old F_em_isPresent_old F_em_value_old S_Optional_EMPTY_old E_eo_old F_eo_value_old hle hzz Md289) hZ (tw hw 56 rfl) (tw hw 8 rfl) (by decide) (by decide)) q291a q291c (g := (mkF m 10 #[rv th] [(.ref b289), (.ref op)])) rfl (by rw [hml]; rfl) (Steps.refl _) (argsL := [(.ref b289)]) (rest := []) (lenOf pd_16 rfl) rfl (wle rfl) (hb hby d28_10) (fun _ _ => ⟨rfl, e289, (by decide : 1 + 6 ≤ _), (by decide : 1 + 11 ≤ _)⟩)
  dsimp only [Pt.U, Pt.locs, Pt.cells, Pt.slots] at X291 l291 y291 z291 st291 hQ291
  subst l291 y291 z291
  obtain ⟨w291, wr291, rfl, N291q, Kc291, P291_0, P291_1, P291_2, P291_3, P291_4, P291_5, P291_6⟩ := hQ291
  have N291 := Fr.app N0 N291q
  have K291 : Keep h0 T291.heap [] := K289.trans Kc291 all0
  have E_w291_291c : Exa Z T291.heap w291 cOP := P291_1
  have F_w291_value_291c : Fld Z T291.heap w291 cOP "value" dOB (.ref wr291) := P291_2
  have sz_wr291 : h0.size ≤ wr291 := Nat.le_trans K289.1 P291_3
  have E_wr291_291c : Exa Z T291.heap wr291 cOL := P291_4
  have F_wr291_isPresent_291c : Fld Z T291.heap wr291 cOL nIP "Z" (.int (1 : Int32)) := P291_5
  have F_wr291_value_291c : Fld Z T291.heap wr291 cOL "value" "J" (.long (0 : Int64)) := P291_6
  refine gs T291 (mkF m 13 #[rv th] [(.ref w291)]) (fun _ hr => st291.trans hr) ?_
  have Zs292 : n0 ≤ T291.heap.size := Nat.le_trans Z0 K291.1
  obtain ⟨_, _, ⟨T293, L293, k293, n293⟩, -, X293, ⟨Lc293, hQ293, l293, y293, z293⟩, st293⟩ := LawKit.callS X291 hx (y := Y4) hown (mvT hZ (tw hw 68 rfl)) (mvT hZ (tw hw 2 rfl)) (mvT hZ (tw hw 3 rfl)) (mvT hZ (tw hw 4 rfl)) (by decide) (backOf (W := 1) (rm_olem l Z a0 hw [] em T291.heap n0 Zs292 (Old.keep O0 K291 hws) S_OptionalLong_EMPTY_old) hZ (tw hw 4 rfl) (tw hw 3 rfl) (by decide) (by decide)) (g := (mkF m 13 #[rv th] [(.ref w291)])) rfl (by rw [hml]; rfl) (argsL := []) (rest := [(.ref w291)]) (lenOf pd_6 rfl) rfl (wle rfl) (hb hby d28_13) (fun _ _ => ⟨rfl, rfl, (by decide : 7 + 0 ≤ _), (by decide : 12 + 0 ≤ _)⟩)
  dsimp only [Pt.U, Pt.locs, Pt.cells, Pt.slots] at X293 l293 y293 z293 st293 hQ293
  subst l293 y293 z293
  obtain ⟨rfl, N293q, e293⟩ := hQ293
  have N293 := Fr.app N291 N293q
  refine gs T293 (mkF m 16 #[rv th] [(.ref em), (.ref w291)]) st293 ?_
  have Zs294 : n0 ≤ T291.heap.size := Nat.le_trans Z0 K291.1
  obtain ⟨cq295, kq295, q295a, q295b, q295c⟩ := isOf hZ e293 E_w291_291c
  obtain ⟨_, _, ⟨T295, L295, k295, n295⟩, -, X295, ⟨Lc295, hQ295, l295, y295, z295⟩, st295⟩ := X293.virtualBack hx (y := Y20) (z := Y20) hown (mvT hZ (tw hw 69 rfl)) (mvT hZ (tw hw 70 rfl)) (notFace_of_selects (args := #[]) (mvT hZ (tw hw 72 rfl))) (mvT hZ (tw hw 72 rfl)) (mvT hZ (tw hw 71 rfl)) (by decide) (backOf (W := 0) (rm_oore1 l Z a0 hw [] w291 wr291 em T291.heap n0 Zs294 (Old.keep O0 K291 hws) F_w291_value_291c) hZ (tw hw 73 rfl) (tw hw 8 rfl) (by decide) (by decide)) q295a q295c (g := (mkF m 16 #[rv th] [(.ref em), (.ref w291)])) rfl (by rw [hml]; rfl) (Steps.refl _) (argsL := [(.ref em)]) (rest := []) (lenOf pd_3 rfl) rfl (wle rfl) (hb hby d28_16) (fun _ _ => ⟨rfl, e293, (by decide : 7 + 0 ≤ _), (by decide : 12 + 0 ≤ _)⟩)
  dsimp only [Pt.U, Pt.locs, Pt.cells, Pt.slots] at X295 l295 y295 z295 st295 hQ295
  subst l295 y295 z295
  obtain ⟨rfl, N295q, e295⟩ := hQ295
  have N295 := Fr.app N293 N295q
  refine gs T295 (mkF m 19 #[rv th] [(.ref wr291)]) (fun _ hr => st295.trans hr) ?_
  obtain ⟨T296, X296, e296, st296⟩ := castY X295 hx hZ hown (tw hw 74 rfl) e295 (Ins.self E_wr291_291c) (g := (mkF m 19 #[rv th] [(.ref wr291)])) rfl rfl (hb hby d28_19)
  refine gs T296 (mkF m 22 #[rv th] [(.ref wr291)]) st296 ?_
  exact Goes.ret (v := some (.ref wr291)) X296 (by decide) (by decide) (fun h => by rw [Bd.returns] at h; cases h) (by show Q_rm_age_z0 Z th rr em q1 q2 op eo q4 h0 n0 _ T296.heap _; rw [e296]; exact ⟨wr291, rfl, N295, K291, sz_wr291, E_wr291_291c, F_wr291_isPresent_291c, F_wr291_value_291c⟩) (fun fs hr => retOut X296 hx Bd.returns rfl (Or.inr (Or.inr (Or.inr (Or.inr ⟨rfl, rfl, rfl⟩)))) (hb hby d28_22) hr)
def Q_rm_lam_p1em (Z : State) (th : Addr) (rr : Addr) (em : Addr) (q1 : Int64) (q2 : Int64) (op : Addr) (eo : Addr) (q4 : Int64) (h0 : Heap) (n0 : Nat) (v : Option Value) (h : Heap) (L : List Loc) : Prop := ∃ w : Addr, v = some (.ref w) ∧ Fr n0 L ∧ Keep h0 h [] ∧ h0.size ≤ w ∧ Exa Z h w cOL ∧ Fld Z h w cOL nIP "Z" (.int (1 : Int32)) ∧ Fld Z h w cOL "value" "J" (.long (0 : Int64))
set_option maxRecDepth 65536 in
set_option maxHeartbeats 40000000 in
theorem rm_lam_p1em (l : Launch) (Z : State) (a0 : Array Value) (hw : ∀ d ∈ tables_1, d.before a0 Z = true) (ws : List Jvm.Cond) (th : Addr) (rr : Addr) (em : Addr) (q1 : Int64) (q2 : Int64) (op : Addr) (eo : Addr) (q4 : Int64) (h0 : Heap) (n0 : Nat) (Z0 : n0 ≤ h0.size) (O0 : Old Z n0 h0) (E_th : Exa Z h0 th cPL) (F_th_offset : Fld Z h0 th cPL "offset" "J" (.long q1)) (F_th_end : Fld Z h0 th cPL "end" "J" (.long q2)) (F_th_records : Fld Z h0 th cPL "records" dOP (.ref op)) (E_op : Exa Z h0 op cOP) (F_op_value : Fld Z h0 op cOP "value" dOB (.ref rr)) (E_rr : Exa Z h0 rr cRR) (F_rr_onlyMarkersLeft : Fld Z h0 rr cRR nOM "Z" (.int (0 : Int32))) (F_rr_firstUnreadTimestamp : Fld Z h0 rr cRR nLT dOL (.ref em)) (F_rr_lookedAt : Fld Z h0 rr cRR "lookedAt" "J" (.long q4)) (S_OptionalLong_EMPTY_old : Sta Z Z.heap cOL "EMPTY" dOL (.ref em)) (E_em_old : Exa Z Z.heap em cOL) (F_em_isPresent_old : Fld Z Z.heap em cOL nIP "Z" (.int (0 : Int32))) (F_em_value_old : Fld Z Z.heap em cOL "value" "J" (.long (0 : Int64))) (S_Optional_EMPTY_old : Sta Z Z.heap cOP "EMPTY" dOP (.ref eo)) (E_eo_old : Exa Z Z.heap eo cOP) (F_eo_value_old : Fld Z Z.heap eo cOP "value" dOB .null) (hle : ¬ ((0 : Int32) < (XT.cmpL q1 q2))) (hpp : (0 : Int32) < (XT.cmpL (q2 - q1) (0 : Int64))) :
    MetFree l Y0 (head1 (Cond.code Y0 prog_13_method_13_code 2 (some (.object cOL)) :: ws) r21) (fun a U => a = #[(.ref th), (.ref rr)] ∧ Z.Warmed39 U.vm ∧ U.heap = h0) (fun _ _ _ _ _ => True) (fun _ U o U' => ∃ v L, o = .returned v ∧ Q_rm_lam_p1em Z th rr em q1 q2 op eo q4 h0 n0 v U'.heap L ∧ FrameEnd U o U' L r21.cells r21.slots) := by
  refine MetFree.of_bodySF (plainFor_of_name pn_com_example_log_lag_gauge_loglaggauge_model_PositionLag) hisR ?_
  intro p e s m args below meth c s₁ Bd hml0 hP hK
  obtain ⟨rfl, hZ, hh⟩ := hP
  have hx := Bd.exec
  have hby := Bd.bytes
  have hml : c.maxLocals = 2 := hml0
  have hown : s.vm.findClass cPL = some m.cls := findClass_of_methodNamed Bd.named
  have hnm := (name_of_methodNamed Bd.named Bd.method).1
  have X0 : Stand p l e r21 s m #[(.ref th), (.ref rr)] below meth c s₁ [] 0 0 := Stand.of_body Bd
  have e0 : s₁.heap = h0 := by rw [← hh, Bd.state]; rfl
  have N0 := Fr.nil n0
  refine Goes.out (l := l) (c := c) (R := r21) (Q := Q_rm_lam_p1em Z th rr em q1 q2 op eo q4 h0 n0) Bd.notSynchronized ?_
  refine Goes.cast (g2 := mkF m 0 #[rv th, rv rr] []) (by first | (simp [entryFrame, mkF, argsToLocals, Value.category]; done) | rfl) ?_
  have K0 : Keep h0 h0 [] := Keep.refl h0 _
  have hws : ∀ x ∈ ([] : List Addr), n0 ≤ x := all0
  refine gs s₁ (mkF m 1 #[rv th, rv rr] [(.ref th)]) (fun _ hr => XS.aloadN X0.here hx rfl (hb hby d26_0) rfl rfl hr) ?_
  refine gs s₁ (mkF m 2 #[rv th, rv rr] [(.ref rr), (.ref th)]) (fun _ hr => XS.aloadN X0.here hx rfl (hb hby d26_1) rfl rfl hr) ?_
  refine gs s₁ (mkF m 3 #[rv th, rv rr] [(.ref rr), (.ref rr), (.ref th)]) (fun _ hr => XS.aloadN X0.here hx rfl (hb hby d26_2) rfl rfl hr) ?_
  have Zs297 : n0 ≤ h0.size := Nat.le_trans Z0 K0.1
  obtain ⟨cq298, kq298, q298a, q298b, q298c⟩ := isOf hZ e0 E_rr
  obtain ⟨_, _, ⟨T298, L298, k298, n298⟩, -, X298, ⟨Lc298, hQ298, l298, y298, z298⟩, st298⟩ := X0.virtualBack hx (y := Y11) (z := Y11) hown (mvT hZ (tw hw 129 rfl)) (mvT hZ (tw hw 130 rfl)) (notFace_of_selects (args := #[]) (mvT hZ (tw hw 132 rfl))) (mvT hZ (tw hw 132 rfl)) (mvT hZ (tw hw 131 rfl)) (by decide) (backOf (W := 2) (rm_lookedAt l Z a0 hw [] rr q4 h0 n0 Zs297 (Old.keep O0 K0 hws) F_rr_lookedAt) hZ (tw hw 133 rfl) (tw hw 96 rfl) (by decide) (by decide)) q298a q298c (g := (mkF m 3 #[rv th, rv rr] [(.ref rr), (.ref rr), (.ref th)])) rfl (by rw [hml]; rfl) (Steps.refl _) (argsL := []) (rest := [(.ref rr), (.ref th)]) (lenOf pd_5 rfl) rfl (wle rfl) (hb hby d26_3) (fun _ _ => ⟨rfl, e0, (by decide : 0 + 0 ≤ _), (by decide : 0 + 0 ≤ _)⟩)
  dsimp only [Pt.U, Pt.locs, Pt.cells, Pt.slots] at X298 l298 y298 z298 st298 hQ298
  subst l298 y298 z298
  obtain ⟨rfl, N298q, e298⟩ := hQ298
  have N298 := Fr.app N0 N298q
  refine gs T298 (mkF m 6 #[rv th, rv rr] [(.long q4), (.ref rr), (.ref th)]) (fun _ hr => st298.trans hr) ?_
  have Zs299 : n0 ≤ h0.size := Nat.le_trans Z0 K0.1
  obtain ⟨_, _, ⟨T300, L300, k300, n300⟩, -, X300, ⟨Lc300, hQ300, l300, y300, z300⟩, st300⟩ := LawKit.callS X298 hx (y := Y3) hown (mvT hZ (tw hw 134 rfl)) (mvT hZ (tw hw 84 rfl)) (mvT hZ (tw hw 3 rfl)) (mvT hZ (tw hw 85 rfl)) (by decide) (backOf (W := 2) (rm_olof l Z a0 hw [] q4 h0 n0 Zs299 (Old.keep O0 K0 hws)) hZ (tw hw 85 rfl) (tw hw 3 rfl) (by decide) (by decide)) (g := (mkF m 6 #[rv th, rv rr] [(.long q4), (.ref rr), (.ref th)])) rfl (by rw [hml]; rfl) (argsL := [(.long q4)]) (rest := [(.ref rr), (.ref th)]) (lenOf pd_7 rfl) rfl (wle rfl) (hb hby d26_6) (fun _ _ => ⟨rfl, e298, (by decide : 0 + 1 ≤ _), (by decide : 0 + 2 ≤ _)⟩)
  dsimp only [Pt.U, Pt.locs, Pt.cells, Pt.slots] at X300 l300 y300 z300 st300 hQ300
  subst l300 y300 z300
  obtain ⟨w300, rfl, N300q, Kc300, P300_0, P300_1, P300_2, P300_3⟩ := hQ300
  have N300 := Fr.app N298 N300q
  have E_th_300 : Exa Z T300.heap th cPL := E_th.keep Kc300
  have F_th_offset_300 : Fld Z T300.heap th cPL "offset" "J" (.long q1) := F_th_offset.keep Kc300 nin0
  have F_th_end_300 : Fld Z T300.heap th cPL "end" "J" (.long q2) := F_th_end.keep Kc300 nin0
  have F_th_records_300 : Fld Z T300.heap th cPL "records" dOP (.ref op) := F_th_records.keep Kc300 nin0
  have E_op_300 : Exa Z T300.heap op cOP := E_op.keep Kc300
  have F_op_value_300 : Fld Z T300.heap op cOP "value" dOB (.ref rr) := F_op_value.keep Kc300 nin0
  have E_rr_300 : Exa Z T300.heap rr cRR := E_rr.keep Kc300
  have F_rr_onlyMarkersLeft_300 : Fld Z T300.heap rr cRR nOM "Z" (.int (0 : Int32)) := F_rr_onlyMarkersLeft.keep Kc300 nin0
  have F_rr_firstUnreadTimestamp_300 : Fld Z T300.heap rr cRR nLT dOL (.ref em) := F_rr_firstUnreadTimestamp.keep Kc300 nin0
  have K300 : Keep h0 T300.heap [] := K0.trans Kc300 all0
  have E_w300_300c : Exa Z T300.heap w300 cOL := P300_1
  have F_w300_isPresent_300c : Fld Z T300.heap w300 cOL nIP "Z" (.int (1 : Int32)) := P300_2
  have F_w300_value_300c : Fld Z T300.heap w300 cOL "value" "J" (.long q4) := P300_3
  refine gs T300 (mkF m 9 #[rv th, rv rr] [(.ref w300), (.ref rr), (.ref th)]) st300 ?_
  have Zs301 : n0 ≤ T300.heap.size := Nat.le_trans Z0 K300.1
  obtain ⟨cl302, kl302, q302a, -, -, q302d, -⟩ := id E_th_300
  obtain ⟨_, _, ⟨T302, L302, k302, n302⟩, -, X302, ⟨Lc302, hQ302, l302, y302, z302⟩, st302⟩ := X300.privateBack hx (y := Y27) hown (mvT hZ (tw hw 135 rfl)) (mvT hZ (tw hw 136 rfl)) (own_selP (mvT hZ (tw hw 12 rfl)) (mvT hZ (tw hw 137 rfl)) (mvT hZ (tw hw 136 rfl)) (by decide)) (Cond.privateMethod_at (args := #[]) (mvT hZ (tw hw 137 rfl))) (mvT hZ (tw hw 138 rfl)) (by decide) (backOf (W := 0) (rm_beh_p1em l Z a0 hw [] th rr em q1 q2 op eo w300 q4 T300.heap n0 Zs301 (Old.keep O0 K300 hws) E_th_300 F_th_offset_300 F_th_end_300 F_th_records_300 E_op_300 F_op_value_300 E_rr_300 F_rr_onlyMarkersLeft_300 F_rr_firstUnreadTimestamp_300 E_w300_300c F_w300_isPresent_300c F_w300_value_300c S_OptionalLong_EMPTY_old E_em_old F_em_isPresent_old F_em_value_old S_Optional_EMPTY_old E_eo_old F_eo_value_old hle hpp) hZ (tw hw 138 rfl) (tw hw 13 rfl) (by decide) (by decide)) (g := (mkF m 9 #[rv th, rv rr] [(.ref w300), (.ref rr), (.ref th)])) rfl (by rw [hml]; rfl) (Steps.refl _) (own_at rfl q302a) (fun q z => by rw [z] at q302d; cases q302d) (argsL := [(.ref rr), (.ref w300)]) (rest := []) (lenOf pd_14 rfl) rfl (wle rfl) (hb hby d26_9) (fun _ _ => ⟨rfl, rfl, (by decide : 1 + 4 ≤ _), (by decide : 2 + 8 ≤ _)⟩)
  dsimp only [Pt.U, Pt.locs, Pt.cells, Pt.slots] at X302 l302 y302 z302 st302 hQ302
  subst l302 y302 z302
  obtain ⟨w302, rfl, N302q, Kc302, P302_0, P302_1, P302_2, P302_3⟩ := hQ302
  have N302 := Fr.app N300 N302q
  have K302 : Keep h0 T302.heap [] := K300.trans Kc302 all0
  have sz_w302 : h0.size ≤ w302 := Nat.le_trans K300.1 P302_0
  have E_w302_302c : Exa Z T302.heap w302 cOL := P302_1
  have F_w302_isPresent_302c : Fld Z T302.heap w302 cOL nIP "Z" (.int (1 : Int32)) := P302_2
  have F_w302_value_302c : Fld Z T302.heap w302 cOL "value" "J" (.long (0 : Int64)) := P302_3
  refine gs T302 (mkF m 12 #[rv th, rv rr] [(.ref w302)]) (fun _ hr => st302.trans hr) ?_
  exact Goes.ret (v := some (.ref w302)) X302 (by decide) (by decide) (fun h => by rw [Bd.returns] at h; cases h) (by show Q_rm_lam_p1em Z th rr em q1 q2 op eo q4 h0 n0 _ T302.heap _; exact ⟨w302, rfl, N302, K302, sz_w302, E_w302_302c, F_w302_isPresent_302c, F_w302_value_302c⟩) (fun fs hr => retOut X302 hx Bd.returns rfl (Or.inr (Or.inr (Or.inr (Or.inr ⟨rfl, rfl, rfl⟩)))) (hb hby d26_12) hr)
def Q_rm_map_p1em (Z : State) (th : Addr) (rr : Addr) (em : Addr) (q1 : Int64) (q2 : Int64) (op : Addr) (eo : Addr) (q4 : Int64) (fa : Addr) (cK : ClassId) (h0 : Heap) (n0 : Nat) (v : Option Value) (h : Heap) (L : List Loc) : Prop := ∃ w : Addr, ∃ wr : Addr, v = some (.ref w) ∧ Fr n0 L ∧ Keep h0 h [] ∧ h0.size ≤ w ∧ Exa Z h w cOP ∧ Fld Z h w cOP "value" dOB (.ref wr) ∧ h0.size ≤ wr ∧ Exa Z h wr cOL ∧ Fld Z h wr cOL nIP "Z" (.int (1 : Int32)) ∧ Fld Z h wr cOL "value" "J" (.long (0 : Int64))
set_option maxRecDepth 65536 in
set_option maxHeartbeats 40000000 in
theorem rm_map_p1em (l : Launch) (Z : State) (a0 : Array Value) (hw : ∀ d ∈ tables_1, d.before a0 Z = true) (ws : List Jvm.Cond) (th : Addr) (rr : Addr) (em : Addr) (q1 : Int64) (q2 : Int64) (op : Addr) (eo : Addr) (q4 : Int64) (fa : Addr) (cK : ClassId) (h0 : Heap) (n0 : Nat) (Z0 : n0 ≤ h0.size) (O0 : Old Z n0 h0) (E_th : Exa Z h0 th cPL) (F_th_offset : Fld Z h0 th cPL "offset" "J" (.long q1)) (F_th_end : Fld Z h0 th cPL "end" "J" (.long q2)) (F_th_records : Fld Z h0 th cPL "records" dOP (.ref op)) (E_op : Exa Z h0 op cOP) (F_op_value : Fld Z h0 op cOP "value" dOB (.ref rr)) (E_rr : Exa Z h0 rr cRR) (F_rr_onlyMarkersLeft : Fld Z h0 rr cRR nOM "Z" (.int (0 : Int32))) (F_rr_firstUnreadTimestamp : Fld Z h0 rr cRR nLT dOL (.ref em)) (F_rr_lookedAt : Fld Z h0 rr cRR "lookedAt" "J" (.long q4)) (G_fa : FnV h0 fa cK #[(.ref th)]) (S_OptionalLong_EMPTY_old : Sta Z Z.heap cOL "EMPTY" dOL (.ref em)) (E_em_old : Exa Z Z.heap em cOL) (F_em_isPresent_old : Fld Z Z.heap em cOL nIP "Z" (.int (0 : Int32))) (F_em_value_old : Fld Z Z.heap em cOL "value" "J" (.long (0 : Int64))) (S_Optional_EMPTY_old : Sta Z Z.heap cOP "EMPTY" dOP (.ref eo)) (E_eo_old : Exa Z Z.heap eo cOP) (F_eo_value_old : Fld Z Z.heap eo cOP "value" dOB .null) (hle : ¬ ((0 : Int32) < (XT.cmpL q1 q2))) (hpp : (0 : Int32) < (XT.cmpL (q2 - q1) (0 : Int64))) (Md : Jvm.LamKit.Made Z cPL sgA cK) :
    MetFree l Y29 (head1 (Cond.code Y29 jdk_32_method_11_code 2 (some (.object cOP)) :: ws) r22) (fun a U => a = #[(.ref op), (.ref fa)] ∧ Z.Warmed39 U.vm ∧ U.heap = h0) (fun _ _ _ _ _ => True) (fun _ U o U' => ∃ v L, o = .returned v ∧ Q_rm_map_p1em Z th rr em q1 q2 op eo q4 fa cK h0 n0 v U'.heap L ∧ FrameEnd U o U' L r22.cells r22.slots) := by
  refine MetFree.of_bodySF (plainFor_of_name pn_java_util_Optional) hisR ?_
  intro p e s m args below meth c s₁ Bd hml0 hP hK
  obtain ⟨rfl, hZ, hh⟩ := hP
  have hx := Bd.exec
  have hby := Bd.bytes
  have hml : c.maxLocals = 2 := hml0
  have hown : s.vm.findClass cOP = some m.cls := findClass_of_methodNamed Bd.named
  have hnm := (name_of_methodNamed Bd.named Bd.method).1
  have X0 : Stand p l e r22 s m #[(.ref op), (.ref fa)] below meth c s₁ [] 0 0 := Stand.of_body Bd
  have e0 : s₁.heap = h0 := by rw [← hh, Bd.state]; rfl
  have N0 := Fr.nil n0
  refine Goes.out (l := l) (c := c) (R := r22) (Q := Q_rm_map_p1em Z th rr em q1 q2 op eo q4 fa cK h0 n0) Bd.notSynchronized ?_
  refine Goes.cast (g2 := mkF m 0 #[rv op, rv fa] []) (by first | (simp [entryFrame, mkF, argsToLocals, Value.category]; done) | rfl) ?_
  have K0 : Keep h0 h0 [] := Keep.refl h0 _
  have hws : ∀ x ∈ ([] : List Addr), n0 ≤ x := all0
  refine gs s₁ (mkF m 1 #[rv op, rv fa] [(.ref fa)]) (fun _ hr => XS.aloadN X0.here hx rfl (hb hby d27_0) rfl rfl hr) ?_
  have Zs303 : n0 ≤ h0.size := Nat.le_trans Z0 K0.1
  obtain ⟨_, _, ⟨T304, L304, k304, n304⟩, -, X304, ⟨Lc304, hQ304, l304, y304, z304⟩, st304⟩ := LawKit.callS X0 hx (y := Y13) hown (mvT hZ (tw hw 57 rfl)) (mvT hZ (tw hw 58 rfl)) (mvT hZ (tw hw 35 rfl)) (mvT hZ (tw hw 59 rfl)) (by decide) (backOf (W := 0) (rm_rnn1 l Z a0 hw [] fa h0 n0 Zs303 (Old.keep O0 K0 hws)) hZ (tw hw 59 rfl) (tw hw 35 rfl) (by decide) (by decide)) (g := (mkF m 1 #[rv op, rv fa] [(.ref fa)])) rfl (by rw [hml]; rfl) (argsL := [(.ref fa)]) (rest := []) (lenOf pd_3 rfl) rfl (wle rfl) (hb hby d27_1) (fun _ _ => ⟨rfl, e0, (by decide : 0 + 0 ≤ _), (by decide : 0 + 0 ≤ _)⟩)
  dsimp only [Pt.U, Pt.locs, Pt.cells, Pt.slots] at X304 l304 y304 z304 st304 hQ304
  subst l304 y304 z304
  obtain ⟨rfl, N304q, e304⟩ := hQ304
  have N304 := Fr.app N0 N304q
  refine gs T304 (mkF m 4 #[rv op, rv fa] [(.ref fa)]) st304 ?_
  refine gs T304 (mkF m 5 #[rv op, rv fa] []) (fun _ hr => XT.pop X304.here hx rfl (hb hby d27_4) rfl rfl hr) ?_
  refine gs T304 (mkF m 6 #[rv op, rv fa] [(.ref op)]) (fun _ hr => XS.aloadN X304.here hx rfl (hb hby d27_5) rfl rfl hr) ?_
  have Zs305 : n0 ≤ h0.size := Nat.le_trans Z0 K0.1
  obtain ⟨cq306, kq306, q306a, q306b, q306c⟩ := isOf hZ e304 E_op
  obtain ⟨_, _, ⟨T306, L306, k306, n306⟩, -, X306, ⟨Lc306, hQ306, l306, y306, z306⟩, st306⟩ := X304.virtualBack hx (y := Y18) (z := Y18) hown (mvT hZ (tw hw 60 rfl)) (mvT hZ (tw hw 61 rfl)) (notFace_of_selects (args := #[]) (mvT hZ (tw hw 63 rfl))) (mvT hZ (tw hw 63 rfl)) (mvT hZ (tw hw 62 rfl)) (by decide) (backOf (W := 0) (rm_oise1 l Z a0 hw [] op rr h0 n0 Zs305 (Old.keep O0 K0 hws) F_op_value) hZ (tw hw 64 rfl) (tw hw 8 rfl) (by decide) (by decide)) q306a q306c (g := (mkF m 6 #[rv op, rv fa] [(.ref op)])) rfl (by rw [hml]; rfl) (Steps.refl _) (argsL := []) (rest := []) (lenOf pd_1 rfl) rfl (wle rfl) (hb hby d27_6) (fun _ _ => ⟨rfl, e304, (by decide : 0 + 0 ≤ _), (by decide : 0 + 0 ≤ _)⟩)
  dsimp only [Pt.U, Pt.locs, Pt.cells, Pt.slots] at X306 l306 y306 z306 st306 hQ306
  subst l306 y306 z306
  obtain ⟨rfl, N306q, e306⟩ := hQ306
  have N306 := Fr.app N304 N306q
  refine gs T306 (mkF m 9 #[rv op, rv fa] [(.int (0 : Int32))]) (fun _ hr => st306.trans hr) ?_
  refine gs T306 (mkF m 16 #[rv op, rv fa] []) (fun _ hr => XS.ifYes X306.here hx rfl (pc0 := 9) (pc' := 16) rfl (hb hby d27_9) rfl ((if0 _ _).trans (teq (by decide : (0 : Int32) = (0 : Int32))).1) (by decide) (by decide) hr) ?_
  refine gs T306 (mkF m 17 #[rv op, rv fa] [(.ref fa)]) (fun _ hr => XS.aloadN X306.here hx rfl (hb hby d27_16) rfl rfl hr) ?_
  refine gs T306 (mkF m 18 #[rv op, rv fa] [(.ref op), (.ref fa)]) (fun _ hr => XS.aloadN X306.here hx rfl (hb hby d27_17) rfl rfl hr) ?_
  obtain ⟨T307, X307, e307, st307⟩ := getF X306 hx hZ hown (host := "") (Or.inl (tw hw 65 rfl)) Via.refl e306 F_op_value (g := (mkF m 18 #[rv op, rv fa] [(.ref op), (.ref fa)])) rfl rfl (hb hby d27_18)
  refine gs T307 (mkF m 21 #[rv op, rv fa] [(.ref rr), (.ref fa)]) st307 ?_
  have Zs308 : n0 ≤ h0.size := Nat.le_trans Z0 K0.1
  obtain ⟨_, T309, Lc309, X309, hQ309, st309⟩ := own_callFace X307 hx hZ (xi := Y28) hown (tw hw 122 rfl) (tw hw 123 rfl) (tw hw 124 rfl) ⟨rfl, rfl, by decide +kernel⟩ (by decide) Md e307 G_fa okA (g := (mkF m 21 #[rv op, rv fa] [(.ref rr), (.ref fa)])) rfl (by rw [hml]; rfl) (argsL := [(.ref rr)]) (rest := []) (lenOf pd_3 rfl) rfl (hb hby d27_21) (R' := r23) (Q := Q_rm_lam_p1em Z th rr em q1 q2 op eo q4 h0 n0) (by decide) (by show 2 * 0 + 0 + 13 + 3116 ≤ _; decide) (by decide) (by decide) (fun s' U bl mk ck Y' hZ' eU zq1 zq2 zq3 => bodyA hx Y' hZ' hw Md zq1 zq2 zq3 eU G_fa E_rr E_th (rm_lam_p1em l Z a0 hw [] th rr em q1 q2 op eo q4 h0 n0 Zs308 (Old.keep O0 K0 hws) E_th F_th_offset F_th_end F_th_records E_op F_op_value E_rr F_rr_onlyMarkersLeft F_rr_firstUnreadTimestamp F_rr_lookedAt S_OptionalLong_EMPTY_old E_em_old F_em_isPresent_old F_em_value_old S_Optional_EMPTY_old E_eo_old F_eo_value_old hle hpp) (fun v h L q => by obtain ⟨_, rfl, -⟩ := q; exact ⟨_, rfl⟩) (by decide) (by decide) (by decide) (by decide))
  obtain ⟨w309, rfl, N309q, Kc309, P309_0, P309_1, P309_2, P309_3⟩ := hQ309
  have N309 := Fr.app N306 N309q
  have K309 : Keep h0 T309.heap [] := K0.trans Kc309 all0
  have sz_w309 : h0.size ≤ w309 := Nat.le_trans K0.1 P309_0
  have E_w309_309c : Exa Z T309.heap w309 cOL := P309_1
  have F_w309_isPresent_309c : Fld Z T309.heap w309 cOL nIP "Z" (.int (1 : Int32)) := P309_2
  have F_w309_value_309c : Fld Z T309.heap w309 cOL "value" "J" (.long (0 : Int64)) := P309_3
  refine gs T309 (mkF m 26 #[rv op, rv fa] [(.ref w309)]) st309 ?_
  have Zs310 : n0 ≤ T309.heap.size := Nat.le_trans Z0 K309.1
  obtain ⟨_, _, ⟨T311, L311, k311, n311⟩, -, X311, ⟨Lc311, hQ311, l311, y311, z311⟩, st311⟩ := LawKit.callS X309 hx (y := Y16) hown (mvT hZ (tw hw 181 rfl)) (mvT hZ (tw hw 182 rfl)) (mvT hZ (tw hw 8 rfl)) (mvT hZ (tw hw 183 rfl)) (by decide) (backOf (W := 0) (rm_oofn l Z a0 hw [] w309 T309.heap n0 Zs310 (Old.keep O0 K309 hws)) hZ (tw hw 183 rfl) (tw hw 8 rfl) (by decide) (by decide)) (g := (mkF m 26 #[rv op, rv fa] [(.ref w309)])) rfl (by rw [hml]; rfl) (argsL := [(.ref w309)]) (rest := []) (lenOf pd_15 rfl) rfl (wle rfl) (hb hby d27_26) (fun _ _ => ⟨rfl, rfl, (by decide : 5 + 1 ≤ _), (by decide : 10 + 1 ≤ _)⟩)
  dsimp only [Pt.U, Pt.locs, Pt.cells, Pt.slots] at X311 l311 y311 z311 st311 hQ311
  subst l311 y311 z311
  obtain ⟨w311, rfl, N311q, Kc311, P311_0, P311_1, P311_2⟩ := hQ311
  have N311 := Fr.app N309 N311q
  have E_w309_311 : Exa Z T311.heap w309 cOL := E_w309_309c.keep Kc311
  have F_w309_isPresent_311 : Fld Z T311.heap w309 cOL nIP "Z" (.int (1 : Int32)) := F_w309_isPresent_309c.keep Kc311 nin0
  have F_w309_value_311 : Fld Z T311.heap w309 cOL "value" "J" (.long (0 : Int64)) := F_w309_value_309c.keep Kc311 nin0
  have K311 : Keep h0 T311.heap [] := K309.trans Kc311 all0
  have sz_w311 : h0.size ≤ w311 := Nat.le_trans K309.1 P311_0
  have E_w311_311c : Exa Z T311.heap w311 cOP := P311_1
  have F_w311_value_311c : Fld Z T311.heap w311 cOP "value" dOB (.ref w309) := P311_2
  refine gs T311 (mkF m 29 #[rv op, rv fa] [(.ref w311)]) st311 ?_
  exact Goes.ret (v := some (.ref w311)) X311 (by decide) (by decide) (fun h => by rw [Bd.returns] at h; cases h) (by show Q_rm_map_p1em Z th rr em q1 q2 op eo q4 fa cK h0 n0 _ T311.heap _; exact ⟨w311, w309, rfl, N311, K311, sz_w311, E_w311_311c, F_w311_value_311c, sz_w309, E_w309_311, F_w309_isPresent_311, F_w309_value_311⟩) (fun fs hr => retOut X311 hx Bd.returns rfl (Or.inr (Or.inr (Or.inr (Or.inr ⟨rfl, rfl, rfl⟩)))) (hb hby d27_29) hr)
def Q_rm_age_p1em (Z : State) (th : Addr) (rr : Addr) (em : Addr) (q1 : Int64) (q2 : Int64) (op : Addr) (eo : Addr) (q4 : Int64) (h0 : Heap) (n0 : Nat) (v : Option Value) (h : Heap) (L : List Loc) : Prop := ∃ w : Addr, v = some (.ref w) ∧ Fr n0 L ∧ Keep h0 h [] ∧ h0.size ≤ w ∧ Exa Z h w cOL ∧ Fld Z h w cOL nIP "Z" (.int (1 : Int32)) ∧ Fld Z h w cOL "value" "J" (.long (0 : Int64))
set_option maxRecDepth 65536 in
set_option maxHeartbeats 40000000 in
theorem rm_age_p1em (l : Launch) (Z : State) (a0 : Array Value) (hw : ∀ d ∈ tables_1, d.before a0 Z = true) (ws : List Jvm.Cond) (th : Addr) (rr : Addr) (em : Addr) (q1 : Int64) (q2 : Int64) (op : Addr) (eo : Addr) (q4 : Int64) (h0 : Heap) (n0 : Nat) (Z0 : n0 ≤ h0.size) (O0 : Old Z n0 h0) (E_th : Exa Z h0 th cPL) (F_th_offset : Fld Z h0 th cPL "offset" "J" (.long q1)) (F_th_end : Fld Z h0 th cPL "end" "J" (.long q2)) (F_th_records : Fld Z h0 th cPL "records" dOP (.ref op)) (E_op : Exa Z h0 op cOP) (F_op_value : Fld Z h0 op cOP "value" dOB (.ref rr)) (E_rr : Exa Z h0 rr cRR) (F_rr_onlyMarkersLeft : Fld Z h0 rr cRR nOM "Z" (.int (0 : Int32))) (F_rr_firstUnreadTimestamp : Fld Z h0 rr cRR nLT dOL (.ref em)) (F_rr_lookedAt : Fld Z h0 rr cRR "lookedAt" "J" (.long q4)) (S_OptionalLong_EMPTY_old : Sta Z Z.heap cOL "EMPTY" dOL (.ref em)) (E_em_old : Exa Z Z.heap em cOL) (F_em_isPresent_old : Fld Z Z.heap em cOL nIP "Z" (.int (0 : Int32))) (F_em_value_old : Fld Z Z.heap em cOL "value" "J" (.long (0 : Int64))) (S_Optional_EMPTY_old : Sta Z Z.heap cOP "EMPTY" dOP (.ref eo)) (E_eo_old : Exa Z Z.heap eo cOP) (F_eo_value_old : Fld Z Z.heap eo cOP "value" dOB .null) (hle : ¬ ((0 : Int32) < (XT.cmpL q1 q2))) (hpp : (0 : Int32) < (XT.cmpL (q2 - q1) (0 : Int64))) :
    MetFree l Y30 (head1 (Cond.code Y30 prog_13_method_5_code 1 (some (.object cOL)) :: ws) r24) (fun a U => a = #[(.ref th)] ∧ Z.Warmed39 U.vm ∧ U.heap = h0) (fun _ _ _ _ _ => True) (fun _ U o U' => ∃ v L, o = .returned v ∧ Q_rm_age_p1em Z th rr em q1 q2 op eo q4 h0 n0 v U'.heap L ∧ FrameEnd U o U' L r24.cells r24.slots) := by
  refine MetFree.of_bodySF (plainFor_of_name pn_com_example_log_lag_gauge_loglaggauge_model_PositionLag) hisR ?_
  intro p e s m args below meth c s₁ Bd hml0 hP hK
  obtain ⟨rfl, hZ, hh⟩ := hP
  have hx := Bd.exec
  have hby := Bd.bytes
  have hml : c.maxLocals = 1 := hml0
  have hown : s.vm.findClass cPL = some m.cls := findClass_of_methodNamed Bd.named
  have hnm := (name_of_methodNamed Bd.named Bd.method).1
  have X0 : Stand p l e r24 s m #[(.ref th)] below meth c s₁ [] 0 0 := Stand.of_body Bd
  have e0 : s₁.heap = h0 := by rw [← hh, Bd.state]; rfl
  have N0 := Fr.nil n0
  refine Goes.out (l := l) (c := c) (R := r24) (Q := Q_rm_age_p1em Z th rr em q1 q2 op eo q4 h0 n0) Bd.notSynchronized ?_
  refine Goes.cast (g2 := mkF m 0 #[rv th] []) (by first | (simp [entryFrame, mkF, argsToLocals, Value.category]; done) | rfl) ?_
  have K0 : Keep h0 h0 [] := Keep.refl h0 _
  have hws : ∀ x ∈ ([] : List Addr), n0 ≤ x := all0
  refine gs s₁ (mkF m 1 #[rv th] [(.ref th)]) (fun _ hr => XS.aloadN X0.here hx rfl (hb hby d28_0) rfl rfl hr) ?_
  obtain ⟨T312, X312, e312, st312⟩ := getF X0 hx hZ hown (host := "") (Or.inl (tw hw 41 rfl)) Via.refl e0 F_th_records (g := (mkF m 1 #[rv th] [(.ref th)])) rfl rfl (hb hby d28_1)
  refine gs T312 (mkF m 4 #[rv th] [(.ref op)]) st312 ?_
  refine gs T312 (mkF m 5 #[rv th] [(.ref th), (.ref op)]) (fun _ hr => XS.aloadN X312.here hx rfl (hb hby d28_4) rfl rfl hr) ?_
  obtain ⟨T313, h313, c313, X313, e313, E313, A313, Md313, st313⟩ := own_siteMakes X312 hx hZ (x := Y30) (pc := 5) (fi := 15) (σ := sgA) Bd.named (tw hw 48 rfl) (by decide) cpA (tw hw 51 rfl) e312 (g := (mkF m 5 #[rv th] [(.ref th), (.ref op)])) rfl rfl (by rw [hml]; rfl) (hb hby d28_5) (vals := [(.ref th)]) (rest := [(.ref op)]) rfl rfl own_fit1 (by show 2 * 0 + 2 + 3072 ≤ _; decide) (N := 1) rfl (by decide) (by decide)
  obtain ⟨b313, g313⟩ : ∃ z, z = h0.size := ⟨_, rfl⟩
  rw [← g313] at A313 st313
  have E_th_313 : Exa Z h313 th cPL := E_th.ext E313
  have F_th_offset_313 : Fld Z h313 th cPL "offset" "J" (.long q1) := F_th_offset.ext E313
  have F_th_end_313 : Fld Z h313 th cPL "end" "J" (.long q2) := F_th_end.ext E313
  have F_th_records_313 : Fld Z h313 th cPL "records" dOP (.ref op) := F_th_records.ext E313
  have E_op_313 : Exa Z h313 op cOP := E_op.ext E313
  have F_op_value_313 : Fld Z h313 op cOP "value" dOB (.ref rr) := F_op_value.ext E313
  have E_rr_313 : Exa Z h313 rr cRR := E_rr.ext E313
  have F_rr_onlyMarkersLeft_313 : Fld Z h313 rr cRR nOM "Z" (.int (0 : Int32)) := F_rr_onlyMarkersLeft.ext E313
  have F_rr_firstUnreadTimestamp_313 : Fld Z h313 rr cRR nLT dOL (.ref em) := F_rr_firstUnreadTimestamp.ext E313
  have F_rr_lookedAt_313 : Fld Z h313 rr cRR "lookedAt" "J" (.long q4) := F_rr_lookedAt.ext E313
  have K313 : Keep h0 h313 [] := K0.ext E313
  refine gs T313 (mkF m 10 #[rv th] [(.ref b313), (.ref op)]) st313 ?_
  have Zs314 : n0 ≤ h313.size := Nat.le_trans Z0 K313.1
  obtain ⟨cq315, kq315, q315a, q315b, q315c⟩ := isOf hZ e313 E_op_313
  obtain ⟨_, _, ⟨T315, L315, k315, n315⟩, -, X315, ⟨Lc315, hQ315, l315, y315, z315⟩, st315⟩ := X313.virtualBack hx (y := Y29) (z := Y29) hown (mvT hZ (tw hw 52 rfl)) (mvT hZ (tw hw 53 rfl)) (notFace_of_selects (args := #[]) (mvT hZ (tw hw 55 rfl))) (mvT hZ (tw hw 55 rfl)) (mvT hZ (tw hw 54 rfl)) (by decide) (backOf (W := 0) (rm_map_p1em l Z a0 hw [] th rr em q1 q2 op eo q4 b313 c313 h313 n0 Zs314 (Old.keep O0 K313 hws) E_th_313 F_th_offset_313 F_th_end_313 F_th_records_313 E_op_313 F_op_value_313 E_rr_313 F_rr_onlyMarkersLeft_313 F_rr_firstUnreadTimestamp_313 F_rr_lookedAt_313 A313 S_OptionalLong_EMPTY_old E_em_old F_em_isPresent_old F_em_value_old S_Optional_EMPTY_old E_eo_old F_eo_value_old hle hpp Md313) hZ (tw hw 56 rfl) (tw hw 8 rfl) (by decide) (by decide)) q315a q315c (g := (mkF m 10 #[rv th] [(.ref b313), (.ref op)])) rfl (by rw [hml]; rfl) (Steps.refl _) (argsL := [(.ref b313)]) (rest := []) (lenOf pd_16 rfl) rfl (wle rfl) (hb hby d28_10) (fun _ _ => ⟨rfl, e313, (by decide : 1 + 6 ≤ _), (by decide : 1 + 11 ≤ _)⟩)
  dsimp only [Pt.U, Pt.locs, Pt.cells, Pt.slots] at X315 l315 y315 z315 st315 hQ315
  subst l315 y315 z315
  obtain ⟨w315, wr315, rfl, N315q, Kc315, P315_0, P315_1, P315_2, P315_3, P315_4, P315_5, P315_6⟩ := hQ315
  have N315 := Fr.app N0 N315q
  have K315 : Keep h0 T315.heap [] := K313.trans Kc315 all0
  have E_w315_315c : Exa Z T315.heap w315 cOP := P315_1
  have F_w315_value_315c : Fld Z T315.heap w315 cOP "value" dOB (.ref wr315) := P315_2
  have sz_wr315 : h0.size ≤ wr315 := Nat.le_trans K313.1 P315_3
  have E_wr315_315c : Exa Z T315.heap wr315 cOL := P315_4
  have F_wr315_isPresent_315c : Fld Z T315.heap wr315 cOL nIP "Z" (.int (1 : Int32)) := P315_5
  have F_wr315_value_315c : Fld Z T315.heap wr315 cOL "value" "J" (.long (0 : Int64)) := P315_6
  refine gs T315 (mkF m 13 #[rv th] [(.ref w315)]) (fun _ hr => st315.trans hr) ?_
  have Zs316 : n0 ≤ T315.heap.size := Nat.le_trans Z0 K315.1
  obtain ⟨_, _, ⟨T317, L317, k317, n317⟩, -, X317, ⟨Lc317, hQ317, l317, y317, z317⟩, st317⟩ := LawKit.callS X315 hx (y := Y4) hown (mvT hZ (tw hw 68 rfl)) (mvT hZ (tw hw 2 rfl)) (mvT hZ (tw hw 3 rfl)) (mvT hZ (tw hw 4 rfl)) (by decide) (backOf (W := 1) (rm_olem l Z a0 hw [] em T315.heap n0 Zs316 (Old.keep O0 K315 hws) S_OptionalLong_EMPTY_old) hZ (tw hw 4 rfl) (tw hw 3 rfl) (by decide) (by decide)) (g := (mkF m 13 #[rv th] [(.ref w315)])) rfl (by rw [hml]; rfl) (argsL := []) (rest := [(.ref w315)]) (lenOf pd_6 rfl) rfl (wle rfl) (hb hby d28_13) (fun _ _ => ⟨rfl, rfl, (by decide : 7 + 0 ≤ _), (by decide : 12 + 0 ≤ _)⟩)
  dsimp only [Pt.U, Pt.locs, Pt.cells, Pt.slots] at X317 l317 y317 z317 st317 hQ317
  subst l317 y317 z317
  obtain ⟨rfl, N317q, e317⟩ := hQ317
  have N317 := Fr.app N315 N317q
  refine gs T317 (mkF m 16 #[rv th] [(.ref em), (.ref w315)]) st317 ?_
  have Zs318 : n0 ≤ T315.heap.size := Nat.le_trans Z0 K315.1
  obtain ⟨cq319, kq319, q319a, q319b, q319c⟩ := isOf hZ e317 E_w315_315c
  obtain ⟨_, _, ⟨T319, L319, k319, n319⟩, -, X319, ⟨Lc319, hQ319, l319, y319, z319⟩, st319⟩ := X317.virtualBack hx (y := Y20) (z := Y20) hown (mvT hZ (tw hw 69 rfl)) (mvT hZ (tw hw 70 rfl)) (notFace_of_selects (args := #[]) (mvT hZ (tw hw 72 rfl))) (mvT hZ (tw hw 72 rfl)) (mvT hZ (tw hw 71 rfl)) (by decide) (backOf (W := 0) (rm_oore1 l Z a0 hw [] w315 wr315 em T315.heap n0 Zs318 (Old.keep O0 K315 hws) F_w315_value_315c) hZ (tw hw 73 rfl) (tw hw 8 rfl) (by decide) (by decide)) q319a q319c (g := (mkF m 16 #[rv th] [(.ref em), (.ref w315)])) rfl (by rw [hml]; rfl) (Steps.refl _) (argsL := [(.ref em)]) (rest := []) (lenOf pd_3 rfl) rfl (wle rfl) (hb hby d28_16) (fun _ _ => ⟨rfl, e317, (by decide : 7 + 0 ≤ _), (by decide : 12 + 0 ≤ _)⟩)
  dsimp only [Pt.U, Pt.locs, Pt.cells, Pt.slots] at X319 l319 y319 z319 st319 hQ319
  subst l319 y319 z319
  obtain ⟨rfl, N319q, e319⟩ := hQ319
  have N319 := Fr.app N317 N319q
  refine gs T319 (mkF m 19 #[rv th] [(.ref wr315)]) (fun _ hr => st319.trans hr) ?_
  obtain ⟨T320, X320, e320, st320⟩ := castY X319 hx hZ hown (tw hw 74 rfl) e319 (Ins.self E_wr315_315c) (g := (mkF m 19 #[rv th] [(.ref wr315)])) rfl rfl (hb hby d28_19)
  refine gs T320 (mkF m 22 #[rv th] [(.ref wr315)]) st320 ?_
  exact Goes.ret (v := some (.ref wr315)) X320 (by decide) (by decide) (fun h => by rw [Bd.returns] at h; cases h) (by show Q_rm_age_p1em Z th rr em q1 q2 op eo q4 h0 n0 _ T320.heap _; rw [e320]; exact ⟨wr315, rfl, N319, K315, sz_wr315, E_wr315_315c, F_wr315_isPresent_315c, F_wr315_value_315c⟩) (fun fs hr => retOut X320 hx Bd.returns rfl (Or.inr (Or.inr (Or.inr (Or.inr ⟨rfl, rfl, rfl⟩)))) (hb hby d28_22) hr)
def Q_rm_lam_p1 (Z : State) (th : Addr) (rr : Addr) (em : Addr) (q1 : Int64) (q2 : Int64) (op : Addr) (eo : Addr) (fu : Addr) (q3 : Int64) (q4 : Int64) (h0 : Heap) (n0 : Nat) (v : Option Value) (h : Heap) (L : List Loc) : Prop := ∃ w : Addr, v = some (.ref w) ∧ Fr n0 L ∧ Keep h0 h [] ∧ h0.size ≤ w ∧ Exa Z h w cOL ∧ Fld Z h w cOL nIP "Z" (.int (1 : Int32)) ∧ Fld Z h w cOL "value" "J" (.long (q4 - q3))
set_option maxRecDepth 65536 in
set_option maxHeartbeats 40000000 in
theorem rm_lam_p1 (l : Launch) (Z : State) (a0 : Array Value) (hw : ∀ d ∈ tables_1, d.before a0 Z = true) (ws : List Jvm.Cond) (th : Addr) (rr : Addr) (em : Addr) (q1 : Int64) (q2 : Int64) (op : Addr) (eo : Addr) (fu : Addr) (q3 : Int64) (q4 : Int64) (h0 : Heap) (n0 : Nat) (Z0 : n0 ≤ h0.size) (O0 : Old Z n0 h0) (E_th : Exa Z h0 th cPL) (F_th_offset : Fld Z h0 th cPL "offset" "J" (.long q1)) (F_th_end : Fld Z h0 th cPL "end" "J" (.long q2)) (F_th_records : Fld Z h0 th cPL "records" dOP (.ref op)) (E_op : Exa Z h0 op cOP) (F_op_value : Fld Z h0 op cOP "value" dOB (.ref rr)) (E_rr : Exa Z h0 rr cRR) (F_rr_onlyMarkersLeft : Fld Z h0 rr cRR nOM "Z" (.int (0 : Int32))) (F_rr_firstUnreadTimestamp : Fld Z h0 rr cRR nLT dOL (.ref fu)) (E_fu : Exa Z h0 fu cOL) (F_fu_isPresent : Fld Z h0 fu cOL nIP "Z" (.int (1 : Int32))) (F_fu_value : Fld Z h0 fu cOL "value" "J" (.long q3)) (F_rr_lookedAt : Fld Z h0 rr cRR "lookedAt" "J" (.long q4)) (S_OptionalLong_EMPTY_old : Sta Z Z.heap cOL "EMPTY" dOL (.ref em)) (E_em_old : Exa Z Z.heap em cOL) (F_em_isPresent_old : Fld Z Z.heap em cOL nIP "Z" (.int (0 : Int32))) (F_em_value_old : Fld Z Z.heap em cOL "value" "J" (.long (0 : Int64))) (S_Optional_EMPTY_old : Sta Z Z.heap cOP "EMPTY" dOP (.ref eo)) (E_eo_old : Exa Z Z.heap eo cOP) (F_eo_value_old : Fld Z Z.heap eo cOP "value" dOB .null) (hle : ¬ ((0 : Int32) < (XT.cmpL q1 q2))) (hpp : (0 : Int32) < (XT.cmpL (q2 - q1) (0 : Int64))) (hmx : (XT.cmpL (0 : Int64) (q4 - q3)) < (0 : Int32)) :
    MetFree l Y0 (head1 (Cond.code Y0 prog_13_method_13_code 2 (some (.object cOL)) :: ws) r17) (fun a U => a = #[(.ref th), (.ref rr)] ∧ Z.Warmed39 U.vm ∧ U.heap = h0) (fun _ _ _ _ _ => True) (fun _ U o U' => ∃ v L, o = .returned v ∧ Q_rm_lam_p1 Z th rr em q1 q2 op eo fu q3 q4 h0 n0 v U'.heap L ∧ FrameEnd U o U' L r17.cells r17.slots) := by
  refine MetFree.of_bodySF (plainFor_of_name pn_com_example_log_lag_gauge_loglaggauge_model_PositionLag) hisR ?_
  intro p e s m args below meth c s₁ Bd hml0 hP hK
  obtain ⟨rfl, hZ, hh⟩ := hP
  have hx := Bd.exec
  have hby := Bd.bytes
  have hml : c.maxLocals = 2 := hml0
  have hown : s.vm.findClass cPL = some m.cls := findClass_of_methodNamed Bd.named
  have hnm := (name_of_methodNamed Bd.named Bd.method).1
  have X0 : Stand p l e r17 s m #[(.ref th), (.ref rr)] below meth c s₁ [] 0 0 := Stand.of_body Bd
  have e0 : s₁.heap = h0 := by rw [← hh, Bd.state]; rfl
  have N0 := Fr.nil n0
  refine Goes.out (l := l) (c := c) (R := r17) (Q := Q_rm_lam_p1 Z th rr em q1 q2 op eo fu q3 q4 h0 n0) Bd.notSynchronized ?_
  refine Goes.cast (g2 := mkF m 0 #[rv th, rv rr] []) (by first | (simp [entryFrame, mkF, argsToLocals, Value.category]; done) | rfl) ?_
  have K0 : Keep h0 h0 [] := Keep.refl h0 _
  have hws : ∀ x ∈ ([] : List Addr), n0 ≤ x := all0
  refine gs s₁ (mkF m 1 #[rv th, rv rr] [(.ref th)]) (fun _ hr => XS.aloadN X0.here hx rfl (hb hby d26_0) rfl rfl hr) ?_
  refine gs s₁ (mkF m 2 #[rv th, rv rr] [(.ref rr), (.ref th)]) (fun _ hr => XS.aloadN X0.here hx rfl (hb hby d26_1) rfl rfl hr) ?_
  refine gs s₁ (mkF m 3 #[rv th, rv rr] [(.ref rr), (.ref rr), (.ref th)]) (fun _ hr => XS.aloadN X0.here hx rfl (hb hby d26_2) rfl rfl hr) ?_
  have Zs321 : n0 ≤ h0.size := Nat.le_trans Z0 K0.1
  obtain ⟨cq322, kq322, q322a, q322b, q322c⟩ := isOf hZ e0 E_rr
  obtain ⟨_, _, ⟨T322, L322, k322, n322⟩, -, X322, ⟨Lc322, hQ322, l322, y322, z322⟩, st322⟩ := X0.virtualBack hx (y := Y11) (z := Y11) hown (mvT hZ (tw hw 129 rfl)) (mvT hZ (tw hw 130 rfl)) (notFace_of_selects (args := #[]) (mvT hZ (tw hw 132 rfl))) (mvT hZ (tw hw 132 rfl)) (mvT hZ (tw hw 131 rfl)) (by decide) (backOf (W := 2) (rm_lookedAt l Z a0 hw [] rr q4 h0 n0 Zs321 (Old.keep O0 K0 hws) F_rr_lookedAt) hZ (tw hw 133 rfl) (tw hw 96 rfl) (by decide) (by decide)) q322a q322c (g := (mkF m 3 #[rv th, rv rr] [(.ref rr), (.ref rr), (.ref th)])) rfl (by rw [hml]; rfl) (Steps.refl _) (argsL := []) (rest := [(.ref rr), (.ref th)]) (lenOf pd_5 rfl) rfl (wle rfl) (hb hby d26_3) (fun _ _ => ⟨rfl, e0, (by decide : 0 + 0 ≤ _), (by decide : 0 + 0 ≤ _)⟩)
  dsimp only [Pt.U, Pt.locs, Pt.cells, Pt.slots] at X322 l322 y322 z322 st322 hQ322
  subst l322 y322 z322
  obtain ⟨rfl, N322q, e322⟩ := hQ322
  have N322 := Fr.app N0 N322q
  refine gs T322 (mkF m 6 #[rv th, rv rr] [(.long q4), (.ref rr), (.ref th)]) (fun _ hr => st322.trans hr) ?_
  have Zs323 : n0 ≤ h0.size := Nat.le_trans Z0 K0.1
  obtain ⟨_, _, ⟨T324, L324, k324, n324⟩, -, X324, ⟨Lc324, hQ324, l324, y324, z324⟩, st324⟩ := LawKit.callS X322 hx (y := Y3) hown (mvT hZ (tw hw 134 rfl)) (mvT hZ (tw hw 84 rfl)) (mvT hZ (tw hw 3 rfl)) (mvT hZ (tw hw 85 rfl)) (by decide) (backOf (W := 2) (rm_olof l Z a0 hw [] q4 h0 n0 Zs323 (Old.keep O0 K0 hws)) hZ (tw hw 85 rfl) (tw hw 3 rfl) (by decide) (by decide)) (g := (mkF m 6 #[rv th, rv rr] [(.long q4), (.ref rr), (.ref th)])) rfl (by rw [hml]; rfl) (argsL := [(.long q4)]) (rest := [(.ref rr), (.ref th)]) (lenOf pd_7 rfl) rfl (wle rfl) (hb hby d26_6) (fun _ _ => ⟨rfl, e322, (by decide : 0 + 1 ≤ _), (by decide : 0 + 2 ≤ _)⟩)
  dsimp only [Pt.U, Pt.locs, Pt.cells, Pt.slots] at X324 l324 y324 z324 st324 hQ324
  subst l324 y324 z324
  obtain ⟨w324, rfl, N324q, Kc324, P324_0, P324_1, P324_2, P324_3⟩ := hQ324
  have N324 := Fr.app N322 N324q
  have E_th_324 : Exa Z T324.heap th cPL := E_th.keep Kc324
  have F_th_offset_324 : Fld Z T324.heap th cPL "offset" "J" (.long q1) := F_th_offset.keep Kc324 nin0
  have F_th_end_324 : Fld Z T324.heap th cPL "end" "J" (.long q2) := F_th_end.keep Kc324 nin0
  have F_th_records_324 : Fld Z T324.heap th cPL "records" dOP (.ref op) := F_th_records.keep Kc324 nin0
  have E_op_324 : Exa Z T324.heap op cOP := E_op.keep Kc324
  have F_op_value_324 : Fld Z T324.heap op cOP "value" dOB (.ref rr) := F_op_value.keep Kc324 nin0
  have E_rr_324 : Exa Z T324.heap rr cRR := E_rr.keep Kc324
  have F_rr_onlyMarkersLeft_324 : Fld Z T324.heap rr cRR nOM "Z" (.int (0 : Int32)) := F_rr_onlyMarkersLeft.keep Kc324 nin0
  have F_rr_firstUnreadTimestamp_324 : Fld Z T324.heap rr cRR nLT dOL (.ref fu) := F_rr_firstUnreadTimestamp.keep Kc324 nin0
  have E_fu_324 : Exa Z T324.heap fu cOL := E_fu.keep Kc324
  have F_fu_isPresent_324 : Fld Z T324.heap fu cOL nIP "Z" (.int (1 : Int32)) := F_fu_isPresent.keep Kc324 nin0
  have F_fu_value_324 : Fld Z T324.heap fu cOL "value" "J" (.long q3) := F_fu_value.keep Kc324 nin0
  have K324 : Keep h0 T324.heap [] := K0.trans Kc324 all0
  have E_w324_324c : Exa Z T324.heap w324 cOL := P324_1
  have F_w324_isPresent_324c : Fld Z T324.heap w324 cOL nIP "Z" (.int (1 : Int32)) := P324_2
  have F_w324_value_324c : Fld Z T324.heap w324 cOL "value" "J" (.long q4) := P324_3
  refine gs T324 (mkF m 9 #[rv th, rv rr] [(.ref w324), (.ref rr), (.ref th)]) st324 ?_
  have Zs325 : n0 ≤ T324.heap.size := Nat.le_trans Z0 K324.1
  obtain ⟨cl326, kl326, q326a, -, -, q326d, -⟩ := id E_th_324
  obtain ⟨_, _, ⟨T326, L326, k326, n326⟩, -, X326, ⟨Lc326, hQ326, l326, y326, z326⟩, st326⟩ := X324.privateBack hx (y := Y27) hown (mvT hZ (tw hw 135 rfl)) (mvT hZ (tw hw 136 rfl)) (own_selP (mvT hZ (tw hw 12 rfl)) (mvT hZ (tw hw 137 rfl)) (mvT hZ (tw hw 136 rfl)) (by decide)) (Cond.privateMethod_at (args := #[]) (mvT hZ (tw hw 137 rfl))) (mvT hZ (tw hw 138 rfl)) (by decide) (backOf (W := 0) (rm_beh_p1 l Z a0 hw [] th rr em q1 q2 op eo w324 fu q3 q4 T324.heap n0 Zs325 (Old.keep O0 K324 hws) E_th_324 F_th_offset_324 F_th_end_324 F_th_records_324 E_op_324 F_op_value_324 E_rr_324 F_rr_onlyMarkersLeft_324 F_rr_firstUnreadTimestamp_324 E_fu_324 F_fu_isPresent_324 F_fu_value_324 E_w324_324c F_w324_isPresent_324c F_w324_value_324c S_OptionalLong_EMPTY_old E_em_old F_em_isPresent_old F_em_value_old S_Optional_EMPTY_old E_eo_old F_eo_value_old hle hpp hmx) hZ (tw hw 138 rfl) (tw hw 13 rfl) (by decide) (by decide)) (g := (mkF m 9 #[rv th, rv rr] [(.ref w324), (.ref rr), (.ref th)])) rfl (by rw [hml]; rfl) (Steps.refl _) (own_at rfl q326a) (fun q z => by rw [z] at q326d; cases q326d) (argsL := [(.ref rr), (.ref w324)]) (rest := []) (lenOf pd_14 rfl) rfl (wle rfl) (hb hby d26_9) (fun _ _ => ⟨rfl, rfl, (by decide : 1 + 5 ≤ _), (by decide : 2 + 10 ≤ _)⟩)
  dsimp only [Pt.U, Pt.locs, Pt.cells, Pt.slots] at X326 l326 y326 z326 st326 hQ326
  subst l326 y326 z326
  obtain ⟨w326, rfl, N326q, Kc326, P326_0, P326_1, P326_2, P326_3⟩ := hQ326
  have N326 := Fr.app N324 N326q
  have K326 : Keep h0 T326.heap [] := K324.trans Kc326 all0
  have sz_w326 : h0.size ≤ w326 := Nat.le_trans K324.1 P326_0
  have E_w326_326c : Exa Z T326.heap w326 cOL := P326_1
  have F_w326_isPresent_326c : Fld Z T326.heap w326 cOL nIP "Z" (.int (1 : Int32)) := P326_2
  have F_w326_value_326c : Fld Z T326.heap w326 cOL "value" "J" (.long (q4 - q3)) := P326_3
  refine gs T326 (mkF m 12 #[rv th, rv rr] [(.ref w326)]) (fun _ hr => st326.trans hr) ?_
  exact Goes.ret (v := some (.ref w326)) X326 (by decide) (by decide) (fun h => by rw [Bd.returns] at h; cases h) (by show Q_rm_lam_p1 Z th rr em q1 q2 op eo fu q3 q4 h0 n0 _ T326.heap _; exact ⟨w326, rfl, N326, K326, sz_w326, E_w326_326c, F_w326_isPresent_326c, F_w326_value_326c⟩) (fun fs hr => retOut X326 hx Bd.returns rfl (Or.inr (Or.inr (Or.inr (Or.inr ⟨rfl, rfl, rfl⟩)))) (hb hby d26_12) hr)
def Q_rm_map_p1 (Z : State) (th : Addr) (rr : Addr) (em : Addr) (q1 : Int64) (q2 : Int64) (op : Addr) (eo : Addr) (fu : Addr) (q3 : Int64) (q4 : Int64) (fa : Addr) (cK : ClassId) (h0 : Heap) (n0 : Nat) (v : Option Value) (h : Heap) (L : List Loc) : Prop := ∃ w : Addr, ∃ wr : Addr, v = some (.ref w) ∧ Fr n0 L ∧ Keep h0 h [] ∧ h0.size ≤ w ∧ Exa Z h w cOP ∧ Fld Z h w cOP "value" dOB (.ref wr) ∧ h0.size ≤ wr ∧ Exa Z h wr cOL ∧ Fld Z h wr cOL nIP "Z" (.int (1 : Int32)) ∧ Fld Z h wr cOL "value" "J" (.long (q4 - q3))
set_option maxRecDepth 65536 in
set_option maxHeartbeats 40000000 in
theorem rm_map_p1 (l : Launch) (Z : State) (a0 : Array Value) (hw : ∀ d ∈ tables_1, d.before a0 Z = true) (ws : List Jvm.Cond) (th : Addr) (rr : Addr) (em : Addr) (q1 : Int64) (q2 : Int64) (op : Addr) (eo : Addr) (fu : Addr) (q3 : Int64) (q4 : Int64) (fa : Addr) (cK : ClassId) (h0 : Heap) (n0 : Nat) (Z0 : n0 ≤ h0.size) (O0 : Old Z n0 h0) (E_th : Exa Z h0 th cPL) (F_th_offset : Fld Z h0 th cPL "offset" "J" (.long q1)) (F_th_end : Fld Z h0 th cPL "end" "J" (.long q2)) (F_th_records : Fld Z h0 th cPL "records" dOP (.ref op)) (E_op : Exa Z h0 op cOP) (F_op_value : Fld Z h0 op cOP "value" dOB (.ref rr)) (E_rr : Exa Z h0 rr cRR) (F_rr_onlyMarkersLeft : Fld Z h0 rr cRR nOM "Z" (.int (0 : Int32))) (F_rr_firstUnreadTimestamp : Fld Z h0 rr cRR nLT dOL (.ref fu)) (E_fu : Exa Z h0 fu cOL) (F_fu_isPresent : Fld Z h0 fu cOL nIP "Z" (.int (1 : Int32))) (F_fu_value : Fld Z h0 fu cOL "value" "J" (.long q3)) (F_rr_lookedAt : Fld Z h0 rr cRR "lookedAt" "J" (.long q4)) (G_fa : FnV h0 fa cK #[(.ref th)]) (S_OptionalLong_EMPTY_old : Sta Z Z.heap cOL "EMPTY" dOL (.ref em)) (E_em_old : Exa Z Z.heap em cOL) (F_em_isPresent_old : Fld Z Z.heap em cOL nIP "Z" (.int (0 : Int32))) (F_em_value_old : Fld Z Z.heap em cOL "value" "J" (.long (0 : Int64))) (S_Optional_EMPTY_old : Sta Z Z.heap cOP "EMPTY" dOP (.ref eo)) (E_eo_old : Exa Z Z.heap eo cOP) (F_eo_value_old : Fld Z Z.heap eo cOP "value" dOB .null) (hle : ¬ ((0 : Int32) < (XT.cmpL q1 q2))) (hpp : (0 : Int32) < (XT.cmpL (q2 - q1) (0 : Int64))) (hmx : (XT.cmpL (0 : Int64) (q4 - q3)) < (0 : Int32)) (Md : Jvm.LamKit.Made Z cPL sgA cK) :
    MetFree l Y29 (head1 (Cond.code Y29 jdk_32_method_11_code 2 (some (.object cOP)) :: ws) r18) (fun a U => a = #[(.ref op), (.ref fa)] ∧ Z.Warmed39 U.vm ∧ U.heap = h0) (fun _ _ _ _ _ => True) (fun _ U o U' => ∃ v L, o = .returned v ∧ Q_rm_map_p1 Z th rr em q1 q2 op eo fu q3 q4 fa cK h0 n0 v U'.heap L ∧ FrameEnd U o U' L r18.cells r18.slots) := by
  refine MetFree.of_bodySF (plainFor_of_name pn_java_util_Optional) hisR ?_
  intro p e s m args below meth c s₁ Bd hml0 hP hK
  obtain ⟨rfl, hZ, hh⟩ := hP
  have hx := Bd.exec
  have hby := Bd.bytes
  have hml : c.maxLocals = 2 := hml0
  have hown : s.vm.findClass cOP = some m.cls := findClass_of_methodNamed Bd.named
  have hnm := (name_of_methodNamed Bd.named Bd.method).1
  have X0 : Stand p l e r18 s m #[(.ref op), (.ref fa)] below meth c s₁ [] 0 0 := Stand.of_body Bd
  have e0 : s₁.heap = h0 := by rw [← hh, Bd.state]; rfl
  have N0 := Fr.nil n0
  refine Goes.out (l := l) (c := c) (R := r18) (Q := Q_rm_map_p1 Z th rr em q1 q2 op eo fu q3 q4 fa cK h0 n0) Bd.notSynchronized ?_
  refine Goes.cast (g2 := mkF m 0 #[rv op, rv fa] []) (by first | (simp [entryFrame, mkF, argsToLocals, Value.category]; done) | rfl) ?_
  have K0 : Keep h0 h0 [] := Keep.refl h0 _
  have hws : ∀ x ∈ ([] : List Addr), n0 ≤ x := all0
  refine gs s₁ (mkF m 1 #[rv op, rv fa] [(.ref fa)]) (fun _ hr => XS.aloadN X0.here hx rfl (hb hby d27_0) rfl rfl hr) ?_
  have Zs327 : n0 ≤ h0.size := Nat.le_trans Z0 K0.1
  obtain ⟨_, _, ⟨T328, L328, k328, n328⟩, -, X328, ⟨Lc328, hQ328, l328, y328, z328⟩, st328⟩ := LawKit.callS X0 hx (y := Y13) hown (mvT hZ (tw hw 57 rfl)) (mvT hZ (tw hw 58 rfl)) (mvT hZ (tw hw 35 rfl)) (mvT hZ (tw hw 59 rfl)) (by decide) (backOf (W := 0) (rm_rnn1 l Z a0 hw [] fa h0 n0 Zs327 (Old.keep O0 K0 hws)) hZ (tw hw 59 rfl) (tw hw 35 rfl) (by decide) (by decide)) (g := (mkF m 1 #[rv op, rv fa] [(.ref fa)])) rfl (by rw [hml]; rfl) (argsL := [(.ref fa)]) (rest := []) (lenOf pd_3 rfl) rfl (wle rfl) (hb hby d27_1) (fun _ _ => ⟨rfl, e0, (by decide : 0 + 0 ≤ _), (by decide : 0 + 0 ≤ _)⟩)
  dsimp only [Pt.U, Pt.locs, Pt.cells, Pt.slots] at X328 l328 y328 z328 st328 hQ328
  subst l328 y328 z328
  obtain ⟨rfl, N328q, e328⟩ := hQ328
  have N328 := Fr.app N0 N328q
  refine gs T328 (mkF m 4 #[rv op, rv fa] [(.ref fa)]) st328 ?_
  refine gs T328 (mkF m 5 #[rv op, rv fa] []) (fun _ hr => XT.pop X328.here hx rfl (hb hby d27_4) rfl rfl hr) ?_
  refine gs T328 (mkF m 6 #[rv op, rv fa] [(.ref op)]) (fun _ hr => XS.aloadN X328.here hx rfl (hb hby d27_5) rfl rfl hr) ?_
  have Zs329 : n0 ≤ h0.size := Nat.le_trans Z0 K0.1
  obtain ⟨cq330, kq330, q330a, q330b, q330c⟩ := isOf hZ e328 E_op
  obtain ⟨_, _, ⟨T330, L330, k330, n330⟩, -, X330, ⟨Lc330, hQ330, l330, y330, z330⟩, st330⟩ := X328.virtualBack hx (y := Y18) (z := Y18) hown (mvT hZ (tw hw 60 rfl)) (mvT hZ (tw hw 61 rfl)) (notFace_of_selects (args := #[]) (mvT hZ (tw hw 63 rfl))) (mvT hZ (tw hw 63 rfl)) (mvT hZ (tw hw 62 rfl)) (by decide) (backOf (W := 0) (rm_oise1 l Z a0 hw [] op rr h0 n0 Zs329 (Old.keep O0 K0 hws) F_op_value) hZ (tw hw 64 rfl) (tw hw 8 rfl) (by decide) (by decide)) q330a q330c (g := (mkF m 6 #[rv op, rv fa] [(.ref op)])) rfl (by rw [hml]; rfl) (Steps.refl _) (argsL := []) (rest := []) (lenOf pd_1 rfl) rfl (wle rfl) (hb hby d27_6) (fun _ _ => ⟨rfl, e328, (by decide : 0 + 0 ≤ _), (by decide : 0 + 0 ≤ _)⟩)
  dsimp only [Pt.U, Pt.locs, Pt.cells, Pt.slots] at X330 l330 y330 z330 st330 hQ330
  subst l330 y330 z330
  obtain ⟨rfl, N330q, e330⟩ := hQ330
  have N330 := Fr.app N328 N330q
  refine gs T330 (mkF m 9 #[rv op, rv fa] [(.int (0 : Int32))]) (fun _ hr => st330.trans hr) ?_
  refine gs T330 (mkF m 16 #[rv op, rv fa] []) (fun _ hr => XS.ifYes X330.here hx rfl (pc0 := 9) (pc' := 16) rfl (hb hby d27_9) rfl ((if0 _ _).trans (teq (by decide : (0 : Int32) = (0 : Int32))).1) (by decide) (by decide) hr) ?_
  refine gs T330 (mkF m 17 #[rv op, rv fa] [(.ref fa)]) (fun _ hr => XS.aloadN X330.here hx rfl (hb hby d27_16) rfl rfl hr) ?_
  refine gs T330 (mkF m 18 #[rv op, rv fa] [(.ref op), (.ref fa)]) (fun _ hr => XS.aloadN X330.here hx rfl (hb hby d27_17) rfl rfl hr) ?_
  obtain ⟨T331, X331, e331, st331⟩ := getF X330 hx hZ hown (host := "") (Or.inl (tw hw 65 rfl)) Via.refl e330 F_op_value (g := (mkF m 18 #[rv op, rv fa] [(.ref op), (.ref fa)])) rfl rfl (hb hby d27_18)
  refine gs T331 (mkF m 21 #[rv op, rv fa] [(.ref rr), (.ref fa)]) st331 ?_
  have Zs332 : n0 ≤ h0.size := Nat.le_trans Z0 K0.1
  obtain ⟨_, T333, Lc333, X333, hQ333, st333⟩ := own_callFace X331 hx hZ (xi := Y28) hown (tw hw 122 rfl) (tw hw 123 rfl) (tw hw 124 rfl) ⟨rfl, rfl, by decide +kernel⟩ (by decide) Md e331 G_fa okA (g := (mkF m 21 #[rv op, rv fa] [(.ref rr), (.ref fa)])) rfl (by rw [hml]; rfl) (argsL := [(.ref rr)]) (rest := []) (lenOf pd_3 rfl) rfl (hb hby d27_21) (R' := r19) (Q := Q_rm_lam_p1 Z th rr em q1 q2 op eo fu q3 q4 h0 n0) (by decide) (by show 2 * 0 + 0 + 13 + 3116 ≤ _; decide) (by decide) (by decide) (fun s' U bl mk ck Y' hZ' eU zq1 zq2 zq3 => bodyA hx Y' hZ' hw Md zq1 zq2 zq3 eU G_fa E_rr E_th (rm_lam_p1 l Z a0 hw [] th rr em q1 q2 op eo fu q3 q4 h0 n0 Zs332 (Old.keep O0 K0 hws) E_th F_th_offset F_th_end F_th_records E_op F_op_value E_rr F_rr_onlyMarkersLeft F_rr_firstUnreadTimestamp E_fu F_fu_isPresent F_fu_value F_rr_lookedAt S_OptionalLong_EMPTY_old E_em_old F_em_isPresent_old F_em_value_old S_Optional_EMPTY_old E_eo_old F_eo_value_old hle hpp hmx) (fun v h L q => by obtain ⟨_, rfl, -⟩ := q; exact ⟨_, rfl⟩) (by decide) (by decide) (by decide) (by decide))
  obtain ⟨w333, rfl, N333q, Kc333, P333_0, P333_1, P333_2, P333_3⟩ := hQ333
  have N333 := Fr.app N330 N333q
  have K333 : Keep h0 T333.heap [] := K0.trans Kc333 all0
  have sz_w333 : h0.size ≤ w333 := Nat.le_trans K0.1 P333_0
  have E_w333_333c : Exa Z T333.heap w333 cOL := P333_1
  have F_w333_isPresent_333c : Fld Z T333.heap w333 cOL nIP "Z" (.int (1 : Int32)) := P333_2
  have F_w333_value_333c : Fld Z T333.heap w333 cOL "value" "J" (.long (q4 - q3)) := P333_3
  refine gs T333 (mkF m 26 #[rv op, rv fa] [(.ref w333)]) st333 ?_
  have Zs334 : n0 ≤ T333.heap.size := Nat.le_trans Z0 K333.1
  obtain ⟨_, _, ⟨T335, L335, k335, n335⟩, -, X335, ⟨Lc335, hQ335, l335, y335, z335⟩, st335⟩ := LawKit.callS X333 hx (y := Y16) hown (mvT hZ (tw hw 181 rfl)) (mvT hZ (tw hw 182 rfl)) (mvT hZ (tw hw 8 rfl)) (mvT hZ (tw hw 183 rfl)) (by decide) (backOf (W := 0) (rm_oofn l Z a0 hw [] w333 T333.heap n0 Zs334 (Old.keep O0 K333 hws)) hZ (tw hw 183 rfl) (tw hw 8 rfl) (by decide) (by decide)) (g := (mkF m 26 #[rv op, rv fa] [(.ref w333)])) rfl (by rw [hml]; rfl) (argsL := [(.ref w333)]) (rest := []) (lenOf pd_15 rfl) rfl (wle rfl) (hb hby d27_26) (fun _ _ => ⟨rfl, rfl, (by decide : 6 + 1 ≤ _), (by decide : 12 + 1 ≤ _)⟩)
  dsimp only [Pt.U, Pt.locs, Pt.cells, Pt.slots] at X335 l335 y335 z335 st335 hQ335
  subst l335 y335 z335
  obtain ⟨w335, rfl, N335q, Kc335, P335_0, P335_1, P335_2⟩ := hQ335
  have N335 := Fr.app N333 N335q
  have E_w333_335 : Exa Z T335.heap w333 cOL := E_w333_333c.keep Kc335
  have F_w333_isPresent_335 : Fld Z T335.heap w333 cOL nIP "Z" (.int (1 : Int32)) := F_w333_isPresent_333c.keep Kc335 nin0
  have F_w333_value_335 : Fld Z T335.heap w333 cOL "value" "J" (.long (q4 - q3)) := F_w333_value_333c.keep Kc335 nin0
  have K335 : Keep h0 T335.heap [] := K333.trans Kc335 all0
  have sz_w335 : h0.size ≤ w335 := Nat.le_trans K333.1 P335_0
  have E_w335_335c : Exa Z T335.heap w335 cOP := P335_1
  have F_w335_value_335c : Fld Z T335.heap w335 cOP "value" dOB (.ref w333) := P335_2
  refine gs T335 (mkF m 29 #[rv op, rv fa] [(.ref w335)]) st335 ?_
  exact Goes.ret (v := some (.ref w335)) X335 (by decide) (by decide) (fun h => by rw [Bd.returns] at h; cases h) (by show Q_rm_map_p1 Z th rr em q1 q2 op eo fu q3 q4 fa cK h0 n0 _ T335.heap _; exact ⟨w335, w333, rfl, N335, K335, sz_w335, E_w335_335c, F_w335_value_335c, sz_w333, E_w333_335, F_w333_isPresent_335, F_w333_value_335⟩) (fun fs hr => retOut X335 hx Bd.returns rfl (Or.inr (Or.inr (Or.inr (Or.inr ⟨rfl, rfl, rfl⟩)))) (hb hby d27_29) hr)
def Q_rm_age_p1 (Z : State) (th : Addr) (rr : Addr) (em : Addr) (q1 : Int64) (q2 : Int64) (op : Addr) (eo : Addr) (fu : Addr) (q3 : Int64) (q4 : Int64) (h0 : Heap) (n0 : Nat) (v : Option Value) (h : Heap) (L : List Loc) : Prop := ∃ w : Addr, v = some (.ref w) ∧ Fr n0 L ∧ Keep h0 h [] ∧ h0.size ≤ w ∧ Exa Z h w cOL ∧ Fld Z h w cOL nIP "Z" (.int (1 : Int32)) ∧ Fld Z h w cOL "value" "J" (.long (q4 - q3))
set_option maxRecDepth 65536 in
set_option maxHeartbeats 40000000 in
theorem rm_age_p1 (l : Launch) (Z : State) (a0 : Array Value) (hw : ∀ d ∈ tables_1, d.before a0 Z = true) (ws : List Jvm.Cond) (th : Addr) (rr : Addr) (em : Addr) (q1 : Int64) (q2 : Int64) (op : Addr) (eo : Addr) (fu : Addr) (q3 : Int64) (q4 : Int64) (h0 : Heap) (n0 : Nat) (Z0 : n0 ≤ h0.size) (O0 : Old Z n0 h0) (E_th : Exa Z h0 th cPL) (F_th_offset : Fld Z h0 th cPL "offset" "J" (.long q1)) (F_th_end : Fld Z h0 th cPL "end" "J" (.long q2)) (F_th_records : Fld Z h0 th cPL "records" dOP (.ref op)) (E_op : Exa Z h0 op cOP) (F_op_value : Fld Z h0 op cOP "value" dOB (.ref rr)) (E_rr : Exa Z h0 rr cRR) (F_rr_onlyMarkersLeft : Fld Z h0 rr cRR nOM "Z" (.int (0 : Int32))) (F_rr_firstUnreadTimestamp : Fld Z h0 rr cRR nLT dOL (.ref fu)) (E_fu : Exa Z h0 fu cOL) (F_fu_isPresent : Fld Z h0 fu cOL nIP "Z" (.int (1 : Int32))) (F_fu_value : Fld Z h0 fu cOL "value" "J" (.long q3)) (F_rr_lookedAt : Fld Z h0 rr cRR "lookedAt" "J" (.long q4)) (S_OptionalLong_EMPTY_old : Sta Z Z.heap cOL "EMPTY" dOL (.ref em)) (E_em_old : Exa Z Z.heap em cOL) (F_em_isPresent_old : Fld Z Z.heap em cOL nIP "Z" (.int (0 : Int32))) (F_em_value_old : Fld Z Z.heap em cOL "value" "J" (.long (0 : Int64))) (S_Optional_EMPTY_old : Sta Z Z.heap cOP "EMPTY" dOP (.ref eo)) (E_eo_old : Exa Z Z.heap eo cOP) (F_eo_value_old : Fld Z Z.heap eo cOP "value" dOB .null) (hle : ¬ ((0 : Int32) < (XT.cmpL q1 q2))) (hpp : (0 : Int32) < (XT.cmpL (q2 - q1) (0 : Int64))) (hmx : (XT.cmpL (0 : Int64) (q4 - q3)) < (0 : Int32)) :
    MetFree l Y30 (head1 (Cond.code Y30 prog_13_method_5_code 1 (some (.object cOL)) :: ws) r20) (fun a U => a = #[(.ref th)] ∧ Z.Warmed39 U.vm ∧ U.heap = h0) (fun _ _ _ _ _ => True) (fun _ U o U' => ∃ v L, o = .returned v ∧ Q_rm_age_p1 Z th rr em q1 q2 op eo fu q3 q4 h0 n0 v U'.heap L ∧ FrameEnd U o U' L r20.cells r20.slots) := by
  refine MetFree.of_bodySF (plainFor_of_name pn_com_example_log_lag_gauge_loglaggauge_model_PositionLag) hisR ?_
  intro p e s m args below meth c s₁ Bd hml0 hP hK
  obtain ⟨rfl, hZ, hh⟩ := hP
  have hx := Bd.exec
  have hby := Bd.bytes
  have hml : c.maxLocals = 1 := hml0
  have hown : s.vm.findClass cPL = some m.cls := findClass_of_methodNamed Bd.named
  have hnm := (name_of_methodNamed Bd.named Bd.method).1
  have X0 : Stand p l e r20 s m #[(.ref th)] below meth c s₁ [] 0 0 := Stand.of_body Bd
  have e0 : s₁.heap = h0 := by rw [← hh, Bd.state]; rfl
  have N0 := Fr.nil n0
  refine Goes.out (l := l) (c := c) (R := r20) (Q := Q_rm_age_p1 Z th rr em q1 q2 op eo fu q3 q4 h0 n0) Bd.notSynchronized ?_
  refine Goes.cast (g2 := mkF m 0 #[rv th] []) (by first | (simp [entryFrame, mkF, argsToLocals, Value.category]; done) | rfl) ?_
  have K0 : Keep h0 h0 [] := Keep.refl h0 _
  have hws : ∀ x ∈ ([] : List Addr), n0 ≤ x := all0
  refine gs s₁ (mkF m 1 #[rv th] [(.ref th)]) (fun _ hr => XS.aloadN X0.here hx rfl (hb hby d28_0) rfl rfl hr) ?_
  obtain ⟨T336, X336, e336, st336⟩ := getF X0 hx hZ hown (host := "") (Or.inl (tw hw 41 rfl)) Via.refl e0 F_th_records (g := (mkF m 1 #[rv th] [(.ref th)])) rfl rfl (hb hby d28_1)
  refine gs T336 (mkF m 4 #[rv th] [(.ref op)]) st336 ?_
  refine gs T336 (mkF m 5 #[rv th] [(.ref th), (.ref op)]) (fun _ hr => XS.aloadN X336.here hx rfl (hb hby d28_4) rfl rfl hr) ?_
  obtain ⟨T337, h337, c337, X337, e337, E337, A337, Md337, st337⟩ := own_siteMakes X336 hx hZ (x := Y30) (pc := 5) (fi := 15) (σ := sgA) Bd.named (tw hw 48 rfl) (by decide) cpA (tw hw 51 rfl) e336 (g := (mkF m 5 #[rv th] [(.ref th), (.ref op)])) rfl rfl (by rw [hml]; rfl) (hb hby d28_5) (vals := [(.ref th)]) (rest := [(.ref op)]) rfl rfl own_fit1 (by show 2 * 0 + 2 + 3072 ≤ _; decide) (N := 1) rfl (by decide) (by decide)
  obtain ⟨b337, g337⟩ : ∃ z, z = h0.size := ⟨_, rfl⟩
  rw [← g337] at A337 st337
  have E_th_337 : Exa Z h337 th cPL := E_th.ext E337
  have F_th_offset_337 : Fld Z h337 th cPL "offset" "J" (.long q1) := F_th_offset.ext E337
  have F_th_end_337 : Fld Z h337 th cPL "end" "J" (.long q2) := F_th_end.ext E337
  have F_th_records_337 : Fld Z h337 th cPL "records" dOP (.ref op) := F_th_records.ext E337
  have E_op_337 : Exa Z h337 op cOP := E_op.ext E337
  have F_op_value_337 : Fld Z h337 op cOP "value" dOB (.ref rr) := F_op_value.ext E337
  have E_rr_337 : Exa Z h337 rr cRR := E_rr.ext E337
  have F_rr_onlyMarkersLeft_337 : Fld Z h337 rr cRR nOM "Z" (.int (0 : Int32)) := F_rr_onlyMarkersLeft.ext E337
  have F_rr_firstUnreadTimestamp_337 : Fld Z h337 rr cRR nLT dOL (.ref fu) := F_rr_firstUnreadTimestamp.ext E337
  have E_fu_337 : Exa Z h337 fu cOL := E_fu.ext E337
  have F_fu_isPresent_337 : Fld Z h337 fu cOL nIP "Z" (.int (1 : Int32)) := F_fu_isPresent.ext E337
  have F_fu_value_337 : Fld Z h337 fu cOL "value" "J" (.long q3) := F_fu_value.ext E337
  have F_rr_lookedAt_337 : Fld Z h337 rr cRR "lookedAt" "J" (.long q4) := F_rr_lookedAt.ext E337
  have K337 : Keep h0 h337 [] := K0.ext E337
  refine gs T337 (mkF m 10 #[rv th] [(.ref b337), (.ref op)]) st337 ?_
  have Zs338 : n0 ≤ h337.size := Nat.le_trans Z0 K337.1
  obtain ⟨cq339, kq339, q339a, q339b, q339c⟩ := isOf hZ e337 E_op_337
  obtain ⟨_, _, ⟨T339, L339, k339, n339⟩, -, X339, ⟨Lc339, hQ339, l339, y339, z339⟩, st339⟩ := X337.virtualBack hx (y := Y29) (z := Y29) hown (mvT hZ (tw hw 52 rfl)) (mvT hZ (tw hw 53 rfl)) (notFace_of_selects (args := #[]) (mvT hZ (tw hw 55 rfl))) (mvT hZ (tw hw 55 rfl)) (mvT hZ (tw hw 54 rfl)) (by decide) (backOf (W := 0) (rm_map_p1 l Z a0 hw [] th rr em q1 q2 op eo fu q3 q4 b337 c337 h337 n0 Zs338 (Old.keep O0 K337 hws) E_th_337 F_th_offset_337 F_th_end_337 F_th_records_337 E_op_337 F_op_value_337 E_rr_337 F_rr_onlyMarkersLeft_337 F_rr_firstUnreadTimestamp_337 E_fu_337 F_fu_isPresent_337 F_fu_value_337 F_rr_lookedAt_337 A337 S_OptionalLong_EMPTY_old E_em_old F_em_isPresent_old F_em_value_old S_Optional_EMPTY_old E_eo_old F_eo_value_old hle hpp hmx Md337) hZ (tw hw 56 rfl) (tw hw 8 rfl) (by decide) (by decide)) q339a q339c (g := (mkF m 10 #[rv th] [(.ref b337), (.ref op)])) rfl (by rw [hml]; rfl) (Steps.refl _) (argsL := [(.ref b337)]) (rest := []) (lenOf pd_16 rfl) rfl (wle rfl) (hb hby d28_10) (fun _ _ => ⟨rfl, e337, (by decide : 1 + 7 ≤ _), (by decide : 1 + 13 ≤ _)⟩)
  dsimp only [Pt.U, Pt.locs, Pt.cells, Pt.slots] at X339 l339 y339 z339 st339 hQ339
  subst l339 y339 z339
  obtain ⟨w339, wr339, rfl, N339q, Kc339, P339_0, P339_1, P339_2, P339_3, P339_4, P339_5, P339_6⟩ := hQ339
  have N339 := Fr.app N0 N339q
  have K339 : Keep h0 T339.heap [] := K337.trans Kc339 all0
  have E_w339_339c : Exa Z T339.heap w339 cOP := P339_1
  have F_w339_value_339c : Fld Z T339.heap w339 cOP "value" dOB (.ref wr339) := P339_2
  have sz_wr339 : h0.size ≤ wr339 := Nat.le_trans K337.1 P339_3
  have E_wr339_339c : Exa Z T339.heap wr339 cOL := P339_4
  have F_wr339_isPresent_339c : Fld Z T339.heap wr339 cOL nIP "Z" (.int (1 : Int32)) := P339_5
  have F_wr339_value_339c : Fld Z T339.heap wr339 cOL "value" "J" (.long (q4 - q3)) := P339_6
  refine gs T339 (mkF m 13 #[rv th] [(.ref w339)]) (fun _ hr => st339.trans hr) ?_
  have Zs340 : n0 ≤ T339.heap.size := Nat.le_trans Z0 K339.1
  obtain ⟨_, _, ⟨T341, L341, k341, n341⟩, -, X341, ⟨Lc341, hQ341, l341, y341, z341⟩, st341⟩ := LawKit.callS X339 hx (y := Y4) hown (mvT hZ (tw hw 68 rfl)) (mvT hZ (tw hw 2 rfl)) (mvT hZ (tw hw 3 rfl)) (mvT hZ (tw hw 4 rfl)) (by decide) (backOf (W := 1) (rm_olem l Z a0 hw [] em T339.heap n0 Zs340 (Old.keep O0 K339 hws) S_OptionalLong_EMPTY_old) hZ (tw hw 4 rfl) (tw hw 3 rfl) (by decide) (by decide)) (g := (mkF m 13 #[rv th] [(.ref w339)])) rfl (by rw [hml]; rfl) (argsL := []) (rest := [(.ref w339)]) (lenOf pd_6 rfl) rfl (wle rfl) (hb hby d28_13) (fun _ _ => ⟨rfl, rfl, (by decide : 8 + 0 ≤ _), (by decide : 14 + 0 ≤ _)⟩)
  dsimp only [Pt.U, Pt.locs, Pt.cells, Pt.slots] at X341 l341 y341 z341 st341 hQ341
  subst l341 y341 z341
  obtain ⟨rfl, N341q, e341⟩ := hQ341
  have N341 := Fr.app N339 N341q
  refine gs T341 (mkF m 16 #[rv th] [(.ref em), (.ref w339)]) st341 ?_
  have Zs342 : n0 ≤ T339.heap.size := Nat.le_trans Z0 K339.1
  obtain ⟨cq343, kq343, q343a, q343b, q343c⟩ := isOf hZ e341 E_w339_339c
  obtain ⟨_, _, ⟨T343, L343, k343, n343⟩, -, X343, ⟨Lc343, hQ343, l343, y343, z343⟩, st343⟩ := X341.virtualBack hx (y := Y20) (z := Y20) hown (mvT hZ (tw hw 69 rfl)) (mvT hZ (tw hw 70 rfl)) (notFace_of_selects (args := #[]) (mvT hZ (tw hw 72 rfl))) (mvT hZ (tw hw 72 rfl)) (mvT hZ (tw hw 71 rfl)) (by decide) (backOf (W := 0) (rm_oore1 l Z a0 hw [] w339 wr339 em T339.heap n0 Zs342 (Old.keep O0 K339 hws) F_w339_value_339c) hZ (tw hw 73 rfl) (tw hw 8 rfl) (by decide) (by decide)) q343a q343c (g := (mkF m 16 #[rv th] [(.ref em), (.ref w339)])) rfl (by rw [hml]; rfl) (Steps.refl _) (argsL := [(.ref em)]) (rest := []) (lenOf pd_3 rfl) rfl (wle rfl) (hb hby d28_16) (fun _ _ => ⟨rfl, e341, (by decide : 8 + 0 ≤ _), (by decide : 14 + 0 ≤ _)⟩)
  dsimp only [Pt.U, Pt.locs, Pt.cells, Pt.slots] at X343 l343 y343 z343 st343 hQ343
  subst l343 y343 z343
  obtain ⟨rfl, N343q, e343⟩ := hQ343
  have N343 := Fr.app N341 N343q
  refine gs T343 (mkF m 19 #[rv th] [(.ref wr339)]) (fun _ hr => st343.trans hr) ?_
  obtain ⟨T344, X344, e344, st344⟩ := castY X343 hx hZ hown (tw hw 74 rfl) e343 (Ins.self E_wr339_339c) (g := (mkF m 19 #[rv th] [(.ref wr339)])) rfl rfl (hb hby d28_19)
  refine gs T344 (mkF m 22 #[rv th] [(.ref wr339)]) st344 ?_
  exact Goes.ret (v := some (.ref wr339)) X344 (by decide) (by decide) (fun h => by rw [Bd.returns] at h; cases h) (by show Q_rm_age_p1 Z th rr em q1 q2 op eo fu q3 q4 h0 n0 _ T344.heap _; rw [e344]; exact ⟨wr339, rfl, N343, K339, sz_wr339, E_wr339_339c, F_wr339_isPresent_339c, F_wr339_value_339c⟩) (fun fs hr => retOut X344 hx Bd.returns rfl (Or.inr (Or.inr (Or.inr (Or.inr ⟨rfl, rfl, rfl⟩)))) (hb hby d28_22) hr)
def Q_rm_lam_p0 (Z : State) (th : Addr) (rr : Addr) (em : Addr) (q1 : Int64) (q2 : Int64) (op : Addr) (eo : Addr) (fu : Addr) (q3 : Int64) (q4 : Int64) (h0 : Heap) (n0 : Nat) (v : Option Value) (h : Heap) (L : List Loc) : Prop := ∃ w : Addr, v = some (.ref w) ∧ Fr n0 L ∧ Keep h0 h [] ∧ h0.size ≤ w ∧ Exa Z h w cOL ∧ Fld Z h w cOL nIP "Z" (.int (1 : Int32)) ∧ Fld Z h w cOL "value" "J" (.long (0 : Int64))
set_option maxRecDepth 65536 in
set_option maxHeartbeats 40000000 in
theorem rm_lam_p0 (l : Launch) (Z : State) (a0 : Array Value) (hw : ∀ d ∈ tables_1, d.before a0 Z = true) (ws : List Jvm.Cond) (th : Addr) (rr : Addr) (em : Addr) (q1 : Int64) (q2 : Int64) (op : Addr) (eo : Addr) (fu : Addr) (q3 : Int64) (q4 : Int64) (h0 : Heap) (n0 : Nat) (Z0 : n0 ≤ h0.size) (O0 : Old Z n0 h0) (E_th : Exa Z h0 th cPL) (F_th_offset : Fld Z h0 th cPL "offset" "J" (.long q1)) (F_th_end : Fld Z h0 th cPL "end" "J" (.long q2)) (F_th_records : Fld Z h0 th cPL "records" dOP (.ref op)) (E_op : Exa Z h0 op cOP) (F_op_value : Fld Z h0 op cOP "value" dOB (.ref rr)) (E_rr : Exa Z h0 rr cRR) (F_rr_onlyMarkersLeft : Fld Z h0 rr cRR nOM "Z" (.int (0 : Int32))) (F_rr_firstUnreadTimestamp : Fld Z h0 rr cRR nLT dOL (.ref fu)) (E_fu : Exa Z h0 fu cOL) (F_fu_isPresent : Fld Z h0 fu cOL nIP "Z" (.int (1 : Int32))) (F_fu_value : Fld Z h0 fu cOL "value" "J" (.long q3)) (F_rr_lookedAt : Fld Z h0 rr cRR "lookedAt" "J" (.long q4)) (S_OptionalLong_EMPTY_old : Sta Z Z.heap cOL "EMPTY" dOL (.ref em)) (E_em_old : Exa Z Z.heap em cOL) (F_em_isPresent_old : Fld Z Z.heap em cOL nIP "Z" (.int (0 : Int32))) (F_em_value_old : Fld Z Z.heap em cOL "value" "J" (.long (0 : Int64))) (S_Optional_EMPTY_old : Sta Z Z.heap cOP "EMPTY" dOP (.ref eo)) (E_eo_old : Exa Z Z.heap eo cOP) (F_eo_value_old : Fld Z Z.heap eo cOP "value" dOB .null) (hle : ¬ ((0 : Int32) < (XT.cmpL q1 q2))) (hpp : (0 : Int32) < (XT.cmpL (q2 - q1) (0 : Int64))) (hmn : ¬ ((XT.cmpL (0 : Int64) (q4 - q3)) < (0 : Int32))) :
    MetFree l Y0 (head1 (Cond.code Y0 prog_13_method_13_code 2 (some (.object cOL)) :: ws) r17) (fun a U => a = #[(.ref th), (.ref rr)] ∧ Z.Warmed39 U.vm ∧ U.heap = h0) (fun _ _ _ _ _ => True) (fun _ U o U' => ∃ v L, o = .returned v ∧ Q_rm_lam_p0 Z th rr em q1 q2 op eo fu q3 q4 h0 n0 v U'.heap L ∧ FrameEnd U o U' L r17.cells r17.slots) := by
  refine MetFree.of_bodySF (plainFor_of_name pn_com_example_log_lag_gauge_loglaggauge_model_PositionLag) hisR ?_
  intro p e s m args below meth c s₁ Bd hml0 hP hK
  obtain ⟨rfl, hZ, hh⟩ := hP
  have hx := Bd.exec
  have hby := Bd.bytes
  have hml : c.maxLocals = 2 := hml0
  have hown : s.vm.findClass cPL = some m.cls := findClass_of_methodNamed Bd.named
  have hnm := (name_of_methodNamed Bd.named Bd.method).1
  have X0 : Stand p l e r17 s m #[(.ref th), (.ref rr)] below meth c s₁ [] 0 0 := Stand.of_body Bd
  have e0 : s₁.heap = h0 := by rw [← hh, Bd.state]; rfl
  have N0 := Fr.nil n0
  refine Goes.out (l := l) (c := c) (R := r17) (Q := Q_rm_lam_p0 Z th rr em q1 q2 op eo fu q3 q4 h0 n0) Bd.notSynchronized ?_
  refine Goes.cast (g2 := mkF m 0 #[rv th, rv rr] []) (by first | (simp [entryFrame, mkF, argsToLocals, Value.category]; done) | rfl) ?_
  have K0 : Keep h0 h0 [] := Keep.refl h0 _
  have hws : ∀ x ∈ ([] : List Addr), n0 ≤ x := all0
  refine gs s₁ (mkF m 1 #[rv th, rv rr] [(.ref th)]) (fun _ hr => XS.aloadN X0.here hx rfl (hb hby d26_0) rfl rfl hr) ?_
  refine gs s₁ (mkF m 2 #[rv th, rv rr] [(.ref rr), (.ref th)]) (fun _ hr => XS.aloadN X0.here hx rfl (hb hby d26_1) rfl rfl hr) ?_
  refine gs s₁ (mkF m 3 #[rv th, rv rr] [(.ref rr), (.ref rr), (.ref th)]) (fun _ hr => XS.aloadN X0.here hx rfl (hb hby d26_2) rfl rfl hr) ?_
  have Zs345 : n0 ≤ h0.size := Nat.le_trans Z0 K0.1
  obtain ⟨cq346, kq346, q346a, q346b, q346c⟩ := isOf hZ e0 E_rr
  obtain ⟨_, _, ⟨T346, L346, k346, n346⟩, -, X346, ⟨Lc346, hQ346, l346, y346, z346⟩, st346⟩ := X0.virtualBack hx (y := Y11) (z := Y11) hown (mvT hZ (tw hw 129 rfl)) (mvT hZ (tw hw 130 rfl)) (notFace_of_selects (args := #[]) (mvT hZ (tw hw 132 rfl))) (mvT hZ (tw hw 132 rfl)) (mvT hZ (tw hw 131 rfl)) (by decide) (backOf (W := 2) (rm_lookedAt l Z a0 hw [] rr q4 h0 n0 Zs345 (Old.keep O0 K0 hws) F_rr_lookedAt) hZ (tw hw 133 rfl) (tw hw 96 rfl) (by decide) (by decide)) q346a q346c (g := (mkF m 3 #[rv th, rv rr] [(.ref rr), (.ref rr), (.ref th)])) rfl (by rw [hml]; rfl) (Steps.refl _) (argsL := []) (rest := [(.ref rr), (.ref th)]) (lenOf pd_5 rfl) rfl (wle rfl) (hb hby d26_3) (fun _ _ => ⟨rfl, e0, (by decide : 0 + 0 ≤ _), (by decide : 0 + 0 ≤ _)⟩)
  dsimp only [Pt.U, Pt.locs, Pt.cells, Pt.slots] at X346 l346 y346 z346 st346 hQ346
  subst l346 y346 z346
  obtain ⟨rfl, N346q, e346⟩ := hQ346
  have N346 := Fr.app N0 N346q
  refine gs T346 (mkF m 6 #[rv th, rv rr] [(.long q4), (.ref rr), (.ref th)]) (fun _ hr => st346.trans hr) ?_
  have Zs347 : n0 ≤ h0.size := Nat.le_trans Z0 K0.1
  obtain ⟨_, _, ⟨T348, L348, k348, n348⟩, -, X348, ⟨Lc348, hQ348, l348, y348, z348⟩, st348⟩ := LawKit.callS X346 hx (y := Y3) hown (mvT hZ (tw hw 134 rfl)) (mvT hZ (tw hw 84 rfl)) (mvT hZ (tw hw 3 rfl)) (mvT hZ (tw hw 85 rfl)) (by decide) (backOf (W := 2) (rm_olof l Z a0 hw [] q4 h0 n0 Zs347 (Old.keep O0 K0 hws)) hZ (tw hw 85 rfl) (tw hw 3 rfl) (by decide) (by decide)) (g := (mkF m 6 #[rv th, rv rr] [(.long q4), (.ref rr), (.ref th)])) rfl (by rw [hml]; rfl) (argsL := [(.long q4)]) (rest := [(.ref rr), (.ref th)]) (lenOf pd_7 rfl) rfl (wle rfl) (hb hby d26_6) (fun _ _ => ⟨rfl, e346, (by decide : 0 + 1 ≤ _), (by decide : 0 + 2 ≤ _)⟩)
  dsimp only [Pt.U, Pt.locs, Pt.cells, Pt.slots] at X348 l348 y348 z348 st348 hQ348
  subst l348 y348 z348
  obtain ⟨w348, rfl, N348q, Kc348, P348_0, P348_1, P348_2, P348_3⟩ := hQ348
  have N348 := Fr.app N346 N348q
  have E_th_348 : Exa Z T348.heap th cPL := E_th.keep Kc348
  have F_th_offset_348 : Fld Z T348.heap th cPL "offset" "J" (.long q1) := F_th_offset.keep Kc348 nin0
  have F_th_end_348 : Fld Z T348.heap th cPL "end" "J" (.long q2) := F_th_end.keep Kc348 nin0
  have F_th_records_348 : Fld Z T348.heap th cPL "records" dOP (.ref op) := F_th_records.keep Kc348 nin0
  have E_op_348 : Exa Z T348.heap op cOP := E_op.keep Kc348
  have F_op_value_348 : Fld Z T348.heap op cOP "value" dOB (.ref rr) := F_op_value.keep Kc348 nin0
  have E_rr_348 : Exa Z T348.heap rr cRR := E_rr.keep Kc348
  have F_rr_onlyMarkersLeft_348 : Fld Z T348.heap rr cRR nOM "Z" (.int (0 : Int32)) := F_rr_onlyMarkersLeft.keep Kc348 nin0
  have F_rr_firstUnreadTimestamp_348 : Fld Z T348.heap rr cRR nLT dOL (.ref fu) := F_rr_firstUnreadTimestamp.keep Kc348 nin0
  have E_fu_348 : Exa Z T348.heap fu cOL := E_fu.keep Kc348
  have F_fu_isPresent_348 : Fld Z T348.heap fu cOL nIP "Z" (.int (1 : Int32)) := F_fu_isPresent.keep Kc348 nin0
  have F_fu_value_348 : Fld Z T348.heap fu cOL "value" "J" (.long q3) := F_fu_value.keep Kc348 nin0
  have K348 : Keep h0 T348.heap [] := K0.trans Kc348 all0
  have E_w348_348c : Exa Z T348.heap w348 cOL := P348_1
  have F_w348_isPresent_348c : Fld Z T348.heap w348 cOL nIP "Z" (.int (1 : Int32)) := P348_2
  have F_w348_value_348c : Fld Z T348.heap w348 cOL "value" "J" (.long q4) := P348_3
  refine gs T348 (mkF m 9 #[rv th, rv rr] [(.ref w348), (.ref rr), (.ref th)]) st348 ?_
  have Zs349 : n0 ≤ T348.heap.size := Nat.le_trans Z0 K348.1
  obtain ⟨cl350, kl350, q350a, -, -, q350d, -⟩ := id E_th_348
  obtain ⟨_, _, ⟨T350, L350, k350, n350⟩, -, X350, ⟨Lc350, hQ350, l350, y350, z350⟩, st350⟩ := X348.privateBack hx (y := Y27) hown (mvT hZ (tw hw 135 rfl)) (mvT hZ (tw hw 136 rfl)) (own_selP (mvT hZ (tw hw 12 rfl)) (mvT hZ (tw hw 137 rfl)) (mvT hZ (tw hw 136 rfl)) (by decide)) (Cond.privateMethod_at (args := #[]) (mvT hZ (tw hw 137 rfl))) (mvT hZ (tw hw 138 rfl)) (by decide) (backOf (W := 0) (rm_beh_p0 l Z a0 hw [] th rr em q1 q2 op eo w348 fu q3 q4 T348.heap n0 Zs349 (Old.keep O0 K348 hws) E_th_348 F_th_offset_348 F_th_end_348 F_th_records_348 E_op_348 F_op_value_348 E_rr_348 F_rr_onlyMarkersLeft_348 F_rr_firstUnreadTimestamp_348 E_fu_348 F_fu_isPresent_348 F_fu_value_348 E_w348_348c F_w348_isPresent_348c F_w348_value_348c S_OptionalLong_EMPTY_old E_em_old F_em_isPresent_old F_em_value_old S_Optional_EMPTY_old E_eo_old F_eo_value_old hle hpp hmn) hZ (tw hw 138 rfl) (tw hw 13 rfl) (by decide) (by decide)) (g := (mkF m 9 #[rv th, rv rr] [(.ref w348), (.ref rr), (.ref th)])) rfl (by rw [hml]; rfl) (Steps.refl _) (own_at rfl q350a) (fun q z => by rw [z] at q350d; cases q350d) (argsL := [(.ref rr), (.ref w348)]) (rest := []) (lenOf pd_14 rfl) rfl (wle rfl) (hb hby d26_9) (fun _ _ => ⟨rfl, rfl, (by decide : 1 + 5 ≤ _), (by decide : 2 + 10 ≤ _)⟩)
  dsimp only [Pt.U, Pt.locs, Pt.cells, Pt.slots] at X350 l350 y350 z350 st350 hQ350
  subst l350 y350 z350
  obtain ⟨w350, rfl, N350q, Kc350, P350_0, P350_1, P350_2, P350_3⟩ := hQ350
  have N350 := Fr.app N348 N350q
  have K350 : Keep h0 T350.heap [] := K348.trans Kc350 all0
  have sz_w350 : h0.size ≤ w350 := Nat.le_trans K348.1 P350_0
  have E_w350_350c : Exa Z T350.heap w350 cOL := P350_1
  have F_w350_isPresent_350c : Fld Z T350.heap w350 cOL nIP "Z" (.int (1 : Int32)) := P350_2
  have F_w350_value_350c : Fld Z T350.heap w350 cOL "value" "J" (.long (0 : Int64)) := P350_3
  refine gs T350 (mkF m 12 #[rv th, rv rr] [(.ref w350)]) (fun _ hr => st350.trans hr) ?_
  exact Goes.ret (v := some (.ref w350)) X350 (by decide) (by decide) (fun h => by rw [Bd.returns] at h; cases h) (by show Q_rm_lam_p0 Z th rr em q1 q2 op eo fu q3 q4 h0 n0 _ T350.heap _; exact ⟨w350, rfl, N350, K350, sz_w350, E_w350_350c, F_w350_isPresent_350c, F_w350_value_350c⟩) (fun fs hr => retOut X350 hx Bd.returns rfl (Or.inr (Or.inr (Or.inr (Or.inr ⟨rfl, rfl, rfl⟩)))) (hb hby d26_12) hr)
def Q_rm_map_p0 (Z : State) (th : Addr) (rr : Addr) (em : Addr) (q1 : Int64) (q2 : Int64) (op : Addr) (eo : Addr) (fu : Addr) (q3 : Int64) (q4 : Int64) (fa : Addr) (cK : ClassId) (h0 : Heap) (n0 : Nat) (v : Option Value) (h : Heap) (L : List Loc) : Prop := ∃ w : Addr, ∃ wr : Addr, v = some (.ref w) ∧ Fr n0 L ∧ Keep h0 h [] ∧ h0.size ≤ w ∧ Exa Z h w cOP ∧ Fld Z h w cOP "value" dOB (.ref wr) ∧ h0.size ≤ wr ∧ Exa Z h wr cOL ∧ Fld Z h wr cOL nIP "Z" (.int (1 : Int32)) ∧ Fld Z h wr cOL "value" "J" (.long (0 : Int64))
set_option maxRecDepth 65536 in
set_option maxHeartbeats 40000000 in
theorem rm_map_p0 (l : Launch) (Z : State) (a0 : Array Value) (hw : ∀ d ∈ tables_1, d.before a0 Z = true) (ws : List Jvm.Cond) (th : Addr) (rr : Addr) (em : Addr) (q1 : Int64) (q2 : Int64) (op : Addr) (eo : Addr) (fu : Addr) (q3 : Int64) (q4 : Int64) (fa : Addr) (cK : ClassId) (h0 : Heap) (n0 : Nat) (Z0 : n0 ≤ h0.size) (O0 : Old Z n0 h0) (E_th : Exa Z h0 th cPL) (F_th_offset : Fld Z h0 th cPL "offset" "J" (.long q1)) (F_th_end : Fld Z h0 th cPL "end" "J" (.long q2)) (F_th_records : Fld Z h0 th cPL "records" dOP (.ref op)) (E_op : Exa Z h0 op cOP) (F_op_value : Fld Z h0 op cOP "value" dOB (.ref rr)) (E_rr : Exa Z h0 rr cRR) (F_rr_onlyMarkersLeft : Fld Z h0 rr cRR nOM "Z" (.int (0 : Int32))) (F_rr_firstUnreadTimestamp : Fld Z h0 rr cRR nLT dOL (.ref fu)) (E_fu : Exa Z h0 fu cOL) (F_fu_isPresent : Fld Z h0 fu cOL nIP "Z" (.int (1 : Int32))) (F_fu_value : Fld Z h0 fu cOL "value" "J" (.long q3)) (F_rr_lookedAt : Fld Z h0 rr cRR "lookedAt" "J" (.long q4)) (G_fa : FnV h0 fa cK #[(.ref th)]) (S_OptionalLong_EMPTY_old : Sta Z Z.heap cOL "EMPTY" dOL (.ref em)) (E_em_old : Exa Z Z.heap em cOL) (F_em_isPresent_old : Fld Z Z.heap em cOL nIP "Z" (.int (0 : Int32))) (F_em_value_old : Fld Z Z.heap em cOL "value" "J" (.long (0 : Int64))) (S_Optional_EMPTY_old : Sta Z Z.heap cOP "EMPTY" dOP (.ref eo)) (E_eo_old : Exa Z Z.heap eo cOP) (F_eo_value_old : Fld Z Z.heap eo cOP "value" dOB .null) (hle : ¬ ((0 : Int32) < (XT.cmpL q1 q2))) (hpp : (0 : Int32) < (XT.cmpL (q2 - q1) (0 : Int64))) (hmn : ¬ ((XT.cmpL (0 : Int64) (q4 - q3)) < (0 : Int32))) (Md : Jvm.LamKit.Made Z cPL sgA cK) :
    MetFree l Y29 (head1 (Cond.code Y29 jdk_32_method_11_code 2 (some (.object cOP)) :: ws) r18) (fun a U => a = #[(.ref op), (.ref fa)] ∧ Z.Warmed39 U.vm ∧ U.heap = h0) (fun _ _ _ _ _ => True) (fun _ U o U' => ∃ v L, o = .returned v ∧ Q_rm_map_p0 Z th rr em q1 q2 op eo fu q3 q4 fa cK h0 n0 v U'.heap L ∧ FrameEnd U o U' L r18.cells r18.slots) := by
  refine MetFree.of_bodySF (plainFor_of_name pn_java_util_Optional) hisR ?_
  intro p e s m args below meth c s₁ Bd hml0 hP hK
  obtain ⟨rfl, hZ, hh⟩ := hP
  have hx := Bd.exec
  have hby := Bd.bytes
  have hml : c.maxLocals = 2 := hml0
  have hown : s.vm.findClass cOP = some m.cls := findClass_of_methodNamed Bd.named
  have hnm := (name_of_methodNamed Bd.named Bd.method).1
  have X0 : Stand p l e r18 s m #[(.ref op), (.ref fa)] below meth c s₁ [] 0 0 := Stand.of_body Bd
  have e0 : s₁.heap = h0 := by rw [← hh, Bd.state]; rfl
  have N0 := Fr.nil n0
  refine Goes.out (l := l) (c := c) (R := r18) (Q := Q_rm_map_p0 Z th rr em q1 q2 op eo fu q3 q4 fa cK h0 n0) Bd.notSynchronized ?_
  refine Goes.cast (g2 := mkF m 0 #[rv op, rv fa] []) (by first | (simp [entryFrame, mkF, argsToLocals, Value.category]; done) | rfl) ?_
  have K0 : Keep h0 h0 [] := Keep.refl h0 _
  have hws : ∀ x ∈ ([] : List Addr), n0 ≤ x := all0
  refine gs s₁ (mkF m 1 #[rv op, rv fa] [(.ref fa)]) (fun _ hr => XS.aloadN X0.here hx rfl (hb hby d27_0) rfl rfl hr) ?_
  have Zs351 : n0 ≤ h0.size := Nat.le_trans Z0 K0.1
  obtain ⟨_, _, ⟨T352, L352, k352, n352⟩, -, X352, ⟨Lc352, hQ352, l352, y352, z352⟩, st352⟩ := LawKit.callS X0 hx (y := Y13) hown (mvT hZ (tw hw 57 rfl)) (mvT hZ (tw hw 58 rfl)) (mvT hZ (tw hw 35 rfl)) (mvT hZ (tw hw 59 rfl)) (by decide) (backOf (W := 0) (rm_rnn1 l Z a0 hw [] fa h0 n0 Zs351 (Old.keep O0 K0 hws)) hZ (tw hw 59 rfl) (tw hw 35 rfl) (by decide) (by decide)) (g := (mkF m 1 #[rv op, rv fa] [(.ref fa)])) rfl (by rw [hml]; rfl) (argsL := [(.ref fa)]) (rest := []) (lenOf pd_3 rfl) rfl (wle rfl) (hb hby d27_1) (fun _ _ => ⟨rfl, e0, (by decide : 0 + 0 ≤ _), (by decide : 0 + 0 ≤ _)⟩)
  dsimp only [Pt.U, Pt.locs, Pt.cells, Pt.slots] at X352 l352 y352 z352 st352 hQ352
  subst l352 y352 z352
  obtain ⟨rfl, N352q, e352⟩ := hQ352
  have N352 := Fr.app N0 N352q
  refine gs T352 (mkF m 4 #[rv op, rv fa] [(.ref fa)]) st352 ?_
  refine gs T352 (mkF m 5 #[rv op, rv fa] []) (fun _ hr => XT.pop X352.here hx rfl (hb hby d27_4) rfl rfl hr) ?_
  refine gs T352 (mkF m 6 #[rv op, rv fa] [(.ref op)]) (fun _ hr => XS.aloadN X352.here hx rfl (hb hby d27_5) rfl rfl hr) ?_
  have Zs353 : n0 ≤ h0.size := Nat.le_trans Z0 K0.1
  obtain ⟨cq354, kq354, q354a, q354b, q354c⟩ := isOf hZ e352 E_op
  obtain ⟨_, _, ⟨T354, L354, k354, n354⟩, -, X354, ⟨Lc354, hQ354, l354, y354, z354⟩, st354⟩ := X352.virtualBack hx (y := Y18) (z := Y18) hown (mvT hZ (tw hw 60 rfl)) (mvT hZ (tw hw 61 rfl)) (notFace_of_selects (args := #[]) (mvT hZ (tw hw 63 rfl))) (mvT hZ (tw hw 63 rfl)) (mvT hZ (tw hw 62 rfl)) (by decide) (backOf (W := 0) (rm_oise1 l Z a0 hw [] op rr h0 n0 Zs353 (Old.keep O0 K0 hws) F_op_value) hZ (tw hw 64 rfl) (tw hw 8 rfl) (by decide) (by decide)) q354a q354c (g := (mkF m 6 #[rv op, rv fa] [(.ref op)])) rfl (by rw [hml]; rfl) (Steps.refl _) (argsL := []) (rest := []) (lenOf pd_1 rfl) rfl (wle rfl) (hb hby d27_6) (fun _ _ => ⟨rfl, e352, (by decide : 0 + 0 ≤ _), (by decide : 0 + 0 ≤ _)⟩)
  dsimp only [Pt.U, Pt.locs, Pt.cells, Pt.slots] at X354 l354 y354 z354 st354 hQ354
  subst l354 y354 z354
  obtain ⟨rfl, N354q, e354⟩ := hQ354
  have N354 := Fr.app N352 N354q
  refine gs T354 (mkF m 9 #[rv op, rv fa] [(.int (0 : Int32))]) (fun _ hr => st354.trans hr) ?_
  refine gs T354 (mkF m 16 #[rv op, rv fa] []) (fun _ hr => XS.ifYes X354.here hx rfl (pc0 := 9) (pc' := 16) rfl (hb hby d27_9) rfl ((if0 _ _).trans (teq (by decide : (0 : Int32) = (0 : Int32))).1) (by decide) (by decide) hr) ?_
  refine gs T354 (mkF m 17 #[rv op, rv fa] [(.ref fa)]) (fun _ hr => XS.aloadN X354.here hx rfl (hb hby d27_16) rfl rfl hr) ?_
  refine gs T354 (mkF m 18 #[rv op, rv fa] [(.ref op), (.ref fa)]) (fun _ hr => XS.aloadN X354.here hx rfl (hb hby d27_17) rfl rfl hr) ?_
  obtain ⟨T355, X355, e355, st355⟩ := getF X354 hx hZ hown (host := "") (Or.inl (tw hw 65 rfl)) Via.refl e354 F_op_value (g := (mkF m 18 #[rv op, rv fa] [(.ref op), (.ref fa)])) rfl rfl (hb hby d27_18)
  refine gs T355 (mkF m 21 #[rv op, rv fa] [(.ref rr), (.ref fa)]) st355 ?_
  have Zs356 : n0 ≤ h0.size := Nat.le_trans Z0 K0.1
  obtain ⟨_, T357, Lc357, X357, hQ357, st357⟩ := own_callFace X355 hx hZ (xi := Y28) hown (tw hw 122 rfl) (tw hw 123 rfl) (tw hw 124 rfl) ⟨rfl, rfl, by decide +kernel⟩ (by decide) Md e355 G_fa okA (g := (mkF m 21 #[rv op, rv fa] [(.ref rr), (.ref fa)])) rfl (by rw [hml]; rfl) (argsL := [(.ref rr)]) (rest := []) (lenOf pd_3 rfl) rfl (hb hby d27_21) (R' := r19) (Q := Q_rm_lam_p0 Z th rr em q1 q2 op eo fu q3 q4 h0 n0) (by decide) (by show 2 * 0 + 0 + 13 + 3116 ≤ _; decide) (by decide) (by decide) (fun s' U bl mk ck Y' hZ' eU zq1 zq2 zq3 => bodyA hx Y' hZ' hw Md zq1 zq2 zq3 eU G_fa E_rr E_th (rm_lam_p0 l Z a0 hw [] th rr em q1 q2 op eo fu q3 q4 h0 n0 Zs356 (Old.keep O0 K0 hws) E_th F_th_offset F_th_end F_th_records E_op F_op_value E_rr F_rr_onlyMarkersLeft F_rr_firstUnreadTimestamp E_fu F_fu_isPresent F_fu_value F_rr_lookedAt S_OptionalLong_EMPTY_old E_em_old F_em_isPresent_old F_em_value_old S_Optional_EMPTY_old E_eo_old F_eo_value_old hle hpp hmn) (fun v h L q => by obtain ⟨_, rfl, -⟩ := q; exact ⟨_, rfl⟩) (by decide) (by decide) (by decide) (by decide))
  obtain ⟨w357, rfl, N357q, Kc357, P357_0, P357_1, P357_2, P357_3⟩ := hQ357
  have N357 := Fr.app N354 N357q
  have K357 : Keep h0 T357.heap [] := K0.trans Kc357 all0
  have sz_w357 : h0.size ≤ w357 := Nat.le_trans K0.1 P357_0
  have E_w357_357c : Exa Z T357.heap w357 cOL := P357_1
  have F_w357_isPresent_357c : Fld Z T357.heap w357 cOL nIP "Z" (.int (1 : Int32)) := P357_2
  have F_w357_value_357c : Fld Z T357.heap w357 cOL "value" "J" (.long (0 : Int64)) := P357_3
  refine gs T357 (mkF m 26 #[rv op, rv fa] [(.ref w357)]) st357 ?_
  have Zs358 : n0 ≤ T357.heap.size := Nat.le_trans Z0 K357.1
  obtain ⟨_, _, ⟨T359, L359, k359, n359⟩, -, X359, ⟨Lc359, hQ359, l359, y359, z359⟩, st359⟩ := LawKit.callS X357 hx (y := Y16) hown (mvT hZ (tw hw 181 rfl)) (mvT hZ (tw hw 182 rfl)) (mvT hZ (tw hw 8 rfl)) (mvT hZ (tw hw 183 rfl)) (by decide) (backOf (W := 0) (rm_oofn l Z a0 hw [] w357 T357.heap n0 Zs358 (Old.keep O0 K357 hws)) hZ (tw hw 183 rfl) (tw hw 8 rfl) (by decide) (by decide)) (g := (mkF m 26 #[rv op, rv fa] [(.ref w357)])) rfl (by rw [hml]; rfl) (argsL := [(.ref w357)]) (rest := []) (lenOf pd_15 rfl) rfl (wle rfl) (hb hby d27_26) (fun _ _ => ⟨rfl, rfl, (by decide : 6 + 1 ≤ _), (by decide : 12 + 1 ≤ _)⟩)
  dsimp only [Pt.U, Pt.locs, Pt.cells, Pt.slots] at X359 l359 y359 z359 st359 hQ359
  subst l359 y359 z359
  obtain ⟨w359, rfl, N359q, Kc359, P359_0, P359_1, P359_2⟩ := hQ359
  have N359 := Fr.app N357 N359q
  have E_w357_359 : Exa Z T359.heap w357 cOL := E_w357_357c.keep Kc359
  have F_w357_isPresent_359 : Fld Z T359.heap w357 cOL nIP "Z" (.int (1 : Int32)) := F_w357_isPresent_357c.keep Kc359 nin0
  have F_w357_value_359 : Fld Z T359.heap w357 cOL "value" "J" (.long (0 : Int64)) := F_w357_value_357c.keep Kc359 nin0
  have K359 : Keep h0 T359.heap [] := K357.trans Kc359 all0
  have sz_w359 : h0.size ≤ w359 := Nat.le_trans K357.1 P359_0
  have E_w359_359c : Exa Z T359.heap w359 cOP := P359_1
  have F_w359_value_359c : Fld Z T359.heap w359 cOP "value" dOB (.ref w357) := P359_2
  refine gs T359 (mkF m 29 #[rv op, rv fa] [(.ref w359)]) st359 ?_
  exact Goes.ret (v := some (.ref w359)) X359 (by decide) (by decide) (fun h => by rw [Bd.returns] at h; cases h) (by show Q_rm_map_p0 Z th rr em q1 q2 op eo fu q3 q4 fa cK h0 n0 _ T359.heap _; exact ⟨w359, w357, rfl, N359, K359, sz_w359, E_w359_359c, F_w359_value_359c, sz_w357, E_w357_359, F_w357_isPresent_359, F_w357_value_359⟩) (fun fs hr => retOut X359 hx Bd.returns rfl (Or.inr (Or.inr (Or.inr (Or.inr ⟨rfl, rfl, rfl⟩)))) (hb hby d27_29) hr)
def Q_rm_age_p0 (Z : State) (th : Addr) (rr : Addr) (em : Addr) (q1 : Int64) (q2 : Int64) (op : Addr) (eo : Addr) (fu : Addr) (q3 : Int64) (q4 : Int64) (h0 : Heap) (n0 : Nat) (v : Option Value) (h : Heap) (L : List Loc) : Prop := ∃ w : Addr, v = some (.ref w) ∧ Fr n0 L ∧ Keep h0 h [] ∧ h0.size ≤ w ∧ Exa Z h w cOL ∧ Fld Z h w cOL nIP "Z" (.int (1 : Int32)) ∧ Fld Z h w cOL "value" "J" (.long (0 : Int64))
set_option maxRecDepth 65536 in
set_option maxHeartbeats 40000000 in
theorem rm_age_p0 (l : Launch) (Z : State) (a0 : Array Value) (hw : ∀ d ∈ tables_1, d.before a0 Z = true) (ws : List Jvm.Cond) (th : Addr) (rr : Addr) (em : Addr) (q1 : Int64) (q2 : Int64) (op : Addr) (eo : Addr) (fu : Addr) (q3 : Int64) (q4 : Int64) (h0 : Heap) (n0 : Nat) (Z0 : n0 ≤ h0.size) (O0 : Old Z n0 h0) (E_th : Exa Z h0 th cPL) (F_th_offset : Fld Z h0 th cPL "offset" "J" (.long q1)) (F_th_end : Fld Z h0 th cPL "end" "J" (.long q2)) (F_th_records : Fld Z h0 th cPL "records" dOP (.ref op)) (E_op : Exa Z h0 op cOP) (F_op_value : Fld Z h0 op cOP "value" dOB (.ref rr)) (E_rr : Exa Z h0 rr cRR) (F_rr_onlyMarkersLeft : Fld Z h0 rr cRR nOM "Z" (.int (0 : Int32))) (F_rr_firstUnreadTimestamp : Fld Z h0 rr cRR nLT dOL (.ref fu)) (E_fu : Exa Z h0 fu cOL) (F_fu_isPresent : Fld Z h0 fu cOL nIP "Z" (.int (1 : Int32))) (F_fu_value : Fld Z h0 fu cOL "value" "J" (.long q3)) (F_rr_lookedAt : Fld Z h0 rr cRR "lookedAt" "J" (.long q4)) (S_OptionalLong_EMPTY_old : Sta Z Z.heap cOL "EMPTY" dOL (.ref em)) (E_em_old : Exa Z Z.heap em cOL) (F_em_isPresent_old : Fld Z Z.heap em cOL nIP "Z" (.int (0 : Int32))) (F_em_value_old : Fld Z Z.heap em cOL "value" "J" (.long (0 : Int64))) (S_Optional_EMPTY_old : Sta Z Z.heap cOP "EMPTY" dOP (.ref eo)) (E_eo_old : Exa Z Z.heap eo cOP) (F_eo_value_old : Fld Z Z.heap eo cOP "value" dOB .null) (hle : ¬ ((0 : Int32) < (XT.cmpL q1 q2))) (hpp : (0 : Int32) < (XT.cmpL (q2 - q1) (0 : Int64))) (hmn : ¬ ((XT.cmpL (0 : Int64) (q4 - q3)) < (0 : Int32))) :
    MetFree l Y30 (head1 (Cond.code Y30 prog_13_method_5_code 1 (some (.object cOL)) :: ws) r20) (fun a U => a = #[(.ref th)] ∧ Z.Warmed39 U.vm ∧ U.heap = h0) (fun _ _ _ _ _ => True) (fun _ U o U' => ∃ v L, o = .returned v ∧ Q_rm_age_p0 Z th rr em q1 q2 op eo fu q3 q4 h0 n0 v U'.heap L ∧ FrameEnd U o U' L r20.cells r20.slots) := by
  refine MetFree.of_bodySF (plainFor_of_name pn_com_example_log_lag_gauge_loglaggauge_model_PositionLag) hisR ?_
  intro p e s m args below meth c s₁ Bd hml0 hP hK
  obtain ⟨rfl, hZ, hh⟩ := hP
  have hx := Bd.exec
  have hby := Bd.bytes
  have hml : c.maxLocals = 1 := hml0
  have hown : s.vm.findClass cPL = some m.cls := findClass_of_methodNamed Bd.named
  have hnm := (name_of_methodNamed Bd.named Bd.method).1
  have X0 : Stand p l e r20 s m #[(.ref th)] below meth c s₁ [] 0 0 := Stand.of_body Bd
  have e0 : s₁.heap = h0 := by rw [← hh, Bd.state]; rfl
  have N0 := Fr.nil n0
  refine Goes.out (l := l) (c := c) (R := r20) (Q := Q_rm_age_p0 Z th rr em q1 q2 op eo fu q3 q4 h0 n0) Bd.notSynchronized ?_
  refine Goes.cast (g2 := mkF m 0 #[rv th] []) (by first | (simp [entryFrame, mkF, argsToLocals, Value.category]; done) | rfl) ?_
  have K0 : Keep h0 h0 [] := Keep.refl h0 _
  have hws : ∀ x ∈ ([] : List Addr), n0 ≤ x := all0
  refine gs s₁ (mkF m 1 #[rv th] [(.ref th)]) (fun _ hr => XS.aloadN X0.here hx rfl (hb hby d28_0) rfl rfl hr) ?_
  obtain ⟨T360, X360, e360, st360⟩ := getF X0 hx hZ hown (host := "") (Or.inl (tw hw 41 rfl)) Via.refl e0 F_th_records (g := (mkF m 1 #[rv th] [(.ref th)])) rfl rfl (hb hby d28_1)
  refine gs T360 (mkF m 4 #[rv th] [(.ref op)]) st360 ?_
  refine gs T360 (mkF m 5 #[rv th] [(.ref th), (.ref op)]) (fun _ hr => XS.aloadN X360.here hx rfl (hb hby d28_4) rfl rfl hr) ?_
  obtain ⟨T361, h361, c361, X361, e361, E361, A361, Md361, st361⟩ := own_siteMakes X360 hx hZ (x := Y30) (pc := 5) (fi := 15) (σ := sgA) Bd.named (tw hw 48 rfl) (by decide) cpA (tw hw 51 rfl) e360 (g := (mkF m 5 #[rv th] [(.ref th), (.ref op)])) rfl rfl (by rw [hml]; rfl) (hb hby d28_5) (vals := [(.ref th)]) (rest := [(.ref op)]) rfl rfl own_fit1 (by show 2 * 0 + 2 + 3072 ≤ _; decide) (N := 1) rfl (by decide) (by decide)
  obtain ⟨b361, g361⟩ : ∃ z, z = h0.size := ⟨_, rfl⟩
  rw [← g361] at A361 st361
  have E_th_361 : Exa Z h361 th cPL := E_th.ext E361
  have F_th_offset_361 : Fld Z h361 th cPL "offset" "J" (.long q1) := F_th_offset.ext E361
  have F_th_end_361 : Fld Z h361 th cPL "end" "J" (.long q2) := F_th_end.ext E361
  have F_th_records_361 : Fld Z h361 th cPL "records" dOP (.ref op) := F_th_records.ext E361
  have E_op_361 : Exa Z h361 op cOP := E_op.ext E361
  have F_op_value_361 : Fld Z h361 op cOP "value" dOB (.ref rr) := F_op_value.ext E361
  have E_rr_361 : Exa Z h361 rr cRR := E_rr.ext E361
  have F_rr_onlyMarkersLeft_361 : Fld Z h361 rr cRR nOM "Z" (.int (0 : Int32)) := F_rr_onlyMarkersLeft.ext E361
  have F_rr_firstUnreadTimestamp_361 : Fld Z h361 rr cRR nLT dOL (.ref fu) := F_rr_firstUnreadTimestamp.ext E361
  have E_fu_361 : Exa Z h361 fu cOL := E_fu.ext E361
  have F_fu_isPresent_361 : Fld Z h361 fu cOL nIP "Z" (.int (1 : Int32)) := F_fu_isPresent.ext E361
  have F_fu_value_361 : Fld Z h361 fu cOL "value" "J" (.long q3) := F_fu_value.ext E361
  have F_rr_lookedAt_361 : Fld Z h361 rr cRR "lookedAt" "J" (.long q4) := F_rr_lookedAt.ext E361
  have K361 : Keep h0 h361 [] := K0.ext E361
  refine gs T361 (mkF m 10 #[rv th] [(.ref b361), (.ref op)]) st361 ?_
  have Zs362 : n0 ≤ h361.size := Nat.le_trans Z0 K361.1
  obtain ⟨cq363, kq363, q363a, q363b, q363c⟩ := isOf hZ e361 E_op_361
  obtain ⟨_, _, ⟨T363, L363, k363, n363⟩, -, X363, ⟨Lc363, hQ363, l363, y363, z363⟩, st363⟩ := X361.virtualBack hx (y := Y29) (z := Y29) hown (mvT hZ (tw hw 52 rfl)) (mvT hZ (tw hw 53 rfl)) (notFace_of_selects (args := #[]) (mvT hZ (tw hw 55 rfl))) (mvT hZ (tw hw 55 rfl)) (mvT hZ (tw hw 54 rfl)) (by decide) (backOf (W := 0) (rm_map_p0 l Z a0 hw [] th rr em q1 q2 op eo fu q3 q4 b361 c361 h361 n0 Zs362 (Old.keep O0 K361 hws) E_th_361 F_th_offset_361 F_th_end_361 F_th_records_361 E_op_361 F_op_value_361 E_rr_361 F_rr_onlyMarkersLeft_361 F_rr_firstUnreadTimestamp_361 E_fu_361 F_fu_isPresent_361 F_fu_value_361 F_rr_lookedAt_361 A361 S_OptionalLong_EMPTY_old E_em_old F_em_isPresent_old F_em_value_old S_Optional_EMPTY_old E_eo_old F_eo_value_old hle hpp hmn Md361) hZ (tw hw 56 rfl) (tw hw 8 rfl) (by decide) (by decide)) q363a q363c (g := (mkF m 10 #[rv th] [(.ref b361), (.ref op)])) rfl (by rw [hml]; rfl) (Steps.refl _) (argsL := [(.ref b361)]) (rest := []) (lenOf pd_16 rfl) rfl (wle rfl) (hb hby d28_10) (fun _ _ => ⟨rfl, e361, (by decide : 1 + 7 ≤ _), (by decide : 1 + 13 ≤ _)⟩)
  dsimp only [Pt.U, Pt.locs, Pt.cells, Pt.slots] at X363 l363 y363 z363 st363 hQ363
  subst l363 y363 z363
  obtain ⟨w363, wr363, rfl, N363q, Kc363, P363_0, P363_1, P363_2, P363_3, P363_4, P363_5, P363_6⟩ := hQ363
  have N363 := Fr.app N0 N363q
  have K363 : Keep h0 T363.heap [] := K361.trans Kc363 all0
  have E_w363_363c : Exa Z T363.heap w363 cOP := P363_1
  have F_w363_value_363c : Fld Z T363.heap w363 cOP "value" dOB (.ref wr363) := P363_2
  have sz_wr363 : h0.size ≤ wr363 := Nat.le_trans K361.1 P363_3
  have E_wr363_363c : Exa Z T363.heap wr363 cOL := P363_4
  have F_wr363_isPresent_363c : Fld Z T363.heap wr363 cOL nIP "Z" (.int (1 : Int32)) := P363_5
  have F_wr363_value_363c : Fld Z T363.heap wr363 cOL "value" "J" (.long (0 : Int64)) := P363_6
  refine gs T363 (mkF m 13 #[rv th] [(.ref w363)]) (fun _ hr => st363.trans hr) ?_
  have Zs364 : n0 ≤ T363.heap.size := Nat.le_trans Z0 K363.1
  obtain ⟨_, _, ⟨T365, L365, k365, n365⟩, -, X365, ⟨Lc365, hQ365, l365, y365, z365⟩, st365⟩ := LawKit.callS X363 hx (y := Y4) hown (mvT hZ (tw hw 68 rfl)) (mvT hZ (tw hw 2 rfl)) (mvT hZ (tw hw 3 rfl)) (mvT hZ (tw hw 4 rfl)) (by decide) (backOf (W := 1) (rm_olem l Z a0 hw [] em T363.heap n0 Zs364 (Old.keep O0 K363 hws) S_OptionalLong_EMPTY_old) hZ (tw hw 4 rfl) (tw hw 3 rfl) (by decide) (by decide)) (g := (mkF m 13 #[rv th] [(.ref w363)])) rfl (by rw [hml]; rfl) (argsL := []) (rest := [(.ref w363)]) (lenOf pd_6 rfl) rfl (wle rfl) (hb hby d28_13) (fun _ _ => ⟨rfl, rfl, (by decide : 8 + 0 ≤ _), (by decide : 14 + 0 ≤ _)⟩)
  dsimp only [Pt.U, Pt.locs, Pt.cells, Pt.slots] at X365 l365 y365 z365 st365 hQ365
  subst l365 y365 z365
  obtain ⟨rfl, N365q, e365⟩ := hQ365
  have N365 := Fr.app N363 N365q
  refine gs T365 (mkF m 16 #[rv th] [(.ref em), (.ref w363)]) st365 ?_
  have Zs366 : n0 ≤ T363.heap.size := Nat.le_trans Z0 K363.1
  obtain ⟨cq367, kq367, q367a, q367b, q367c⟩ := isOf hZ e365 E_w363_363c
  obtain ⟨_, _, ⟨T367, L367, k367, n367⟩, -, X367, ⟨Lc367, hQ367, l367, y367, z367⟩, st367⟩ := X365.virtualBack hx (y := Y20) (z := Y20) hown (mvT hZ (tw hw 69 rfl)) (mvT hZ (tw hw 70 rfl)) (notFace_of_selects (args := #[]) (mvT hZ (tw hw 72 rfl))) (mvT hZ (tw hw 72 rfl)) (mvT hZ (tw hw 71 rfl)) (by decide) (backOf (W := 0) (rm_oore1 l Z a0 hw [] w363 wr363 em T363.heap n0 Zs366 (Old.keep O0 K363 hws) F_w363_value_363c) hZ (tw hw 73 rfl) (tw hw 8 rfl) (by decide) (by decide)) q367a q367c (g := (mkF m 16 #[rv th] [(.ref em), (.ref w363)])) rfl (by rw [hml]; rfl) (Steps.refl _) (argsL := [(.ref em)]) (rest := []) (lenOf pd_3 rfl) rfl (wle rfl) (hb hby d28_16) (fun _ _ => ⟨rfl, e365, (by decide : 8 + 0 ≤ _), (by decide : 14 + 0 ≤ _)⟩)
  dsimp only [Pt.U, Pt.locs, Pt.cells, Pt.slots] at X367 l367 y367 z367 st367 hQ367
  subst l367 y367 z367
  obtain ⟨rfl, N367q, e367⟩ := hQ367
  have N367 := Fr.app N365 N367q
  refine gs T367 (mkF m 19 #[rv th] [(.ref wr363)]) (fun _ hr => st367.trans hr) ?_
  obtain ⟨T368, X368, e368, st368⟩ := castY X367 hx hZ hown (tw hw 74 rfl) e367 (Ins.self E_wr363_363c) (g := (mkF m 19 #[rv th] [(.ref wr363)])) rfl rfl (hb hby d28_19)
  refine gs T368 (mkF m 22 #[rv th] [(.ref wr363)]) st368 ?_
  exact Goes.ret (v := some (.ref wr363)) X368 (by decide) (by decide) (fun h => by rw [Bd.returns] at h; cases h) (by show Q_rm_age_p0 Z th rr em q1 q2 op eo fu q3 q4 h0 n0 _ T368.heap _; rw [e368]; exact ⟨wr363, rfl, N367, K363, sz_wr363, E_wr363_363c, F_wr363_isPresent_363c, F_wr363_value_363c⟩) (fun fs hr => retOut X368 hx Bd.returns rfl (Or.inr (Or.inr (Or.inr (Or.inr ⟨rfl, rfl, rfl⟩)))) (hb hby d28_22) hr)
theorem d27_12 : decode jdk_32_method_11_code 12 = .ok (.invokestatic 53, 3) := by decide +kernel
theorem d27_15 : decode jdk_32_method_11_code 15 = .ok (.areturn, 1) := by decide +kernel
def Q_rm_map_none (Z : State) (op : Addr) (fa : Addr) (eo : Addr) (h0 : Heap) (n0 : Nat) (v : Option Value) (h : Heap) (L : List Loc) : Prop := v = some (.ref eo) ∧ Fr n0 L ∧ h = h0
set_option maxRecDepth 65536 in
set_option maxHeartbeats 40000000 in
theorem rm_map_none (l : Launch) (Z : State) (a0 : Array Value) (hw : ∀ d ∈ tables_1, d.before a0 Z = true) (ws : List Jvm.Cond) (op : Addr) (fa : Addr) (eo : Addr) (h0 : Heap) (n0 : Nat) (Z0 : n0 ≤ h0.size) (O0 : Old Z n0 h0) (E_op : Exa Z h0 op cOP) (F_op_value : Fld Z h0 op cOP "value" dOB .null) (S_Optional_EMPTY_old : Sta Z Z.heap cOP "EMPTY" dOP (.ref eo)) :
    MetFree l Y29 (head1 (Cond.code Y29 jdk_32_method_11_code 2 (some (.object cOP)) :: ws) r0) (fun a U => a = #[(.ref op), (.ref fa)] ∧ Z.Warmed39 U.vm ∧ U.heap = h0) (fun _ _ _ _ _ => True) (fun _ U o U' => ∃ v L, o = .returned v ∧ Q_rm_map_none Z op fa eo h0 n0 v U'.heap L ∧ FrameEnd U o U' L r0.cells r0.slots) := by
  refine MetFree.of_bodySF (plainFor_of_name pn_java_util_Optional) hisR ?_
  intro p e s m args below meth c s₁ Bd hml0 hP hK
  obtain ⟨rfl, hZ, hh⟩ := hP
  have hx := Bd.exec
  have hby := Bd.bytes
  have hml : c.maxLocals = 2 := hml0
  have hown : s.vm.findClass cOP = some m.cls := findClass_of_methodNamed Bd.named
  have hnm := (name_of_methodNamed Bd.named Bd.method).1
  have X0 : Stand p l e r0 s m #[(.ref op), (.ref fa)] below meth c s₁ [] 0 0 := Stand.of_body Bd
  have e0 : s₁.heap = h0 := by rw [← hh, Bd.state]; rfl
  have N0 := Fr.nil n0
  refine Goes.out (l := l) (c := c) (R := r0) (Q := Q_rm_map_none Z op fa eo h0 n0) Bd.notSynchronized ?_
  refine Goes.cast (g2 := mkF m 0 #[rv op, rv fa] []) (by first | (simp [entryFrame, mkF, argsToLocals, Value.category]; done) | rfl) ?_
  have K0 : Keep h0 h0 [] := Keep.refl h0 _
  have hws : ∀ x ∈ ([] : List Addr), n0 ≤ x := all0
  refine gs s₁ (mkF m 1 #[rv op, rv fa] [(.ref fa)]) (fun _ hr => XS.aloadN X0.here hx rfl (hb hby d27_0) rfl rfl hr) ?_
  have Zs369 : n0 ≤ h0.size := Nat.le_trans Z0 K0.1
  obtain ⟨_, _, ⟨T370, L370, k370, n370⟩, -, X370, ⟨Lc370, hQ370, l370, y370, z370⟩, st370⟩ := LawKit.callS X0 hx (y := Y13) hown (mvT hZ (tw hw 57 rfl)) (mvT hZ (tw hw 58 rfl)) (mvT hZ (tw hw 35 rfl)) (mvT hZ (tw hw 59 rfl)) (by decide) (backOf (W := 0) (rm_rnn1 l Z a0 hw [] fa h0 n0 Zs369 (Old.keep O0 K0 hws)) hZ (tw hw 59 rfl) (tw hw 35 rfl) (by decide) (by decide)) (g := (mkF m 1 #[rv op, rv fa] [(.ref fa)])) rfl (by rw [hml]; rfl) (argsL := [(.ref fa)]) (rest := []) (lenOf pd_3 rfl) rfl (wle rfl) (hb hby d27_1) (fun _ _ => ⟨rfl, e0, (by decide : 0 + 0 ≤ _), (by decide : 0 + 0 ≤ _)⟩)
  dsimp only [Pt.U, Pt.locs, Pt.cells, Pt.slots] at X370 l370 y370 z370 st370 hQ370
  subst l370 y370 z370
  obtain ⟨rfl, N370q, e370⟩ := hQ370
  have N370 := Fr.app N0 N370q
  refine gs T370 (mkF m 4 #[rv op, rv fa] [(.ref fa)]) st370 ?_
  refine gs T370 (mkF m 5 #[rv op, rv fa] []) (fun _ hr => XT.pop X370.here hx rfl (hb hby d27_4) rfl rfl hr) ?_
  refine gs T370 (mkF m 6 #[rv op, rv fa] [(.ref op)]) (fun _ hr => XS.aloadN X370.here hx rfl (hb hby d27_5) rfl rfl hr) ?_
  have Zs371 : n0 ≤ h0.size := Nat.le_trans Z0 K0.1
  obtain ⟨cq372, kq372, q372a, q372b, q372c⟩ := isOf hZ e370 E_op
  obtain ⟨_, _, ⟨T372, L372, k372, n372⟩, -, X372, ⟨Lc372, hQ372, l372, y372, z372⟩, st372⟩ := X370.virtualBack hx (y := Y18) (z := Y18) hown (mvT hZ (tw hw 60 rfl)) (mvT hZ (tw hw 61 rfl)) (notFace_of_selects (args := #[]) (mvT hZ (tw hw 63 rfl))) (mvT hZ (tw hw 63 rfl)) (mvT hZ (tw hw 62 rfl)) (by decide) (backOf (W := 0) (rm_oise0 l Z a0 hw [] op h0 n0 Zs371 (Old.keep O0 K0 hws) F_op_value) hZ (tw hw 64 rfl) (tw hw 8 rfl) (by decide) (by decide)) q372a q372c (g := (mkF m 6 #[rv op, rv fa] [(.ref op)])) rfl (by rw [hml]; rfl) (Steps.refl _) (argsL := []) (rest := []) (lenOf pd_1 rfl) rfl (wle rfl) (hb hby d27_6) (fun _ _ => ⟨rfl, e370, (by decide : 0 + 0 ≤ _), (by decide : 0 + 0 ≤ _)⟩)
  dsimp only [Pt.U, Pt.locs, Pt.cells, Pt.slots] at X372 l372 y372 z372 st372 hQ372
  subst l372 y372 z372
  obtain ⟨rfl, N372q, e372⟩ := hQ372
  have N372 := Fr.app N370 N372q
  refine gs T372 (mkF m 9 #[rv op, rv fa] [(.int (1 : Int32))]) (fun _ hr => st372.trans hr) ?_
  refine gs T372 (mkF m 12 #[rv op, rv fa] []) (fun _ hr => XS.ifNo X372.here hx rfl (hb hby d27_9) rfl ((if0 _ _).trans (feq (by decide : ¬ ((1 : Int32) = (0 : Int32)))).1) hr) ?_
  have Zs373 : n0 ≤ h0.size := Nat.le_trans Z0 K0.1
  obtain ⟨_, _, ⟨T374, L374, k374, n374⟩, -, X374, ⟨Lc374, hQ374, l374, y374, z374⟩, st374⟩ := LawKit.callS X372 hx (y := Y17) hown (mvT hZ (tw hw 67 rfl)) (mvT hZ (tw hw 7 rfl)) (mvT hZ (tw hw 8 rfl)) (mvT hZ (tw hw 9 rfl)) (by decide) (backOf (W := 0) (rm_oem l Z a0 hw [] eo h0 n0 Zs373 (Old.keep O0 K0 hws) S_Optional_EMPTY_old) hZ (tw hw 9 rfl) (tw hw 8 rfl) (by decide) (by decide)) (g := (mkF m 12 #[rv op, rv fa] [])) rfl (by rw [hml]; rfl) (argsL := []) (rest := []) (lenOf pd_10 rfl) rfl (wle rfl) (hb hby d27_12) (fun _ _ => ⟨rfl, e372, (by decide : 0 + 0 ≤ _), (by decide : 0 + 0 ≤ _)⟩)
  dsimp only [Pt.U, Pt.locs, Pt.cells, Pt.slots] at X374 l374 y374 z374 st374 hQ374
  subst l374 y374 z374
  obtain ⟨rfl, N374q, e374⟩ := hQ374
  have N374 := Fr.app N372 N374q
  refine gs T374 (mkF m 15 #[rv op, rv fa] [(.ref eo)]) st374 ?_
  exact Goes.ret (v := some (.ref eo)) X374 (by decide) (by decide) (fun h => by rw [Bd.returns] at h; cases h) ⟨rfl, N374, e374⟩ (fun fs hr => retOut X374 hx Bd.returns rfl (Or.inr (Or.inr (Or.inr (Or.inr ⟨rfl, rfl, rfl⟩)))) (hb hby d27_15) hr)
def Q_rm_age_none (Z : State) (th : Addr) (eo : Addr) (em : Addr) (h0 : Heap) (n0 : Nat) (v : Option Value) (h : Heap) (L : List Loc) : Prop := v = some (.ref em) ∧ Fr n0 L ∧ Keep h0 h []
set_option maxRecDepth 65536 in
set_option maxHeartbeats 40000000 in
theorem rm_age_none (l : Launch) (Z : State) (a0 : Array Value) (hw : ∀ d ∈ tables_1, d.before a0 Z = true) (ws : List Jvm.Cond) (th : Addr) (eo : Addr) (em : Addr) (h0 : Heap) (n0 : Nat) (Z0 : n0 ≤ h0.size) (O0 : Old Z n0 h0) (E_th : Exa Z h0 th cPL) (F_th_records : Fld Z h0 th cPL "records" dOP (.ref eo)) (S_OptionalLong_EMPTY_old : Sta Z Z.heap cOL "EMPTY" dOL (.ref em)) (E_em_old : Exa Z Z.heap em cOL) (F_em_isPresent_old : Fld Z Z.heap em cOL nIP "Z" (.int (0 : Int32))) (F_em_value_old : Fld Z Z.heap em cOL "value" "J" (.long (0 : Int64))) (S_Optional_EMPTY_old : Sta Z Z.heap cOP "EMPTY" dOP (.ref eo)) (E_eo_old : Exa Z Z.heap eo cOP) (F_eo_value_old : Fld Z Z.heap eo cOP "value" dOB .null) :
    MetFree l Y30 (head1 (Cond.code Y30 prog_13_method_5_code 1 (some (.object cOL)) :: ws) r25) (fun a U => a = #[(.ref th)] ∧ Z.Warmed39 U.vm ∧ U.heap = h0) (fun _ _ _ _ _ => True) (fun _ U o U' => ∃ v L, o = .returned v ∧ Q_rm_age_none Z th eo em h0 n0 v U'.heap L ∧ FrameEnd U o U' L r25.cells r25.slots) := by
  refine MetFree.of_bodySF (plainFor_of_name pn_com_example_log_lag_gauge_loglaggauge_model_PositionLag) hisR ?_
  intro p e s m args below meth c s₁ Bd hml0 hP hK
  obtain ⟨rfl, hZ, hh⟩ := hP
  have hx := Bd.exec
  have hby := Bd.bytes
  have hml : c.maxLocals = 1 := hml0
  have hown : s.vm.findClass cPL = some m.cls := findClass_of_methodNamed Bd.named
  have hnm := (name_of_methodNamed Bd.named Bd.method).1
  have X0 : Stand p l e r25 s m #[(.ref th)] below meth c s₁ [] 0 0 := Stand.of_body Bd
  have e0 : s₁.heap = h0 := by rw [← hh, Bd.state]; rfl
  have N0 := Fr.nil n0
  refine Goes.out (l := l) (c := c) (R := r25) (Q := Q_rm_age_none Z th eo em h0 n0) Bd.notSynchronized ?_
  refine Goes.cast (g2 := mkF m 0 #[rv th] []) (by first | (simp [entryFrame, mkF, argsToLocals, Value.category]; done) | rfl) ?_
  have K0 : Keep h0 h0 [] := Keep.refl h0 _
  have hws : ∀ x ∈ ([] : List Addr), n0 ≤ x := all0
  refine gs s₁ (mkF m 1 #[rv th] [(.ref th)]) (fun _ hr => XS.aloadN X0.here hx rfl (hb hby d28_0) rfl rfl hr) ?_
  obtain ⟨T375, X375, e375, st375⟩ := getF X0 hx hZ hown (host := "") (Or.inl (tw hw 41 rfl)) Via.refl e0 F_th_records (g := (mkF m 1 #[rv th] [(.ref th)])) rfl rfl (hb hby d28_1)
  refine gs T375 (mkF m 4 #[rv th] [(.ref eo)]) st375 ?_
  refine gs T375 (mkF m 5 #[rv th] [(.ref th), (.ref eo)]) (fun _ hr => XS.aloadN X375.here hx rfl (hb hby d28_4) rfl rfl hr) ?_
  obtain ⟨T376, h376, c376, X376, e376, E376, A376, Md376, st376⟩ := own_siteMakes X375 hx hZ (x := Y30) (pc := 5) (fi := 15) (σ := sgA) Bd.named (tw hw 48 rfl) (by decide) cpA (tw hw 51 rfl) e375 (g := (mkF m 5 #[rv th] [(.ref th), (.ref eo)])) rfl rfl (by rw [hml]; rfl) (hb hby d28_5) (vals := [(.ref th)]) (rest := [(.ref eo)]) rfl rfl own_fit1 (by show 2 * 0 + 2 + 3072 ≤ _; decide) (N := 1) rfl (by decide) (by decide)
  obtain ⟨b376, g376⟩ : ∃ z, z = h0.size := ⟨_, rfl⟩
  rw [← g376] at A376 st376
  have K376 : Keep h0 h376 [] := K0.ext E376
  refine gs T376 (mkF m 10 #[rv th] [(.ref b376), (.ref eo)]) st376 ?_
  have Zs377 : n0 ≤ h376.size := Nat.le_trans Z0 K376.1
  obtain ⟨cq378, kq378, q378a, q378b, q378c⟩ := isOf hZ e376 (E_eo_old.ext (Old.keep O0 K376 hws).2)
  obtain ⟨_, _, ⟨T378, L378, k378, n378⟩, -, X378, ⟨Lc378, hQ378, l378, y378, z378⟩, st378⟩ := X376.virtualBack hx (y := Y29) (z := Y29) hown (mvT hZ (tw hw 52 rfl)) (mvT hZ (tw hw 53 rfl)) (notFace_of_selects (args := #[]) (mvT hZ (tw hw 55 rfl))) (mvT hZ (tw hw 55 rfl)) (mvT hZ (tw hw 54 rfl)) (by decide) (backOf (W := 0) (rm_map_none l Z a0 hw [] eo b376 eo h376 n0 Zs377 (Old.keep O0 K376 hws) (E_eo_old.ext (Old.keep O0 K376 hws).2) (F_eo_value_old.ext (Old.keep O0 K376 hws).2) S_Optional_EMPTY_old) hZ (tw hw 56 rfl) (tw hw 8 rfl) (by decide) (by decide)) q378a q378c (g := (mkF m 10 #[rv th] [(.ref b376), (.ref eo)])) rfl (by rw [hml]; rfl) (Steps.refl _) (argsL := [(.ref b376)]) (rest := []) (lenOf pd_16 rfl) rfl (wle rfl) (hb hby d28_10) (fun _ _ => ⟨rfl, e376, (by decide : 1 + 0 ≤ _), (by decide : 1 + 0 ≤ _)⟩)
  dsimp only [Pt.U, Pt.locs, Pt.cells, Pt.slots] at X378 l378 y378 z378 st378 hQ378
  subst l378 y378 z378
  obtain ⟨rfl, N378q, e378⟩ := hQ378
  have N378 := Fr.app N0 N378q
  refine gs T378 (mkF m 13 #[rv th] [(.ref eo)]) (fun _ hr => st378.trans hr) ?_
  have Zs379 : n0 ≤ h376.size := Nat.le_trans Z0 K376.1
  obtain ⟨_, _, ⟨T380, L380, k380, n380⟩, -, X380, ⟨Lc380, hQ380, l380, y380, z380⟩, st380⟩ := LawKit.callS X378 hx (y := Y4) hown (mvT hZ (tw hw 68 rfl)) (mvT hZ (tw hw 2 rfl)) (mvT hZ (tw hw 3 rfl)) (mvT hZ (tw hw 4 rfl)) (by decide) (backOf (W := 1) (rm_olem l Z a0 hw [] em h376 n0 Zs379 (Old.keep O0 K376 hws) S_OptionalLong_EMPTY_old) hZ (tw hw 4 rfl) (tw hw 3 rfl) (by decide) (by decide)) (g := (mkF m 13 #[rv th] [(.ref eo)])) rfl (by rw [hml]; rfl) (argsL := []) (rest := [(.ref eo)]) (lenOf pd_6 rfl) rfl (wle rfl) (hb hby d28_13) (fun _ _ => ⟨rfl, e378, (by decide : 1 + 0 ≤ _), (by decide : 1 + 0 ≤ _)⟩)
  dsimp only [Pt.U, Pt.locs, Pt.cells, Pt.slots] at X380 l380 y380 z380 st380 hQ380
  subst l380 y380 z380
  obtain ⟨rfl, N380q, e380⟩ := hQ380
  have N380 := Fr.app N378 N380q
  refine gs T380 (mkF m 16 #[rv th] [(.ref em), (.ref eo)]) st380 ?_
  have Zs381 : n0 ≤ h376.size := Nat.le_trans Z0 K376.1
  obtain ⟨cq382, kq382, q382a, q382b, q382c⟩ := isOf hZ e380 (E_eo_old.ext (Old.keep O0 K376 hws).2)
  obtain ⟨_, _, ⟨T382, L382, k382, n382⟩, -, X382, ⟨Lc382, hQ382, l382, y382, z382⟩, st382⟩ := X380.virtualBack hx (y := Y20) (z := Y20) hown (mvT hZ (tw hw 69 rfl)) (mvT hZ (tw hw 70 rfl)) (notFace_of_selects (args := #[]) (mvT hZ (tw hw 72 rfl))) (mvT hZ (tw hw 72 rfl)) (mvT hZ (tw hw 71 rfl)) (by decide) (backOf (W := 0) (rm_oore0 l Z a0 hw [] eo em h376 n0 Zs381 (Old.keep O0 K376 hws) (F_eo_value_old.ext (Old.keep O0 K376 hws).2)) hZ (tw hw 73 rfl) (tw hw 8 rfl) (by decide) (by decide)) q382a q382c (g := (mkF m 16 #[rv th] [(.ref em), (.ref eo)])) rfl (by rw [hml]; rfl) (Steps.refl _) (argsL := [(.ref em)]) (rest := []) (lenOf pd_3 rfl) rfl (wle rfl) (hb hby d28_16) (fun _ _ => ⟨rfl, e380, (by decide : 1 + 0 ≤ _), (by decide : 1 + 0 ≤ _)⟩)
  dsimp only [Pt.U, Pt.locs, Pt.cells, Pt.slots] at X382 l382 y382 z382 st382 hQ382
  subst l382 y382 z382
  obtain ⟨rfl, N382q, e382⟩ := hQ382
  have N382 := Fr.app N380 N382q
  refine gs T382 (mkF m 19 #[rv th] [(.ref em)]) (fun _ hr => st382.trans hr) ?_
  obtain ⟨T383, X383, e383, st383⟩ := castY X382 hx hZ hown (tw hw 74 rfl) e382 (Ins.self (E_em_old.ext (Old.keep O0 K376 hws).2)) (g := (mkF m 19 #[rv th] [(.ref em)])) rfl rfl (hb hby d28_19)
  refine gs T383 (mkF m 22 #[rv th] [(.ref em)]) st383 ?_
  exact Goes.ret (v := some (.ref em)) X383 (by decide) (by decide) (fun h => by rw [Bd.returns] at h; cases h) (by show Q_rm_age_none Z th eo em h0 n0 _ T383.heap _; rw [e383]; exact ⟨rfl, N382, K376⟩) (fun fs hr => retOut X383 hx Bd.returns rfl (Or.inr (Or.inr (Or.inr (Or.inr ⟨rfl, rfl, rfl⟩)))) (hb hby d28_22) hr)
theorem d29_0 : decode prog_13_method_1_code 0 = .ok (.aload_n 0, 1) := by decide +kernel
theorem d29_1 : decode prog_13_method_1_code 1 = .ok (.invokespecial 1, 3) := by decide +kernel
theorem d29_4 : decode prog_13_method_1_code 4 = .ok (.aload 5, 2) := by decide +kernel
theorem d29_6 : decode prog_13_method_1_code 6 = .ok (.ldc 7, 2) := by decide +kernel
theorem d29_8 : decode prog_13_method_1_code 8 = .ok (.invokestatic 9, 3) := by decide +kernel
theorem d29_11 : decode prog_13_method_1_code 11 = .ok (.pop, 1) := by decide +kernel
theorem d29_12 : decode prog_13_method_1_code 12 = .ok (.aload_n 0, 1) := by decide +kernel
theorem d29_13 : decode prog_13_method_1_code 13 = .ok (.lload_n 1, 1) := by decide +kernel
theorem d29_14 : decode prog_13_method_1_code 14 = .ok (.putfield 15, 3) := by decide +kernel
theorem d29_17 : decode prog_13_method_1_code 17 = .ok (.aload_n 0, 1) := by decide +kernel
theorem d29_18 : decode prog_13_method_1_code 18 = .ok (.lload_n 3, 1) := by decide +kernel
theorem d29_19 : decode prog_13_method_1_code 19 = .ok (.putfield 21, 3) := by decide +kernel
theorem d29_22 : decode prog_13_method_1_code 22 = .ok (.aload_n 0, 1) := by decide +kernel
theorem d29_23 : decode prog_13_method_1_code 23 = .ok (.aload 5, 2) := by decide +kernel
theorem d29_25 : decode prog_13_method_1_code 25 = .ok (.putfield 24, 3) := by decide +kernel
theorem d29_28 : decode prog_13_method_1_code 28 = .ok (.return_, 1) := by decide +kernel
def Q_rm_pinit (Z : State) (a1 : Addr) (q1 : Int64) (q2 : Int64) (op : Addr) (h0 : Heap) (n0 : Nat) (v : Option Value) (h : Heap) (L : List Loc) : Prop := v = none ∧ Fr n0 L ∧ Keep h0 h [a1] ∧ Fld Z h a1 cPL "offset" "J" (.long q1) ∧ Fld Z h a1 cPL "end" "J" (.long q2) ∧ Fld Z h a1 cPL "records" dOP (.ref op)
set_option maxRecDepth 65536 in
set_option maxHeartbeats 40000000 in
theorem rm_pinit (l : Launch) (Z : State) (a0 : Array Value) (hw : ∀ d ∈ tables_1, d.before a0 Z = true) (ws : List Jvm.Cond) (a1 : Addr) (q1 : Int64) (q2 : Int64) (op : Addr) (h0 : Heap) (n0 : Nat) (Z0 : n0 ≤ h0.size) (O0 : Old Z n0 h0) (E_a1 : Exa Z h0 a1 cPL) (F_a1_offset : Fld Z h0 a1 cPL "offset" "J" (.long (0 : Int64))) (F_a1_end : Fld Z h0 a1 cPL "end" "J" (.long (0 : Int64))) (F_a1_records : Fld Z h0 a1 cPL "records" dOP .null) (ge_a1 : n0 ≤ a1) :
    MetFree l Y31 (head1 (Cond.code Y31 prog_13_method_1_code 6 none :: ws) r26) (fun a U => a = #[(.ref a1), (.long q1), (.long q2), (.ref op)] ∧ Z.Warmed39 U.vm ∧ U.heap = h0) (fun _ _ _ _ _ => True) (fun _ U o U' => ∃ v L, o = .returned v ∧ Q_rm_pinit Z a1 q1 q2 op h0 n0 v U'.heap L ∧ ReturnedEndW U o U' L r26.cells r26.slots) := by
  refine MetFree.of_bodySF (plainFor_of_name pn_com_example_log_lag_gauge_loglaggauge_model_PositionLag) hisR ?_
  intro p e s m args below meth c s₁ Bd hml0 hP hK
  obtain ⟨rfl, hZ, hh⟩ := hP
  have hx := Bd.exec
  have hby := Bd.bytes
  have hml : c.maxLocals = 6 := hml0
  have hown : s.vm.findClass cPL = some m.cls := findClass_of_methodNamed Bd.named
  have hnm := (name_of_methodNamed Bd.named Bd.method).1
  have X0 : Stand p l e r26 (s.setVm s.vm) m #[(.ref a1), (.long q1), (.long q2), (.ref op)] below meth c s₁ [] 0 0 := Stand.of_body Bd
  have e0 : s₁.heap = h0 := by rw [← hh, Bd.state]; rfl
  have N0 := Fr.nil n0
  refine GoesW.out (l := l) (c := c) (R := r26) (Q := Q_rm_pinit Z a1 q1 q2 op h0 n0) Bd.notSynchronized ?_
  refine GoesW.cast (g2 := mkF m 0 #[rv a1, .val (.long q1), .second, .val (.long q2), .second, rv op] []) (by first | (simp [entryFrame, mkF, argsToLocals, Value.category]; done) | rfl) ?_
  have K0 : Keep h0 h0 [a1] := Keep.refl h0 _
  have hws : ∀ x ∈ [a1], n0 ≤ x := (allS ge_a1 all0)
  have Sn0 : s.Since s.vm 0 := (State.WarmedH.refl s).since 0
  have kle0 : 0 ≤ h0.size := Nat.zero_le _
  have wSA := own_wsa hw
  refine gsW s₁ (mkF m 1 #[rv a1, .val (.long q1), .second, .val (.long q2), .second, rv op] [(.ref a1)]) (fun _ hr => XS.aloadN X0.here hx rfl (hb hby d29_0) rfl rfl hr) ?_
  have Zs384 : n0 ≤ h0.size := Nat.le_trans Z0 K0.1
  obtain ⟨_, _, ⟨T385, L385, k385, n385⟩, -, X385, ⟨Lc385, hQ385, l385, y385, z385⟩, st385⟩ := X0.specialBack hx (y := Y10) rfl hown (mvT hZ (tw hw 17 rfl)) (mvT hZ (tw hw 18 rfl)) (mvT hZ (tw hw 21 rfl)) (by decide) (backOf (W := 0) (rm_rec l Z a0 hw [] a1 h0 n0 Zs384 (Old.keep O0 K0 hws)) hZ (tw hw 21 rfl) (tw hw 20 rfl) (by decide) (by decide)) (g := (mkF m 1 #[rv a1, .val (.long q1), .second, .val (.long q2), .second, rv op] [(.ref a1)])) rfl (by rw [hml]; rfl) (Steps.refl _) (a := a1) (argsL := []) (rest := []) (lenOf pd_17 rfl) rfl (wle rfl) (hb hby d29_1) (fun _ _ => ⟨rfl, e0, (by decide : 0 + 0 ≤ _), (by decide : 0 + 0 ≤ _)⟩)
  dsimp only [Pt.U, Pt.locs, Pt.cells, Pt.slots] at X385 l385 y385 z385 st385 hQ385
  subst l385 y385 z385
  obtain ⟨rfl, N385q, e385⟩ := hQ385
  have N385 := Fr.app N0 N385q
  refine gsW T385 (mkF m 4 #[rv a1, .val (.long q1), .second, .val (.long q2), .second, rv op] []) (fun _ hr => st385.trans hr) ?_
  refine gsW T385 (mkF m 6 #[rv a1, .val (.long q1), .second, .val (.long q2), .second, rv op] [(.ref op)]) (fun _ hr => XS.aload X385.here hx rfl (hb hby d29_4) rfl rfl hr) ?_
  obtain ⟨a386, T386, h386, j386, X386, e386, E386, Sn386, kle386q, hZ386, hown386, st386⟩ := ldcS X385 hx hZ hown (tw hw 25 rfl) wSA e385 Sn0 kle0 (g := (mkF m 6 #[rv a1, .val (.long q1), .second, .val (.long q2), .second, rv op] [(.ref op)])) rfl (hb hby d29_6) (n := 28) (by decide) (by decide) (by decide) (by decide)
  have E_a1_386 : Exa Z h386 a1 cPL := E_a1.ext E386
  have F_a1_offset_386 : Fld Z h386 a1 cPL "offset" "J" (.long (0 : Int64)) := F_a1_offset.ext E386
  have F_a1_end_386 : Fld Z h386 a1 cPL "end" "J" (.long (0 : Int64)) := F_a1_end.ext E386
  have F_a1_records_386 : Fld Z h386 a1 cPL "records" dOP .null := F_a1_records.ext E386
  have K386 : Keep h0 h386 [a1] := K0.ext E386
  refine gsW T386 (mkF m 8 #[rv a1, .val (.long q1), .second, .val (.long q2), .second, rv op] [(.ref a386), (.ref op)]) st386 ?_
  have Zs387 : n0 ≤ h386.size := Nat.le_trans Z0 K386.1
  obtain ⟨_, _, ⟨T388, L388, k388, n388⟩, -, X388, ⟨Lc388, hQ388, l388, y388, z388⟩, st388⟩ := LawKit.callS X386 hx (y := Y9) hown386 (mvT hZ386 (tw hw 33 rfl)) (mvT hZ386 (tw hw 34 rfl)) (mvT hZ386 (tw hw 35 rfl)) (mvT hZ386 (tw hw 36 rfl)) (by decide) (backOf (W := 0) (rm_rnn2 l Z a0 hw [] op a386 h386 n0 Zs387 (Old.keep O0 K386 hws)) hZ386 (tw hw 36 rfl) (tw hw 35 rfl) (by decide) (by decide)) (g := (mkF m 8 #[rv a1, .val (.long q1), .second, .val (.long q2), .second, rv op] [(.ref a386), (.ref op)])) rfl (by rw [hml]; rfl) (argsL := [(.ref op), (.ref a386)]) (rest := []) (lenOf pd_18 rfl) rfl (wle rfl) (hb hby d29_8) (fun _ _ => ⟨rfl, e386, (by decide : 2 + 0 ≤ _), (by decide : 32 + 0 ≤ _)⟩)
  dsimp only [Pt.U, Pt.locs, Pt.cells, Pt.slots] at X388 l388 y388 z388 st388 hQ388
  subst l388 y388 z388
  obtain ⟨rfl, N388q, e388⟩ := hQ388
  have N388 := Fr.app N385 N388q
  refine gsW T388 (mkF m 11 #[rv a1, .val (.long q1), .second, .val (.long q2), .second, rv op] [(.ref op)]) st388 ?_
  refine gsW T388 (mkF m 12 #[rv a1, .val (.long q1), .second, .val (.long q2), .second, rv op] []) (fun _ hr => XT.pop X388.here hx rfl (hb hby d29_11) rfl rfl hr) ?_
  refine gsW T388 (mkF m 13 #[rv a1, .val (.long q1), .second, .val (.long q2), .second, rv op] [(.ref a1)]) (fun _ hr => XS.aloadN X388.here hx rfl (hb hby d29_12) rfl rfl hr) ?_
  refine gsW T388 (mkF m 14 #[rv a1, .val (.long q1), .second, .val (.long q2), .second, rv op] [(.long q1), (.ref a1)]) (fun _ hr => XT.lloadN X388.here hx rfl (hb hby d29_13) rfl hr) ?_
  obtain ⟨T389, h389, X389, e389, W389, st389⟩ := putF X388 hx hZ386 hown386 (host := "") (Or.inl (tw hw 37 rfl)) Via.refl e388 F_a1_offset_386 E_a1_386 (Or.inr ⟨(tw hw 38 rfl), rfl, hnm⟩) (tw hw 12 rfl) (ty := .long) (by decide) rfl rfl (g := (mkF m 14 #[rv a1, .val (.long q1), .second, .val (.long q2), .second, rv op] [(.long q1), (.ref a1)])) rfl rfl (hb hby d29_14)
  have E_a1_389 : Exa Z h389 a1 cPL := E_a1_386.wr W389
  have F_a1_end_389 : Fld Z h389 a1 cPL "end" "J" (.long (0 : Int64)) := F_a1_end_386.other W389 (Or.inr (slot_ne (Or.inr (tw hw 40 rfl)) (Or.inr (tw hw 38 rfl)) (by decide) (t := .long) (t' := .long) (by decide) (by decide)))
  have F_a1_records_389 : Fld Z h389 a1 cPL "records" dOP .null := F_a1_records_386.other W389 (Or.inr (slot_ne (Or.inr (tw hw 42 rfl)) (Or.inr (tw hw 38 rfl)) (by decide) (t := (.object cOP)) (t' := .long) (by decide) (by decide)))
  have K389 : Keep h0 h389 [a1] := K386.wr W389 (Or.inl (List.mem_of_getElem? (i := 0) rfl))
  have kle389 : j386 ≤ h389.size := Nat.le_trans kle386q (Nat.le_of_eq W389.size.symm)
  have N389 := Fr.snoc X389 N388 ge_a1
  have F_a1_offset_389 : Fld Z h389 a1 cPL "offset" "J" (.long q1) := F_a1_offset_386.same W389
  refine gsW T389 (mkF m 17 #[rv a1, .val (.long q1), .second, .val (.long q2), .second, rv op] []) st389 ?_
  refine gsW T389 (mkF m 18 #[rv a1, .val (.long q1), .second, .val (.long q2), .second, rv op] [(.ref a1)]) (fun _ hr => XS.aloadN X389.here hx rfl (hb hby d29_17) rfl rfl hr) ?_
  refine gsW T389 (mkF m 19 #[rv a1, .val (.long q1), .second, .val (.long q2), .second, rv op] [(.long q2), (.ref a1)]) (fun _ hr => XT.lloadN X389.here hx rfl (hb hby d29_18) rfl hr) ?_
  obtain ⟨T390, h390, X390, e390, W390, st390⟩ := putF X389 hx hZ386 hown386 (host := "") (Or.inl (tw hw 39 rfl)) Via.refl e389 F_a1_end_389 E_a1_389 (Or.inr ⟨(tw hw 40 rfl), rfl, hnm⟩) (tw hw 12 rfl) (ty := .long) (by decide) rfl rfl (g := (mkF m 19 #[rv a1, .val (.long q1), .second, .val (.long q2), .second, rv op] [(.long q2), (.ref a1)])) rfl rfl (hb hby d29_19)
  have E_a1_390 : Exa Z h390 a1 cPL := E_a1_389.wr W390
  have F_a1_records_390 : Fld Z h390 a1 cPL "records" dOP .null := F_a1_records_389.other W390 (Or.inr (slot_ne (Or.inr (tw hw 42 rfl)) (Or.inr (tw hw 40 rfl)) (by decide) (t := (.object cOP)) (t' := .long) (by decide) (by decide)))
  have F_a1_offset_390 : Fld Z h390 a1 cPL "offset" "J" (.long q1) := F_a1_offset_389.other W390 (Or.inr (slot_ne (Or.inr (tw hw 38 rfl)) (Or.inr (tw hw 40 rfl)) (by decide) (t := .long) (t' := .long) (by decide) (by decide)))
  have K390 : Keep h0 h390 [a1] := K389.wr W390 (Or.inl (List.mem_of_getElem? (i := 0) rfl))
  have kle390 : j386 ≤ h390.size := Nat.le_trans kle389 (Nat.le_of_eq W390.size.symm)
  have N390 := Fr.snoc X390 N389 ge_a1
  have F_a1_end_390 : Fld Z h390 a1 cPL "end" "J" (.long q2) := F_a1_end_389.same W390
  refine gsW T390 (mkF m 22 #[rv a1, .val (.long q1), .second, .val (.long q2), .second, rv op] []) st390 ?_
  refine gsW T390 (mkF m 23 #[rv a1, .val (.long q1), .second, .val (.long q2), .second, rv op] [(.ref a1)]) (fun _ hr => XS.aloadN X390.here hx rfl (hb hby d29_22) rfl rfl hr) ?_
  refine gsW T390 (mkF m 25 #[rv a1, .val (.long q1), .second, .val (.long q2), .second, rv op] [(.ref op), (.ref a1)]) (fun _ hr => XS.aload X390.here hx rfl (hb hby d29_23) rfl rfl hr) ?_
  obtain ⟨T391, h391, X391, e391, W391, st391⟩ := putF X390 hx hZ386 hown386 (host := "") (Or.inl (tw hw 41 rfl)) Via.refl e390 F_a1_records_390 E_a1_390 (Or.inr ⟨(tw hw 42 rfl), rfl, hnm⟩) (tw hw 12 rfl) (ty := (.object cOP)) (by decide) rfl rfl (g := (mkF m 25 #[rv a1, .val (.long q1), .second, .val (.long q2), .second, rv op] [(.ref op), (.ref a1)])) rfl rfl (hb hby d29_25)
  have F_a1_offset_391 : Fld Z h391 a1 cPL "offset" "J" (.long q1) := F_a1_offset_390.other W391 (Or.inr (slot_ne (Or.inr (tw hw 38 rfl)) (Or.inr (tw hw 42 rfl)) (by decide) (t := .long) (t' := (.object cOP)) (by decide) (by decide)))
  have F_a1_end_391 : Fld Z h391 a1 cPL "end" "J" (.long q2) := F_a1_end_390.other W391 (Or.inr (slot_ne (Or.inr (tw hw 40 rfl)) (Or.inr (tw hw 42 rfl)) (by decide) (t := .long) (t' := (.object cOP)) (by decide) (by decide)))
  have K391 : Keep h0 h391 [a1] := K390.wr W391 (Or.inl (List.mem_of_getElem? (i := 0) rfl))
  have kle391 : j386 ≤ h391.size := Nat.le_trans kle390 (Nat.le_of_eq W391.size.symm)
  have N391 := Fr.snoc X391 N390 ge_a1
  have F_a1_records_391 : Fld Z h391 a1 cPL "records" dOP (.ref op) := F_a1_records_390.same W391
  refine gsW T391 (mkF m 28 #[rv a1, .val (.long q1), .second, .val (.long q2), .second, rv op] []) st391 ?_
  exact GoesW.ret (v := none) X391 Sn386 (by rw [e391]; exact kle391) (by decide) (by decide) (fun _ => rfl) (by show Q_rm_pinit Z a1 q1 q2 op h0 n0 _ T391.heap _; rw [e391]; exact ⟨rfl, N391, K391, F_a1_offset_391, F_a1_end_391, F_a1_records_391⟩) (fun fs hr => X391.returnOut hx Bd.returns (hb hby d29_28) hr)
theorem d30_0 : decode prog_14_method_1_code 0 = .ok (.aload_n 0, 1) := by decide +kernel
theorem d30_1 : decode prog_14_method_1_code 1 = .ok (.invokespecial 1, 3) := by decide +kernel
theorem d30_4 : decode prog_14_method_1_code 4 = .ok (.aload_n 2, 1) := by decide +kernel
theorem d30_5 : decode prog_14_method_1_code 5 = .ok (.ldc 7, 2) := by decide +kernel
theorem d30_7 : decode prog_14_method_1_code 7 = .ok (.invokestatic 9, 3) := by decide +kernel
theorem d30_10 : decode prog_14_method_1_code 10 = .ok (.pop, 1) := by decide +kernel
theorem d30_11 : decode prog_14_method_1_code 11 = .ok (.aload_n 3, 1) := by decide +kernel
theorem d30_12 : decode prog_14_method_1_code 12 = .ok (.ldc 15, 2) := by decide +kernel
theorem d30_14 : decode prog_14_method_1_code 14 = .ok (.invokestatic 9, 3) := by decide +kernel
theorem d30_17 : decode prog_14_method_1_code 17 = .ok (.pop, 1) := by decide +kernel
theorem d30_18 : decode prog_14_method_1_code 18 = .ok (.aload_n 0, 1) := by decide +kernel
theorem d30_19 : decode prog_14_method_1_code 19 = .ok (.iload_n 1, 1) := by decide +kernel
theorem d30_20 : decode prog_14_method_1_code 20 = .ok (.putfield 17, 3) := by decide +kernel
theorem d30_23 : decode prog_14_method_1_code 23 = .ok (.aload_n 0, 1) := by decide +kernel
theorem d30_24 : decode prog_14_method_1_code 24 = .ok (.aload_n 2, 1) := by decide +kernel
theorem d30_25 : decode prog_14_method_1_code 25 = .ok (.putfield 23, 3) := by decide +kernel
theorem d30_28 : decode prog_14_method_1_code 28 = .ok (.aload_n 0, 1) := by decide +kernel
theorem d30_29 : decode prog_14_method_1_code 29 = .ok (.aload_n 3, 1) := by decide +kernel
theorem d30_30 : decode prog_14_method_1_code 30 = .ok (.putfield 26, 3) := by decide +kernel
theorem d30_33 : decode prog_14_method_1_code 33 = .ok (.aload_n 0, 1) := by decide +kernel
theorem d30_34 : decode prog_14_method_1_code 34 = .ok (.lload 4, 2) := by decide +kernel
theorem d30_36 : decode prog_14_method_1_code 36 = .ok (.putfield 28, 3) := by decide +kernel
theorem d30_39 : decode prog_14_method_1_code 39 = .ok (.return_, 1) := by decide +kernel
def Q_rm_rinit0 (Z : State) (a1 : Addr) (fu : Addr) (nw : Addr) (q4 : Int64) (h0 : Heap) (n0 : Nat) (v : Option Value) (h : Heap) (L : List Loc) : Prop := v = none ∧ Fr n0 L ∧ Keep h0 h [a1] ∧ Fld Z h a1 cRR nOM "Z" (.int (0 : Int32)) ∧ Fld Z h a1 cRR nLT dOL (.ref fu) ∧ Fld Z h a1 cRR nNT dOL (.ref nw) ∧ Fld Z h a1 cRR "lookedAt" "J" (.long q4)
set_option maxRecDepth 65536 in
set_option maxHeartbeats 40000000 in
theorem rm_rinit0 (l : Launch) (Z : State) (a0 : Array Value) (hw : ∀ d ∈ tables_1, d.before a0 Z = true) (ws : List Jvm.Cond) (a1 : Addr) (fu : Addr) (nw : Addr) (q4 : Int64) (h0 : Heap) (n0 : Nat) (Z0 : n0 ≤ h0.size) (O0 : Old Z n0 h0) (E_a1 : Exa Z h0 a1 cRR) (F_a1_onlyMarkersLeft : Fld Z h0 a1 cRR nOM "Z" (.int (0 : Int32))) (F_a1_firstUnreadTimestamp : Fld Z h0 a1 cRR nLT dOL .null) (F_a1_newestTimestamp : Fld Z h0 a1 cRR nNT dOL .null) (F_a1_lookedAt : Fld Z h0 a1 cRR "lookedAt" "J" (.long (0 : Int64))) (ge_a1 : n0 ≤ a1) :
    MetFree l Y32 (head1 (Cond.code Y32 prog_14_method_1_code 6 none :: ws) r27) (fun a U => a = #[(.ref a1), (.int (0 : Int32)), (.ref fu), (.ref nw), (.long q4)] ∧ Z.Warmed39 U.vm ∧ U.heap = h0) (fun _ _ _ _ _ => True) (fun _ U o U' => ∃ v L, o = .returned v ∧ Q_rm_rinit0 Z a1 fu nw q4 h0 n0 v U'.heap L ∧ ReturnedEndW U o U' L r27.cells r27.slots) := by
  refine MetFree.of_bodySF (plainFor_of_name pn_com_example_log_lag_gauge_loglaggauge_model_PositionLag_RecordsRead) hisR ?_
  intro p e s m args below meth c s₁ Bd hml0 hP hK
  obtain ⟨rfl, hZ, hh⟩ := hP
  have hx := Bd.exec
  have hby := Bd.bytes
  have hml : c.maxLocals = 6 := hml0
  have hown : s.vm.findClass cRR = some m.cls := findClass_of_methodNamed Bd.named
  have hnm := (name_of_methodNamed Bd.named Bd.method).1
  have X0 : Stand p l e r27 (s.setVm s.vm) m #[(.ref a1), (.int (0 : Int32)), (.ref fu), (.ref nw), (.long q4)] below meth c s₁ [] 0 0 := Stand.of_body Bd
  have e0 : s₁.heap = h0 := by rw [← hh, Bd.state]; rfl
  have N0 := Fr.nil n0
  refine GoesW.out (l := l) (c := c) (R := r27) (Q := Q_rm_rinit0 Z a1 fu nw q4 h0 n0) Bd.notSynchronized ?_
  refine GoesW.cast (g2 := mkF m 0 #[rv a1, iv 0, rv fu, rv nw, .val (.long q4), .second] []) (by first | (simp [entryFrame, mkF, argsToLocals, Value.category]; done) | rfl) ?_
  have K0 : Keep h0 h0 [a1] := Keep.refl h0 _
  have hws : ∀ x ∈ [a1], n0 ≤ x := (allS ge_a1 all0)
  have Sn0 : s.Since s.vm 0 := (State.WarmedH.refl s).since 0
  have kle0 : 0 ≤ h0.size := Nat.zero_le _
  have wSA := own_wsa hw
  refine gsW s₁ (mkF m 1 #[rv a1, iv 0, rv fu, rv nw, .val (.long q4), .second] [(.ref a1)]) (fun _ hr => XS.aloadN X0.here hx rfl (hb hby d30_0) rfl rfl hr) ?_
  have Zs392 : n0 ≤ h0.size := Nat.le_trans Z0 K0.1
  obtain ⟨_, _, ⟨T393, L393, k393, n393⟩, -, X393, ⟨Lc393, hQ393, l393, y393, z393⟩, st393⟩ := X0.specialBack hx (y := Y10) rfl hown (mvT hZ (tw hw 100 rfl)) (mvT hZ (tw hw 18 rfl)) (mvT hZ (tw hw 21 rfl)) (by decide) (backOf (W := 0) (rm_rec l Z a0 hw [] a1 h0 n0 Zs392 (Old.keep O0 K0 hws)) hZ (tw hw 21 rfl) (tw hw 20 rfl) (by decide) (by decide)) (g := (mkF m 1 #[rv a1, iv 0, rv fu, rv nw, .val (.long q4), .second] [(.ref a1)])) rfl (by rw [hml]; rfl) (Steps.refl _) (a := a1) (argsL := []) (rest := []) (lenOf pd_17 rfl) rfl (wle rfl) (hb hby d30_1) (fun _ _ => ⟨rfl, e0, (by decide : 0 + 0 ≤ _), (by decide : 0 + 0 ≤ _)⟩)
  dsimp only [Pt.U, Pt.locs, Pt.cells, Pt.slots] at X393 l393 y393 z393 st393 hQ393
  subst l393 y393 z393
  obtain ⟨rfl, N393q, e393⟩ := hQ393
  have N393 := Fr.app N0 N393q
  refine gsW T393 (mkF m 4 #[rv a1, iv 0, rv fu, rv nw, .val (.long q4), .second] []) (fun _ hr => st393.trans hr) ?_
  refine gsW T393 (mkF m 5 #[rv a1, iv 0, rv fu, rv nw, .val (.long q4), .second] [(.ref fu)]) (fun _ hr => XS.aloadN X393.here hx rfl (hb hby d30_4) rfl rfl hr) ?_
  obtain ⟨a394, T394, h394, j394, X394, e394, E394, Sn394, kle394q, hZ394, hown394, st394⟩ := ldcS X393 hx hZ hown (tw hw 101 rfl) wSA e393 Sn0 kle0 (g := (mkF m 5 #[rv a1, iv 0, rv fu, rv nw, .val (.long q4), .second] [(.ref fu)])) rfl (hb hby d30_5) (n := 80) (by decide) (by decide) (by decide) (by decide)
  have E_a1_394 : Exa Z h394 a1 cRR := E_a1.ext E394
  have F_a1_onlyMarkersLeft_394 : Fld Z h394 a1 cRR nOM "Z" (.int (0 : Int32)) := F_a1_onlyMarkersLeft.ext E394
  have F_a1_firstUnreadTimestamp_394 : Fld Z h394 a1 cRR nLT dOL .null := F_a1_firstUnreadTimestamp.ext E394
  have F_a1_newestTimestamp_394 : Fld Z h394 a1 cRR nNT dOL .null := F_a1_newestTimestamp.ext E394
  have F_a1_lookedAt_394 : Fld Z h394 a1 cRR "lookedAt" "J" (.long (0 : Int64)) := F_a1_lookedAt.ext E394
  have K394 : Keep h0 h394 [a1] := K0.ext E394
  refine gsW T394 (mkF m 7 #[rv a1, iv 0, rv fu, rv nw, .val (.long q4), .second] [(.ref a394), (.ref fu)]) st394 ?_
  have Zs395 : n0 ≤ h394.size := Nat.le_trans Z0 K394.1
  obtain ⟨_, _, ⟨T396, L396, k396, n396⟩, -, X396, ⟨Lc396, hQ396, l396, y396, z396⟩, st396⟩ := LawKit.callS X394 hx (y := Y9) hown394 (mvT hZ394 (tw hw 102 rfl)) (mvT hZ394 (tw hw 34 rfl)) (mvT hZ394 (tw hw 35 rfl)) (mvT hZ394 (tw hw 36 rfl)) (by decide) (backOf (W := 0) (rm_rnn2 l Z a0 hw [] fu a394 h394 n0 Zs395 (Old.keep O0 K394 hws)) hZ394 (tw hw 36 rfl) (tw hw 35 rfl) (by decide) (by decide)) (g := (mkF m 7 #[rv a1, iv 0, rv fu, rv nw, .val (.long q4), .second] [(.ref a394), (.ref fu)])) rfl (by rw [hml]; rfl) (argsL := [(.ref fu), (.ref a394)]) (rest := []) (lenOf pd_18 rfl) rfl (wle rfl) (hb hby d30_7) (fun _ _ => ⟨rfl, e394, (by decide : 2 + 0 ≤ _), (by decide : 84 + 0 ≤ _)⟩)
  dsimp only [Pt.U, Pt.locs, Pt.cells, Pt.slots] at X396 l396 y396 z396 st396 hQ396
  subst l396 y396 z396
  obtain ⟨rfl, N396q, e396⟩ := hQ396
  have N396 := Fr.app N393 N396q
  refine gsW T396 (mkF m 10 #[rv a1, iv 0, rv fu, rv nw, .val (.long q4), .second] [(.ref fu)]) st396 ?_
  refine gsW T396 (mkF m 11 #[rv a1, iv 0, rv fu, rv nw, .val (.long q4), .second] []) (fun _ hr => XT.pop X396.here hx rfl (hb hby d30_10) rfl rfl hr) ?_
  refine gsW T396 (mkF m 12 #[rv a1, iv 0, rv fu, rv nw, .val (.long q4), .second] [(.ref nw)]) (fun _ hr => XS.aloadN X396.here hx rfl (hb hby d30_11) rfl rfl hr) ?_
  obtain ⟨a397, T397, h397, j397, X397, e397, E397, Sn397, kle397q, hZ397, hown397, st397⟩ := ldcS X396 hx hZ394 hown394 (tw hw 103 rfl) wSA e396 Sn394 kle394q (g := (mkF m 12 #[rv a1, iv 0, rv fu, rv nw, .val (.long q4), .second] [(.ref nw)])) rfl (hb hby d30_12) (n := 60) (by decide) (by decide) (by decide) (by decide)
  have E_a1_397 : Exa Z h397 a1 cRR := E_a1_394.ext E397
  have F_a1_onlyMarkersLeft_397 : Fld Z h397 a1 cRR nOM "Z" (.int (0 : Int32)) := F_a1_onlyMarkersLeft_394.ext E397
  have F_a1_firstUnreadTimestamp_397 : Fld Z h397 a1 cRR nLT dOL .null := F_a1_firstUnreadTimestamp_394.ext E397
  have F_a1_newestTimestamp_397 : Fld Z h397 a1 cRR nNT dOL .null := F_a1_newestTimestamp_394.ext E397
  have F_a1_lookedAt_397 : Fld Z h397 a1 cRR "lookedAt" "J" (.long (0 : Int64)) := F_a1_lookedAt_394.ext E397
  have K397 : Keep h0 h397 [a1] := K394.ext E397
  refine gsW T397 (mkF m 14 #[rv a1, iv 0, rv fu, rv nw, .val (.long q4), .second] [(.ref a397), (.ref nw)]) st397 ?_
  have Zs398 : n0 ≤ h397.size := Nat.le_trans Z0 K397.1
  obtain ⟨_, _, ⟨T399, L399, k399, n399⟩, -, X399, ⟨Lc399, hQ399, l399, y399, z399⟩, st399⟩ := LawKit.callS X397 hx (y := Y9) hown397 (mvT hZ397 (tw hw 102 rfl)) (mvT hZ397 (tw hw 34 rfl)) (mvT hZ397 (tw hw 35 rfl)) (mvT hZ397 (tw hw 36 rfl)) (by decide) (backOf (W := 0) (rm_rnn2 l Z a0 hw [] nw a397 h397 n0 Zs398 (Old.keep O0 K397 hws)) hZ397 (tw hw 36 rfl) (tw hw 35 rfl) (by decide) (by decide)) (g := (mkF m 14 #[rv a1, iv 0, rv fu, rv nw, .val (.long q4), .second] [(.ref a397), (.ref nw)])) rfl (by rw [hml]; rfl) (argsL := [(.ref nw), (.ref a397)]) (rest := []) (lenOf pd_18 rfl) rfl (wle rfl) (hb hby d30_14) (fun _ _ => ⟨rfl, e397, (by decide : 4 + 0 ≤ _), (by decide : 148 + 0 ≤ _)⟩)
  dsimp only [Pt.U, Pt.locs, Pt.cells, Pt.slots] at X399 l399 y399 z399 st399 hQ399
  subst l399 y399 z399
  obtain ⟨rfl, N399q, e399⟩ := hQ399
  have N399 := Fr.app N396 N399q
  refine gsW T399 (mkF m 17 #[rv a1, iv 0, rv fu, rv nw, .val (.long q4), .second] [(.ref nw)]) st399 ?_
  refine gsW T399 (mkF m 18 #[rv a1, iv 0, rv fu, rv nw, .val (.long q4), .second] []) (fun _ hr => XT.pop X399.here hx rfl (hb hby d30_17) rfl rfl hr) ?_
  refine gsW T399 (mkF m 19 #[rv a1, iv 0, rv fu, rv nw, .val (.long q4), .second] [(.ref a1)]) (fun _ hr => XS.aloadN X399.here hx rfl (hb hby d30_18) rfl rfl hr) ?_
  refine gsW T399 (mkF m 20 #[rv a1, iv 0, rv fu, rv nw, .val (.long q4), .second] [(.int (0 : Int32)), (.ref a1)]) (fun _ hr => XS.iloadN X399.here hx rfl (hb hby d30_19) rfl  hr) ?_
  obtain ⟨T400, h400, X400, e400, W400, st400⟩ := putFN X399 hx hZ397 hown397 (tw hw 104 rfl) Via.refl e399 F_a1_onlyMarkersLeft_397 E_a1_397 (Or.inr ⟨(tw hw 105 rfl), rfl, hnm⟩) (tw hw 95 rfl) (ty := .boolean) (v' := (.int (0 : Int32))) (by decide) rfl rfl (g := (mkF m 20 #[rv a1, iv 0, rv fu, rv nw, .val (.long q4), .second] [(.int (0 : Int32)), (.ref a1)])) rfl rfl (hb hby d30_20)
  have E_a1_400 : Exa Z h400 a1 cRR := E_a1_397.wr W400
  have F_a1_firstUnreadTimestamp_400 : Fld Z h400 a1 cRR nLT dOL .null := F_a1_firstUnreadTimestamp_397.other W400 (Or.inr (slot_ne (Or.inr (tw hw 107 rfl)) (Or.inr (tw hw 105 rfl)) (by decide) (t := (.object cOL)) (t' := .boolean) (by decide) (by decide)))
  have F_a1_newestTimestamp_400 : Fld Z h400 a1 cRR nNT dOL .null := F_a1_newestTimestamp_397.other W400 (Or.inr (slot_ne (Or.inr (tw hw 109 rfl)) (Or.inr (tw hw 105 rfl)) (by decide) (t := (.object cOL)) (t' := .boolean) (by decide) (by decide)))
  have F_a1_lookedAt_400 : Fld Z h400 a1 cRR "lookedAt" "J" (.long (0 : Int64)) := F_a1_lookedAt_397.other W400 (Or.inr (slot_ne (Or.inr (tw hw 111 rfl)) (Or.inr (tw hw 105 rfl)) (by decide) (t := .long) (t' := .boolean) (by decide) (by decide)))
  have K400 : Keep h0 h400 [a1] := K397.wr W400 (Or.inl (List.mem_of_getElem? (i := 0) rfl))
  have kle400 : j397 ≤ h400.size := Nat.le_trans kle397q (Nat.le_of_eq W400.size.symm)
  have N400 := Fr.snoc X400 N399 ge_a1
  have F_a1_onlyMarkersLeft_400 : Fld Z h400 a1 cRR nOM "Z" (.int (0 : Int32)) := F_a1_onlyMarkersLeft_397.same W400
  refine gsW T400 (mkF m 23 #[rv a1, iv 0, rv fu, rv nw, .val (.long q4), .second] []) st400 ?_
  refine gsW T400 (mkF m 24 #[rv a1, iv 0, rv fu, rv nw, .val (.long q4), .second] [(.ref a1)]) (fun _ hr => XS.aloadN X400.here hx rfl (hb hby d30_23) rfl rfl hr) ?_
  refine gsW T400 (mkF m 25 #[rv a1, iv 0, rv fu, rv nw, .val (.long q4), .second] [(.ref fu), (.ref a1)]) (fun _ hr => XS.aloadN X400.here hx rfl (hb hby d30_24) rfl rfl hr) ?_
  obtain ⟨T401, h401, X401, e401, W401, st401⟩ := putF X400 hx hZ397 hown397 (host := "") (Or.inl (tw hw 106 rfl)) Via.refl e400 F_a1_firstUnreadTimestamp_400 E_a1_400 (Or.inr ⟨(tw hw 107 rfl), rfl, hnm⟩) (tw hw 95 rfl) (ty := (.object cOL)) (by decide) rfl rfl (g := (mkF m 25 #[rv a1, iv 0, rv fu, rv nw, .val (.long q4), .second] [(.ref fu), (.ref a1)])) rfl rfl (hb hby d30_25)
  have E_a1_401 : Exa Z h401 a1 cRR := E_a1_400.wr W401
  have F_a1_newestTimestamp_401 : Fld Z h401 a1 cRR nNT dOL .null := F_a1_newestTimestamp_400.other W401 (Or.inr (slot_ne (Or.inr (tw hw 109 rfl)) (Or.inr (tw hw 107 rfl)) (by decide) (t := (.object cOL)) (t' := (.object cOL)) (by decide) (by decide)))
  have F_a1_lookedAt_401 : Fld Z h401 a1 cRR "lookedAt" "J" (.long (0 : Int64)) := F_a1_lookedAt_400.other W401 (Or.inr (slot_ne (Or.inr (tw hw 111 rfl)) (Or.inr (tw hw 107 rfl)) (by decide) (t := .long) (t' := (.object cOL)) (by decide) (by decide)))
  have F_a1_onlyMarkersLeft_401 : Fld Z h401 a1 cRR nOM "Z" (.int (0 : Int32)) := F_a1_onlyMarkersLeft_400.other W401 (Or.inr (slot_ne (Or.inr (tw hw 105 rfl)) (Or.inr (tw hw 107 rfl)) (by decide) (t := .boolean) (t' := (.object cOL)) (by decide) (by decide)))
  have K401 : Keep h0 h401 [a1] := K400.wr W401 (Or.inl (List.mem_of_getElem? (i := 0) rfl))
  have kle401 : j397 ≤ h401.size := Nat.le_trans kle400 (Nat.le_of_eq W401.size.symm)
  have N401 := Fr.snoc X401 N400 ge_a1
  have F_a1_firstUnreadTimestamp_401 : Fld Z h401 a1 cRR nLT dOL (.ref fu) := F_a1_firstUnreadTimestamp_400.same W401
  refine gsW T401 (mkF m 28 #[rv a1, iv 0, rv fu, rv nw, .val (.long q4), .second] []) st401 ?_
  refine gsW T401 (mkF m 29 #[rv a1, iv 0, rv fu, rv nw, .val (.long q4), .second] [(.ref a1)]) (fun _ hr => XS.aloadN X401.here hx rfl (hb hby d30_28) rfl rfl hr) ?_
  refine gsW T401 (mkF m 30 #[rv a1, iv 0, rv fu, rv nw, .val (.long q4), .second] [(.ref nw), (.ref a1)]) (fun _ hr => XS.aloadN X401.here hx rfl (hb hby d30_29) rfl rfl hr) ?_
  obtain ⟨T402, h402, X402, e402, W402, st402⟩ := putF X401 hx hZ397 hown397 (host := "") (Or.inl (tw hw 108 rfl)) Via.refl e401 F_a1_newestTimestamp_401 E_a1_401 (Or.inr ⟨(tw hw 109 rfl), rfl, hnm⟩) (tw hw 95 rfl) (ty := (.object cOL)) (by decide) rfl rfl (g := (mkF m 30 #[rv a1, iv 0, rv fu, rv nw, .val (.long q4), .second] [(.ref nw), (.ref a1)])) rfl rfl (hb hby d30_30)
  have E_a1_402 : Exa Z h402 a1 cRR := E_a1_401.wr W402
  have F_a1_lookedAt_402 : Fld Z h402 a1 cRR "lookedAt" "J" (.long (0 : Int64)) := F_a1_lookedAt_401.other W402 (Or.inr (slot_ne (Or.inr (tw hw 111 rfl)) (Or.inr (tw hw 109 rfl)) (by decide) (t := .long) (t' := (.object cOL)) (by decide) (by decide)))
  have F_a1_onlyMarkersLeft_402 : Fld Z h402 a1 cRR nOM "Z" (.int (0 : Int32)) := F_a1_onlyMarkersLeft_401.other W402 (Or.inr (slot_ne (Or.inr (tw hw 105 rfl)) (Or.inr (tw hw 109 rfl)) (by decide) (t := .boolean) (t' := (.object cOL)) (by decide) (by decide)))
  have F_a1_firstUnreadTimestamp_402 : Fld Z h402 a1 cRR nLT dOL (.ref fu) := F_a1_firstUnreadTimestamp_401.other W402 (Or.inr (slot_ne (Or.inr (tw hw 107 rfl)) (Or.inr (tw hw 109 rfl)) (by decide) (t := (.object cOL)) (t' := (.object cOL)) (by decide) (by decide)))
  have K402 : Keep h0 h402 [a1] := K401.wr W402 (Or.inl (List.mem_of_getElem? (i := 0) rfl))
  have kle402 : j397 ≤ h402.size := Nat.le_trans kle401 (Nat.le_of_eq W402.size.symm)
  have N402 := Fr.snoc X402 N401 ge_a1
  have F_a1_newestTimestamp_402 : Fld Z h402 a1 cRR nNT dOL (.ref nw) := F_a1_newestTimestamp_401.same W402
  refine gsW T402 (mkF m 33 #[rv a1, iv 0, rv fu, rv nw, .val (.long q4), .second] []) st402 ?_
  refine gsW T402 (mkF m 34 #[rv a1, iv 0, rv fu, rv nw, .val (.long q4), .second] [(.ref a1)]) (fun _ hr => XS.aloadN X402.here hx rfl (hb hby d30_33) rfl rfl hr) ?_
  refine gsW T402 (mkF m 36 #[rv a1, iv 0, rv fu, rv nw, .val (.long q4), .second] [(.long q4), (.ref a1)]) (fun _ hr => XT.lload X402.here hx rfl (hb hby d30_34) rfl hr) ?_
  obtain ⟨T403, h403, X403, e403, W403, st403⟩ := putF X402 hx hZ397 hown397 (host := "") (Or.inl (tw hw 110 rfl)) Via.refl e402 F_a1_lookedAt_402 E_a1_402 (Or.inr ⟨(tw hw 111 rfl), rfl, hnm⟩) (tw hw 95 rfl) (ty := .long) (by decide) rfl rfl (g := (mkF m 36 #[rv a1, iv 0, rv fu, rv nw, .val (.long q4), .second] [(.long q4), (.ref a1)])) rfl rfl (hb hby d30_36)
  have F_a1_onlyMarkersLeft_403 : Fld Z h403 a1 cRR nOM "Z" (.int (0 : Int32)) := F_a1_onlyMarkersLeft_402.other W403 (Or.inr (slot_ne (Or.inr (tw hw 105 rfl)) (Or.inr (tw hw 111 rfl)) (by decide) (t := .boolean) (t' := .long) (by decide) (by decide)))
  have F_a1_firstUnreadTimestamp_403 : Fld Z h403 a1 cRR nLT dOL (.ref fu) := F_a1_firstUnreadTimestamp_402.other W403 (Or.inr (slot_ne (Or.inr (tw hw 107 rfl)) (Or.inr (tw hw 111 rfl)) (by decide) (t := (.object cOL)) (t' := .long) (by decide) (by decide)))
  have F_a1_newestTimestamp_403 : Fld Z h403 a1 cRR nNT dOL (.ref nw) := F_a1_newestTimestamp_402.other W403 (Or.inr (slot_ne (Or.inr (tw hw 109 rfl)) (Or.inr (tw hw 111 rfl)) (by decide) (t := (.object cOL)) (t' := .long) (by decide) (by decide)))
  have K403 : Keep h0 h403 [a1] := K402.wr W403 (Or.inl (List.mem_of_getElem? (i := 0) rfl))
  have kle403 : j397 ≤ h403.size := Nat.le_trans kle402 (Nat.le_of_eq W403.size.symm)
  have N403 := Fr.snoc X403 N402 ge_a1
  have F_a1_lookedAt_403 : Fld Z h403 a1 cRR "lookedAt" "J" (.long q4) := F_a1_lookedAt_402.same W403
  refine gsW T403 (mkF m 39 #[rv a1, iv 0, rv fu, rv nw, .val (.long q4), .second] []) st403 ?_
  exact GoesW.ret (v := none) X403 Sn397 (by rw [e403]; exact kle403) (by decide) (by decide) (fun _ => rfl) (by show Q_rm_rinit0 Z a1 fu nw q4 h0 n0 _ T403.heap _; rw [e403]; exact ⟨rfl, N403, K403, F_a1_onlyMarkersLeft_403, F_a1_firstUnreadTimestamp_403, F_a1_newestTimestamp_403, F_a1_lookedAt_403⟩) (fun fs hr => X403.returnOut hx Bd.returns (hb hby d30_39) hr)
def Q_rm_rinit1 (Z : State) (a1 : Addr) (fu : Addr) (nw : Addr) (q4 : Int64) (h0 : Heap) (n0 : Nat) (v : Option Value) (h : Heap) (L : List Loc) : Prop := v = none ∧ Fr n0 L ∧ Keep h0 h [a1] ∧ Fld Z h a1 cRR nOM "Z" (.int (1 : Int32)) ∧ Fld Z h a1 cRR nLT dOL (.ref fu) ∧ Fld Z h a1 cRR nNT dOL (.ref nw) ∧ Fld Z h a1 cRR "lookedAt" "J" (.long q4)
set_option maxRecDepth 65536 in
set_option maxHeartbeats 40000000 in
theorem rm_rinit1 (l : Launch) (Z : State) (a0 : Array Value) (hw : ∀ d ∈ tables_1, d.before a0 Z = true) (ws : List Jvm.Cond) (a1 : Addr) (fu : Addr) (nw : Addr) (q4 : Int64) (h0 : Heap) (n0 : Nat) (Z0 : n0 ≤ h0.size) (O0 : Old Z n0 h0) (E_a1 : Exa Z h0 a1 cRR) (F_a1_onlyMarkersLeft : Fld Z h0 a1 cRR nOM "Z" (.int (0 : Int32))) (F_a1_firstUnreadTimestamp : Fld Z h0 a1 cRR nLT dOL .null) (F_a1_newestTimestamp : Fld Z h0 a1 cRR nNT dOL .null) (F_a1_lookedAt : Fld Z h0 a1 cRR "lookedAt" "J" (.long (0 : Int64))) (ge_a1 : n0 ≤ a1) :
    MetFree l Y32 (head1 (Cond.code Y32 prog_14_method_1_code 6 none :: ws) r27) (fun a U => a = #[(.ref a1), (.int (1 : Int32)), (.ref fu), (.ref nw), (.long q4)] ∧ Z.Warmed39 U.vm ∧ U.heap = h0) (fun _ _ _ _ _ => True) (fun _ U o U' => ∃ v L, o = .returned v ∧ Q_rm_rinit1 Z a1 fu nw q4 h0 n0 v U'.heap L ∧ ReturnedEndW U o U' L r27.cells r27.slots) := by
  refine MetFree.of_bodySF (plainFor_of_name pn_com_example_log_lag_gauge_loglaggauge_model_PositionLag_RecordsRead) hisR ?_
  intro p e s m args below meth c s₁ Bd hml0 hP hK
  obtain ⟨rfl, hZ, hh⟩ := hP
  have hx := Bd.exec
  have hby := Bd.bytes
  have hml : c.maxLocals = 6 := hml0
  have hown : s.vm.findClass cRR = some m.cls := findClass_of_methodNamed Bd.named
  have hnm := (name_of_methodNamed Bd.named Bd.method).1
  have X0 : Stand p l e r27 (s.setVm s.vm) m #[(.ref a1), (.int (1 : Int32)), (.ref fu), (.ref nw), (.long q4)] below meth c s₁ [] 0 0 := Stand.of_body Bd
  have e0 : s₁.heap = h0 := by rw [← hh, Bd.state]; rfl
  have N0 := Fr.nil n0
  refine GoesW.out (l := l) (c := c) (R := r27) (Q := Q_rm_rinit1 Z a1 fu nw q4 h0 n0) Bd.notSynchronized ?_
  refine GoesW.cast (g2 := mkF m 0 #[rv a1, iv 1, rv fu, rv nw, .val (.long q4), .second] []) (by first | (simp [entryFrame, mkF, argsToLocals, Value.category]; done) | rfl) ?_
  have K0 : Keep h0 h0 [a1] := Keep.refl h0 _
  have hws : ∀ x ∈ [a1], n0 ≤ x := (allS ge_a1 all0)
  have Sn0 : s.Since s.vm 0 := (State.WarmedH.refl s).since 0
  have kle0 : 0 ≤ h0.size := Nat.zero_le _
  have wSA := own_wsa hw
  refine gsW s₁ (mkF m 1 #[rv a1, iv 1, rv fu, rv nw, .val (.long q4), .second] [(.ref a1)]) (fun _ hr => XS.aloadN X0.here hx rfl (hb hby d30_0) rfl rfl hr) ?_
  have Zs404 : n0 ≤ h0.size := Nat.le_trans Z0 K0.1
  obtain ⟨_, _, ⟨T405, L405, k405, n405⟩, -, X405, ⟨Lc405, hQ405, l405, y405, z405⟩, st405⟩ := X0.specialBack hx (y := Y10) rfl hown (mvT hZ (tw hw 100 rfl)) (mvT hZ (tw hw 18 rfl)) (mvT hZ (tw hw 21 rfl)) (by decide) (backOf (W := 0) (rm_rec l Z a0 hw [] a1 h0 n0 Zs404 (Old.keep O0 K0 hws)) hZ (tw hw 21 rfl) (tw hw 20 rfl) (by decide) (by decide)) (g := (mkF m 1 #[rv a1, iv 1, rv fu, rv nw, .val (.long q4), .second] [(.ref a1)])) rfl (by rw [hml]; rfl) (Steps.refl _) (a := a1) (argsL := []) (rest := []) (lenOf pd_17 rfl) rfl (wle rfl) (hb hby d30_1) (fun _ _ => ⟨rfl, e0, (by decide : 0 + 0 ≤ _), (by decide : 0 + 0 ≤ _)⟩)
  dsimp only [Pt.U, Pt.locs, Pt.cells, Pt.slots] at X405 l405 y405 z405 st405 hQ405
  subst l405 y405 z405
  obtain ⟨rfl, N405q, e405⟩ := hQ405
  have N405 := Fr.app N0 N405q
  refine gsW T405 (mkF m 4 #[rv a1, iv 1, rv fu, rv nw, .val (.long q4), .second] []) (fun _ hr => st405.trans hr) ?_
  refine gsW T405 (mkF m 5 #[rv a1, iv 1, rv fu, rv nw, .val (.long q4), .second] [(.ref fu)]) (fun _ hr => XS.aloadN X405.here hx rfl (hb hby d30_4) rfl rfl hr) ?_
  obtain ⟨a406, T406, h406, j406, X406, e406, E406, Sn406, kle406q, hZ406, hown406, st406⟩ := ldcS X405 hx hZ hown (tw hw 101 rfl) wSA e405 Sn0 kle0 (g := (mkF m 5 #[rv a1, iv 1, rv fu, rv nw, .val (.long q4), .second] [(.ref fu)])) rfl (hb hby d30_5) (n := 80) (by decide) (by decide) (by decide) (by decide)
  have E_a1_406 : Exa Z h406 a1 cRR := E_a1.ext E406
  have F_a1_onlyMarkersLeft_406 : Fld Z h406 a1 cRR nOM "Z" (.int (0 : Int32)) := F_a1_onlyMarkersLeft.ext E406
  have F_a1_firstUnreadTimestamp_406 : Fld Z h406 a1 cRR nLT dOL .null := F_a1_firstUnreadTimestamp.ext E406
  have F_a1_newestTimestamp_406 : Fld Z h406 a1 cRR nNT dOL .null := F_a1_newestTimestamp.ext E406
  have F_a1_lookedAt_406 : Fld Z h406 a1 cRR "lookedAt" "J" (.long (0 : Int64)) := F_a1_lookedAt.ext E406
  have K406 : Keep h0 h406 [a1] := K0.ext E406
  refine gsW T406 (mkF m 7 #[rv a1, iv 1, rv fu, rv nw, .val (.long q4), .second] [(.ref a406), (.ref fu)]) st406 ?_
  have Zs407 : n0 ≤ h406.size := Nat.le_trans Z0 K406.1
  obtain ⟨_, _, ⟨T408, L408, k408, n408⟩, -, X408, ⟨Lc408, hQ408, l408, y408, z408⟩, st408⟩ := LawKit.callS X406 hx (y := Y9) hown406 (mvT hZ406 (tw hw 102 rfl)) (mvT hZ406 (tw hw 34 rfl)) (mvT hZ406 (tw hw 35 rfl)) (mvT hZ406 (tw hw 36 rfl)) (by decide) (backOf (W := 0) (rm_rnn2 l Z a0 hw [] fu a406 h406 n0 Zs407 (Old.keep O0 K406 hws)) hZ406 (tw hw 36 rfl) (tw hw 35 rfl) (by decide) (by decide)) (g := (mkF m 7 #[rv a1, iv 1, rv fu, rv nw, .val (.long q4), .second] [(.ref a406), (.ref fu)])) rfl (by rw [hml]; rfl) (argsL := [(.ref fu), (.ref a406)]) (rest := []) (lenOf pd_18 rfl) rfl (wle rfl) (hb hby d30_7) (fun _ _ => ⟨rfl, e406, (by decide : 2 + 0 ≤ _), (by decide : 84 + 0 ≤ _)⟩)
  dsimp only [Pt.U, Pt.locs, Pt.cells, Pt.slots] at X408 l408 y408 z408 st408 hQ408
  subst l408 y408 z408
  obtain ⟨rfl, N408q, e408⟩ := hQ408
  have N408 := Fr.app N405 N408q
  refine gsW T408 (mkF m 10 #[rv a1, iv 1, rv fu, rv nw, .val (.long q4), .second] [(.ref fu)]) st408 ?_
  refine gsW T408 (mkF m 11 #[rv a1, iv 1, rv fu, rv nw, .val (.long q4), .second] []) (fun _ hr => XT.pop X408.here hx rfl (hb hby d30_10) rfl rfl hr) ?_
  refine gsW T408 (mkF m 12 #[rv a1, iv 1, rv fu, rv nw, .val (.long q4), .second] [(.ref nw)]) (fun _ hr => XS.aloadN X408.here hx rfl (hb hby d30_11) rfl rfl hr) ?_
  obtain ⟨a409, T409, h409, j409, X409, e409, E409, Sn409, kle409q, hZ409, hown409, st409⟩ := ldcS X408 hx hZ406 hown406 (tw hw 103 rfl) wSA e408 Sn406 kle406q (g := (mkF m 12 #[rv a1, iv 1, rv fu, rv nw, .val (.long q4), .second] [(.ref nw)])) rfl (hb hby d30_12) (n := 60) (by decide) (by decide) (by decide) (by decide)
  have E_a1_409 : Exa Z h409 a1 cRR := E_a1_406.ext E409
  have F_a1_onlyMarkersLeft_409 : Fld Z h409 a1 cRR nOM "Z" (.int (0 : Int32)) := F_a1_onlyMarkersLeft_406.ext E409
  have F_a1_firstUnreadTimestamp_409 : Fld Z h409 a1 cRR nLT dOL .null := F_a1_firstUnreadTimestamp_406.ext E409
  have F_a1_newestTimestamp_409 : Fld Z h409 a1 cRR nNT dOL .null := F_a1_newestTimestamp_406.ext E409
  have F_a1_lookedAt_409 : Fld Z h409 a1 cRR "lookedAt" "J" (.long (0 : Int64)) := F_a1_lookedAt_406.ext E409
  have K409 : Keep h0 h409 [a1] := K406.ext E409
  refine gsW T409 (mkF m 14 #[rv a1, iv 1, rv fu, rv nw, .val (.long q4), .second] [(.ref a409), (.ref nw)]) st409 ?_
  have Zs410 : n0 ≤ h409.size := Nat.le_trans Z0 K409.1
  obtain ⟨_, _, ⟨T411, L411, k411, n411⟩, -, X411, ⟨Lc411, hQ411, l411, y411, z411⟩, st411⟩ := LawKit.callS X409 hx (y := Y9) hown409 (mvT hZ409 (tw hw 102 rfl)) (mvT hZ409 (tw hw 34 rfl)) (mvT hZ409 (tw hw 35 rfl)) (mvT hZ409 (tw hw 36 rfl)) (by decide) (backOf (W := 0) (rm_rnn2 l Z a0 hw [] nw a409 h409 n0 Zs410 (Old.keep O0 K409 hws)) hZ409 (tw hw 36 rfl) (tw hw 35 rfl) (by decide) (by decide)) (g := (mkF m 14 #[rv a1, iv 1, rv fu, rv nw, .val (.long q4), .second] [(.ref a409), (.ref nw)])) rfl (by rw [hml]; rfl) (argsL := [(.ref nw), (.ref a409)]) (rest := []) (lenOf pd_18 rfl) rfl (wle rfl) (hb hby d30_14) (fun _ _ => ⟨rfl, e409, (by decide : 4 + 0 ≤ _), (by decide : 148 + 0 ≤ _)⟩)
  dsimp only [Pt.U, Pt.locs, Pt.cells, Pt.slots] at X411 l411 y411 z411 st411 hQ411
  subst l411 y411 z411
  obtain ⟨rfl, N411q, e411⟩ := hQ411
  have N411 := Fr.app N408 N411q
  refine gsW T411 (mkF m 17 #[rv a1, iv 1, rv fu, rv nw, .val (.long q4), .second] [(.ref nw)]) st411 ?_
  refine gsW T411 (mkF m 18 #[rv a1, iv 1, rv fu, rv nw, .val (.long q4), .second] []) (fun _ hr => XT.pop X411.here hx rfl (hb hby d30_17) rfl rfl hr) ?_
  refine gsW T411 (mkF m 19 #[rv a1, iv 1, rv fu, rv nw, .val (.long q4), .second] [(.ref a1)]) (fun _ hr => XS.aloadN X411.here hx rfl (hb hby d30_18) rfl rfl hr) ?_
  refine gsW T411 (mkF m 20 #[rv a1, iv 1, rv fu, rv nw, .val (.long q4), .second] [(.int (1 : Int32)), (.ref a1)]) (fun _ hr => XS.iloadN X411.here hx rfl (hb hby d30_19) rfl  hr) ?_
  obtain ⟨T412, h412, X412, e412, W412, st412⟩ := putFN X411 hx hZ409 hown409 (tw hw 104 rfl) Via.refl e411 F_a1_onlyMarkersLeft_409 E_a1_409 (Or.inr ⟨(tw hw 105 rfl), rfl, hnm⟩) (tw hw 95 rfl) (ty := .boolean) (v' := (.int (1 : Int32))) (by decide) rfl rfl (g := (mkF m 20 #[rv a1, iv 1, rv fu, rv nw, .val (.long q4), .second] [(.int (1 : Int32)), (.ref a1)])) rfl rfl (hb hby d30_20)
  have E_a1_412 : Exa Z h412 a1 cRR := E_a1_409.wr W412
  have F_a1_firstUnreadTimestamp_412 : Fld Z h412 a1 cRR nLT dOL .null := F_a1_firstUnreadTimestamp_409.other W412 (Or.inr (slot_ne (Or.inr (tw hw 107 rfl)) (Or.inr (tw hw 105 rfl)) (by decide) (t := (.object cOL)) (t' := .boolean) (by decide) (by decide)))
  have F_a1_newestTimestamp_412 : Fld Z h412 a1 cRR nNT dOL .null := F_a1_newestTimestamp_409.other W412 (Or.inr (slot_ne (Or.inr (tw hw 109 rfl)) (Or.inr (tw hw 105 rfl)) (by decide) (t := (.object cOL)) (t' := .boolean) (by decide) (by decide)))
  have F_a1_lookedAt_412 : Fld Z h412 a1 cRR "lookedAt" "J" (.long (0 : Int64)) := F_a1_lookedAt_409.other W412 (Or.inr (slot_ne (Or.inr (tw hw 111 rfl)) (Or.inr (tw hw 105 rfl)) (by decide) (t := .long) (t' := .boolean) (by decide) (by decide)))
  have K412 : Keep h0 h412 [a1] := K409.wr W412 (Or.inl (List.mem_of_getElem? (i := 0) rfl))
  have kle412 : j409 ≤ h412.size := Nat.le_trans kle409q (Nat.le_of_eq W412.size.symm)
  have N412 := Fr.snoc X412 N411 ge_a1
  have F_a1_onlyMarkersLeft_412 : Fld Z h412 a1 cRR nOM "Z" (.int (1 : Int32)) := F_a1_onlyMarkersLeft_409.same W412
  refine gsW T412 (mkF m 23 #[rv a1, iv 1, rv fu, rv nw, .val (.long q4), .second] []) st412 ?_
  refine gsW T412 (mkF m 24 #[rv a1, iv 1, rv fu, rv nw, .val (.long q4), .second] [(.ref a1)]) (fun _ hr => XS.aloadN X412.here hx rfl (hb hby d30_23) rfl rfl hr) ?_
  refine gsW T412 (mkF m 25 #[rv a1, iv 1, rv fu, rv nw, .val (.long q4), .second] [(.ref fu), (.ref a1)]) (fun _ hr => XS.aloadN X412.here hx rfl (hb hby d30_24) rfl rfl hr) ?_
  obtain ⟨T413, h413, X413, e413, W413, st413⟩ := putF X412 hx hZ409 hown409 (host := "") (Or.inl (tw hw 106 rfl)) Via.refl e412 F_a1_firstUnreadTimestamp_412 E_a1_412 (Or.inr ⟨(tw hw 107 rfl), rfl, hnm⟩) (tw hw 95 rfl) (ty := (.object cOL)) (by decide) rfl rfl (g := (mkF m 25 #[rv a1, iv 1, rv fu, rv nw, .val (.long q4), .second] [(.ref fu), (.ref a1)])) rfl rfl (hb hby d30_25)
  have E_a1_413 : Exa Z h413 a1 cRR := E_a1_412.wr W413
  have F_a1_newestTimestamp_413 : Fld Z h413 a1 cRR nNT dOL .null := F_a1_newestTimestamp_412.other W413 (Or.inr (slot_ne (Or.inr (tw hw 109 rfl)) (Or.inr (tw hw 107 rfl)) (by decide) (t := (.object cOL)) (t' := (.object cOL)) (by decide) (by decide)))
  have F_a1_lookedAt_413 : Fld Z h413 a1 cRR "lookedAt" "J" (.long (0 : Int64)) := F_a1_lookedAt_412.other W413 (Or.inr (slot_ne (Or.inr (tw hw 111 rfl)) (Or.inr (tw hw 107 rfl)) (by decide) (t := .long) (t' := (.object cOL)) (by decide) (by decide)))
  have F_a1_onlyMarkersLeft_413 : Fld Z h413 a1 cRR nOM "Z" (.int (1 : Int32)) := F_a1_onlyMarkersLeft_412.other W413 (Or.inr (slot_ne (Or.inr (tw hw 105 rfl)) (Or.inr (tw hw 107 rfl)) (by decide) (t := .boolean) (t' := (.object cOL)) (by decide) (by decide)))
  have K413 : Keep h0 h413 [a1] := K412.wr W413 (Or.inl (List.mem_of_getElem? (i := 0) rfl))
  have kle413 : j409 ≤ h413.size := Nat.le_trans kle412 (Nat.le_of_eq W413.size.symm)
  have N413 := Fr.snoc X413 N412 ge_a1
  have F_a1_firstUnreadTimestamp_413 : Fld Z h413 a1 cRR nLT dOL (.ref fu) := F_a1_firstUnreadTimestamp_412.same W413
  refine gsW T413 (mkF m 28 #[rv a1, iv 1, rv fu, rv nw, .val (.long q4), .second] []) st413 ?_
  refine gsW T413 (mkF m 29 #[rv a1, iv 1, rv fu, rv nw, .val (.long q4), .second] [(.ref a1)]) (fun _ hr => XS.aloadN X413.here hx rfl (hb hby d30_28) rfl rfl hr) ?_
  refine gsW T413 (mkF m 30 #[rv a1, iv 1, rv fu, rv nw, .val (.long q4), .second] [(.ref nw), (.ref a1)]) (fun _ hr => XS.aloadN X413.here hx rfl (hb hby d30_29) rfl rfl hr) ?_
  obtain ⟨T414, h414, X414, e414, W414, st414⟩ := putF X413 hx hZ409 hown409 (host := "") (Or.inl (tw hw 108 rfl)) Via.refl e413 F_a1_newestTimestamp_413 E_a1_413 (Or.inr ⟨(tw hw 109 rfl), rfl, hnm⟩) (tw hw 95 rfl) (ty := (.object cOL)) (by decide) rfl rfl (g := (mkF m 30 #[rv a1, iv 1, rv fu, rv nw, .val (.long q4), .second] [(.ref nw), (.ref a1)])) rfl rfl (hb hby d30_30)
  have E_a1_414 : Exa Z h414 a1 cRR := E_a1_413.wr W414
  have F_a1_lookedAt_414 : Fld Z h414 a1 cRR "lookedAt" "J" (.long (0 : Int64)) := F_a1_lookedAt_413.other W414 (Or.inr (slot_ne (Or.inr (tw hw 111 rfl)) (Or.inr (tw hw 109 rfl)) (by decide) (t := .long) (t' := (.object cOL)) (by decide) (by decide)))
  have F_a1_onlyMarkersLeft_414 : Fld Z h414 a1 cRR nOM "Z" (.int (1 : Int32)) := F_a1_onlyMarkersLeft_413.other W414 (Or.inr (slot_ne (Or.inr (tw hw 105 rfl)) (Or.inr (tw hw 109 rfl)) (by decide) (t := .boolean) (t' := (.object cOL)) (by decide) (by decide)))
  have F_a1_firstUnreadTimestamp_414 : Fld Z h414 a1 cRR nLT dOL (.ref fu) := F_a1_firstUnreadTimestamp_413.other W414 (Or.inr (slot_ne (Or.inr (tw hw 107 rfl)) (Or.inr (tw hw 109 rfl)) (by decide) (t := (.object cOL)) (t' := (.object cOL)) (by decide) (by decide)))
  have K414 : Keep h0 h414 [a1] := K413.wr W414 (Or.inl (List.mem_of_getElem? (i := 0) rfl))
  have kle414 : j409 ≤ h414.size := Nat.le_trans kle413 (Nat.le_of_eq W414.size.symm)
  have N414 := Fr.snoc X414 N413 ge_a1
  have F_a1_newestTimestamp_414 : Fld Z h414 a1 cRR nNT dOL (.ref nw) := F_a1_newestTimestamp_413.same W414
  refine gsW T414 (mkF m 33 #[rv a1, iv 1, rv fu, rv nw, .val (.long q4), .second] []) st414 ?_
  refine gsW T414 (mkF m 34 #[rv a1, iv 1, rv fu, rv nw, .val (.long q4), .second] [(.ref a1)]) (fun _ hr => XS.aloadN X414.here hx rfl (hb hby d30_33) rfl rfl hr) ?_
  refine gsW T414 (mkF m 36 #[rv a1, iv 1, rv fu, rv nw, .val (.long q4), .second] [(.long q4), (.ref a1)]) (fun _ hr => XT.lload X414.here hx rfl (hb hby d30_34) rfl hr) ?_
  obtain ⟨T415, h415, X415, e415, W415, st415⟩ := putF X414 hx hZ409 hown409 (host := "") (Or.inl (tw hw 110 rfl)) Via.refl e414 F_a1_lookedAt_414 E_a1_414 (Or.inr ⟨(tw hw 111 rfl), rfl, hnm⟩) (tw hw 95 rfl) (ty := .long) (by decide) rfl rfl (g := (mkF m 36 #[rv a1, iv 1, rv fu, rv nw, .val (.long q4), .second] [(.long q4), (.ref a1)])) rfl rfl (hb hby d30_36)
  have F_a1_onlyMarkersLeft_415 : Fld Z h415 a1 cRR nOM "Z" (.int (1 : Int32)) := F_a1_onlyMarkersLeft_414.other W415 (Or.inr (slot_ne (Or.inr (tw hw 105 rfl)) (Or.inr (tw hw 111 rfl)) (by decide) (t := .boolean) (t' := .long) (by decide) (by decide)))
  have F_a1_firstUnreadTimestamp_415 : Fld Z h415 a1 cRR nLT dOL (.ref fu) := F_a1_firstUnreadTimestamp_414.other W415 (Or.inr (slot_ne (Or.inr (tw hw 107 rfl)) (Or.inr (tw hw 111 rfl)) (by decide) (t := (.object cOL)) (t' := .long) (by decide) (by decide)))
  have F_a1_newestTimestamp_415 : Fld Z h415 a1 cRR nNT dOL (.ref nw) := F_a1_newestTimestamp_414.other W415 (Or.inr (slot_ne (Or.inr (tw hw 109 rfl)) (Or.inr (tw hw 111 rfl)) (by decide) (t := (.object cOL)) (t' := .long) (by decide) (by decide)))
  have K415 : Keep h0 h415 [a1] := K414.wr W415 (Or.inl (List.mem_of_getElem? (i := 0) rfl))
  have kle415 : j409 ≤ h415.size := Nat.le_trans kle414 (Nat.le_of_eq W415.size.symm)
  have N415 := Fr.snoc X415 N414 ge_a1
  have F_a1_lookedAt_415 : Fld Z h415 a1 cRR "lookedAt" "J" (.long q4) := F_a1_lookedAt_414.same W415
  refine gsW T415 (mkF m 39 #[rv a1, iv 1, rv fu, rv nw, .val (.long q4), .second] []) st415 ?_
  exact GoesW.ret (v := none) X415 Sn409 (by rw [e415]; exact kle415) (by decide) (by decide) (fun _ => rfl) (by show Q_rm_rinit1 Z a1 fu nw q4 h0 n0 _ T415.heap _; rw [e415]; exact ⟨rfl, N415, K415, F_a1_onlyMarkersLeft_415, F_a1_firstUnreadTimestamp_415, F_a1_newestTimestamp_415, F_a1_lookedAt_415⟩) (fun fs hr => X415.returnOut hx Bd.returns (hb hby d30_39) hr)
abbrev lw0 (x0 : Int64) (x1 : Int64) (x2 : Int64) (x3 : Int64) (x4 : Int64) (x5 : Int32) (x6 : Int64) (x7 : Int64) (x8 : Int64) (x9 : Int64) (x10 : Int32) (x11 : Int32) (x12 : Int32) (x13 : Int32) (x14 : Addr) (x15 : Addr) : Array Slot := #[.val (.long x0), .second, .val (.long x1), .second, .val (.long x2), .second, .val (.long x3), .second, .val (.long x4), .second, iv x5, .val (.long x6), .second, .val (.long x7), .second, .val (.long x8), .second, .val (.long x9), .second, iv x10, iv x11, iv x12, iv x13, rv x14, rv x15, .unset, .unset, .unset, .unset, .unset, .unset]
abbrev lw1 (x0 : Int64) (x1 : Int64) (x2 : Int64) (x3 : Int64) (x4 : Int64) (x5 : Int32) (x6 : Int64) (x7 : Int64) (x8 : Int64) (x9 : Int64) (x10 : Int32) (x11 : Int32) (x12 : Int32) (x13 : Int32) (x14 : Addr) (x15 : Addr) (x16 : Addr) : Array Slot := #[.val (.long x0), .second, .val (.long x1), .second, .val (.long x2), .second, .val (.long x3), .second, .val (.long x4), .second, iv x5, .val (.long x6), .second, .val (.long x7), .second, .val (.long x8), .second, .val (.long x9), .second, iv x10, iv x11, iv x12, iv x13, rv x14, rv x15, rv x16, .unset, .unset, .unset, .unset, .unset]
abbrev lw2 (x0 : Int64) (x1 : Int64) (x2 : Int64) (x3 : Int64) (x4 : Int64) (x5 : Int32) (x6 : Int64) (x7 : Int64) (x8 : Int64) (x9 : Int64) (x10 : Int32) (x11 : Int32) (x12 : Int32) (x13 : Int32) (x14 : Addr) (x15 : Addr) (x16 : Addr) (x17 : Addr) : Array Slot := #[.val (.long x0), .second, .val (.long x1), .second, .val (.long x2), .second, .val (.long x3), .second, .val (.long x4), .second, iv x5, .val (.long x6), .second, .val (.long x7), .second, .val (.long x8), .second, .val (.long x9), .second, iv x10, iv x11, iv x12, iv x13, rv x14, rv x15, rv x16, rv x17, .unset, .unset, .unset, .unset]
abbrev lw3 (x0 : Int64) (x1 : Int64) (x2 : Int64) (x3 : Int64) (x4 : Int64) (x5 : Int32) (x6 : Int64) (x7 : Int64) (x8 : Int64) (x9 : Int64) (x10 : Int32) (x11 : Int32) (x12 : Int32) (x13 : Int32) (x14 : Addr) (x15 : Addr) (x16 : Addr) (x17 : Addr) (x18 : Addr) : Array Slot := #[.val (.long x0), .second, .val (.long x1), .second, .val (.long x2), .second, .val (.long x3), .second, .val (.long x4), .second, iv x5, .val (.long x6), .second, .val (.long x7), .second, .val (.long x8), .second, .val (.long x9), .second, iv x10, iv x11, iv x12, iv x13, rv x14, rv x15, rv x16, rv x17, rv x18, .unset, .unset, .unset]
abbrev lw4 (x0 : Int64) (x1 : Int64) (x2 : Int64) (x3 : Int64) (x4 : Int64) (x5 : Int32) (x6 : Int64) (x7 : Int64) (x8 : Int64) (x9 : Int64) (x10 : Int32) (x11 : Int32) (x12 : Int32) (x13 : Int32) (x14 : Addr) (x15 : Addr) (x16 : Addr) (x17 : Addr) (x18 : Addr) (x19 : Int64) : Array Slot := #[.val (.long x0), .second, .val (.long x1), .second, .val (.long x2), .second, .val (.long x3), .second, .val (.long x4), .second, iv x5, .val (.long x6), .second, .val (.long x7), .second, .val (.long x8), .second, .val (.long x9), .second, iv x10, iv x11, iv x12, iv x13, rv x14, rv x15, rv x16, rv x17, rv x18, .unset, .val (.long x19), .second]
abbrev lw5 (x0 : Int64) (x1 : Int64) (x2 : Int64) (x3 : Int64) (x4 : Int64) (x5 : Int32) (x6 : Int64) (x7 : Int64) (x8 : Int64) (x9 : Int64) (x10 : Int32) (x11 : Int32) (x12 : Int32) (x13 : Int32) (x14 : Addr) (x15 : Addr) (x16 : Addr) (x17 : Addr) (x18 : Addr) (x19 : Int32) (x20 : Int64) : Array Slot := #[.val (.long x0), .second, .val (.long x1), .second, .val (.long x2), .second, .val (.long x3), .second, .val (.long x4), .second, iv x5, .val (.long x6), .second, .val (.long x7), .second, .val (.long x8), .second, .val (.long x9), .second, iv x10, iv x11, iv x12, iv x13, rv x14, rv x15, rv x16, rv x17, rv x18, iv x19, .val (.long x20), .second]
abbrev lw6 (x0 : Int64) (x1 : Int64) (x2 : Int64) (x3 : Int64) (x4 : Int64) (x5 : Int32) (x6 : Int64) (x7 : Int64) (x8 : Int64) (x9 : Int64) (x10 : Int32) (x11 : Int32) (x12 : Int32) (x13 : Int32) : Array Slot := #[.val (.long x0), .second, .val (.long x1), .second, .val (.long x2), .second, .val (.long x3), .second, .val (.long x4), .second, iv x5, .val (.long x6), .second, .val (.long x7), .second, .val (.long x8), .second, .val (.long x9), .second, iv x10, iv x11, iv x12, iv x13, .unset, .unset, .unset, .unset, .unset, .unset, .unset, .unset]
abbrev lw7 (x0 : Int64) (x1 : Int64) (x2 : Int64) (x3 : Int64) (x4 : Int64) (x5 : Int32) (x6 : Int64) (x7 : Int64) (x8 : Int64) (x9 : Int64) (x10 : Int32) (x11 : Int32) (x12 : Int32) (x13 : Int32) (x14 : Addr) : Array Slot := #[.val (.long x0), .second, .val (.long x1), .second, .val (.long x2), .second, .val (.long x3), .second, .val (.long x4), .second, iv x5, .val (.long x6), .second, .val (.long x7), .second, .val (.long x8), .second, .val (.long x9), .second, iv x10, iv x11, iv x12, iv x13, rv x14, .unset, .unset, .unset, .unset, .unset, .unset, .unset]
abbrev lw8 (x0 : Int64) (x1 : Int64) (x2 : Int64) (x3 : Int64) (x4 : Int64) (x5 : Int32) (x6 : Int64) (x7 : Int64) (x8 : Int64) (x9 : Int64) (x10 : Int32) (x11 : Int32) (x12 : Int32) : Array Slot := #[.val (.long x0), .second, .val (.long x1), .second, .val (.long x2), .second, .val (.long x3), .second, .val (.long x4), .second, iv x5, .val (.long x6), .second, .val (.long x7), .second, .val (.long x8), .second, .val (.long x9), .second, iv x10, iv x11, iv x12, .unset, .unset, .unset, .unset, .unset, .unset, .unset, .unset, .unset]
abbrev lw9 (x0 : Int64) (x1 : Int64) (x2 : Int64) (x3 : Int64) (x4 : Int64) (x5 : Int32) (x6 : Int64) (x7 : Int64) (x8 : Int64) (x9 : Int64) (x10 : Int32) (x11 : Int32) : Array Slot := #[.val (.long x0), .second, .val (.long x1), .second, .val (.long x2), .second, .val (.long x3), .second, .val (.long x4), .second, iv x5, .val (.long x6), .second, .val (.long x7), .second, .val (.long x8), .second, .val (.long x9), .second, iv x10, iv x11, .unset, .unset, .unset, .unset, .unset, .unset, .unset, .unset, .unset, .unset]
abbrev lw10 (x0 : Int64) (x1 : Int64) (x2 : Int64) (x3 : Int64) (x4 : Int64) (x5 : Int32) (x6 : Int64) (x7 : Int64) (x8 : Int64) (x9 : Int64) (x10 : Int32) : Array Slot := #[.val (.long x0), .second, .val (.long x1), .second, .val (.long x2), .second, .val (.long x3), .second, .val (.long x4), .second, iv x5, .val (.long x6), .second, .val (.long x7), .second, .val (.long x8), .second, .val (.long x9), .second, iv x10, .unset, .unset, .unset, .unset, .unset, .unset, .unset, .unset, .unset, .unset, .unset]
abbrev lw11 (x0 : Int64) (x1 : Int64) (x2 : Int64) (x3 : Int64) (x4 : Int64) (x5 : Int32) (x6 : Int64) (x7 : Int64) : Array Slot := #[.val (.long x0), .second, .val (.long x1), .second, .val (.long x2), .second, .val (.long x3), .second, .val (.long x4), .second, iv x5, .val (.long x6), .second, .val (.long x7), .second, .unset, .unset, .unset, .unset, .unset, .unset, .unset, .unset, .unset, .unset, .unset, .unset, .unset, .unset, .unset, .unset]
abbrev lw12 (x0 : Int64) (x1 : Int64) (x2 : Int64) (x3 : Int64) (x4 : Int64) (x5 : Int32) (x6 : Int64) (x7 : Int64) (x8 : Int64) : Array Slot := #[.val (.long x0), .second, .val (.long x1), .second, .val (.long x2), .second, .val (.long x3), .second, .val (.long x4), .second, iv x5, .val (.long x6), .second, .val (.long x7), .second, .val (.long x8), .second, .unset, .unset, .unset, .unset, .unset, .unset, .unset, .unset, .unset, .unset, .unset, .unset, .unset, .unset]
abbrev lw13 (x0 : Int64) (x1 : Int64) (x2 : Int64) (x3 : Int64) (x4 : Int64) (x5 : Int32) (x6 : Int64) (x7 : Int64) (x8 : Int64) (x9 : Int64) : Array Slot := #[.val (.long x0), .second, .val (.long x1), .second, .val (.long x2), .second, .val (.long x3), .second, .val (.long x4), .second, iv x5, .val (.long x6), .second, .val (.long x7), .second, .val (.long x8), .second, .val (.long x9), .second, .unset, .unset, .unset, .unset, .unset, .unset, .unset, .unset, .unset, .unset, .unset, .unset]
abbrev lw14 (x0 : Int64) (x1 : Int64) (x2 : Int64) (x3 : Int64) (x4 : Int64) (x5 : Int32) : Array Slot := #[.val (.long x0), .second, .val (.long x1), .second, .val (.long x2), .second, .val (.long x3), .second, .val (.long x4), .second, iv x5, .unset, .unset, .unset, .unset, .unset, .unset, .unset, .unset, .unset, .unset, .unset, .unset, .unset, .unset, .unset, .unset, .unset, .unset, .unset, .unset]
abbrev lw15 (x0 : Int64) (x1 : Int64) (x2 : Int64) (x3 : Int64) (x4 : Int64) (x5 : Int32) (x6 : Int64) : Array Slot := #[.val (.long x0), .second, .val (.long x1), .second, .val (.long x2), .second, .val (.long x3), .second, .val (.long x4), .second, iv x5, .val (.long x6), .second, .unset, .unset, .unset, .unset, .unset, .unset, .unset, .unset, .unset, .unset, .unset, .unset, .unset, .unset, .unset, .unset, .unset, .unset]
theorem pn_com_example_log_lag_gauge_loglaggauge_model_PositionLagAgeMsPinLaw : plainName "com/example/log_lag_gauge/loglaggauge/model/PositionLagAgeMsPinLaw" = true := by first | (simp [plainName, overriddenIn]; done) | decide +kernel
def Q_rm_law (Z : State) (q1 : Int64) (q2 : Int64) (q3 : Int64) (q4 : Int64) (q5 : Int64) (p1 : Int32) (em : Addr) (eo : Addr) (h0 : Heap) (n0 : Nat) (v : Option Value) (h : Heap) (L : List Loc) : Prop := v = some (.int (1 : Int32)) ∧ Fr n0 L
set_option maxRecDepth 65536 in
set_option maxHeartbeats 40000000 in
theorem rm_law (l : Launch) (Z : State) (a0 : Array Value) (hw : ∀ d ∈ tables_1, d.before a0 Z = true) (ws : List Jvm.Cond) (q1 : Int64) (q2 : Int64) (q3 : Int64) (q4 : Int64) (q5 : Int64) (p1 : Int32) (em : Addr) (eo : Addr) (h0 : Heap) (n0 : Nat) (Z0 : n0 ≤ h0.size) (O0 : Old Z n0 h0) (S_OptionalLong_EMPTY_old : Sta Z Z.heap cOL "EMPTY" dOL (.ref em)) (E_em_old : Exa Z Z.heap em cOL) (F_em_isPresent_old : Fld Z Z.heap em cOL nIP "Z" (.int (0 : Int32))) (F_em_value_old : Fld Z Z.heap em cOL "value" "J" (.long (0 : Int64))) (S_Optional_EMPTY_old : Sta Z Z.heap cOP "EMPTY" dOP (.ref eo)) (E_eo_old : Exa Z Z.heap eo cOP) (F_eo_value_old : Fld Z Z.heap eo cOP "value" dOB .null) :
    MetFree l x (head1 (Cond.code x code maxLocals ret :: ws) room_1) (fun a U => a = #[(.long q1), (.long q2), (.long q3), (.long q4), (.long q5), (.int p1)] ∧ Z.Warmed39 U.vm ∧ U.heap = h0) (fun _ _ _ _ _ => True) (fun _ U o U' => ∃ v L, o = .returned v ∧ Q_rm_law Z q1 q2 q3 q4 q5 p1 em eo h0 n0 v U'.heap L ∧ ReturnedEndW U o U' L room_1.cells room_1.slots) := by
  refine MetFree.of_bodySF (plainFor_of_name pn_com_example_log_lag_gauge_loglaggauge_model_PositionLagAgeMsPinLaw) hisR ?_
  intro p e s m args below meth c s₁ Bd hml0 hP hK
  obtain ⟨rfl, hZ, hh⟩ := hP
  have hx := Bd.exec
  have hby := Bd.bytes
  have hml : c.maxLocals = 31 := hml0
  have hown : s.vm.findClass "com/example/log_lag_gauge/loglaggauge/model/PositionLagAgeMsPinLaw" = some m.cls := findClass_of_methodNamed Bd.named
  have hnm := (name_of_methodNamed Bd.named Bd.method).1
  have X0 : Stand p l e room_1 (s.setVm s.vm) m #[(.long q1), (.long q2), (.long q3), (.long q4), (.long q5), (.int p1)] below meth c s₁ [] 0 0 := Stand.of_body Bd
  have e0 : s₁.heap = h0 := by rw [← hh, Bd.state]; rfl
  have N0 := Fr.nil n0
  refine GoesW.out (l := l) (c := c) (R := room_1) (Q := Q_rm_law Z q1 q2 q3 q4 q5 p1 em eo h0 n0) Bd.notSynchronized ?_
  refine GoesW.cast (g2 := mkF m 0 #[.val (.long q1), .second, .val (.long q2), .second, .val (.long q3), .second, .val (.long q4), .second, .val (.long q5), .second, iv p1, .unset, .unset, .unset, .unset, .unset, .unset, .unset, .unset, .unset, .unset, .unset, .unset, .unset, .unset, .unset, .unset, .unset, .unset, .unset, .unset] []) (by first | (simp [entryFrame, mkF, argsToLocals, Value.category, maxLocals]; done) | rfl) ?_
  have K0 : Keep h0 h0 [] := Keep.refl h0 _
  have hws : ∀ x ∈ ([] : List Addr), n0 ≤ x := all0
  have Sn0 : s.Since s.vm 0 := (State.WarmedH.refl s).since 0
  have SEGb : ∀ (Tg : State) (hg : Heap) (Lg : List Loc) (uo : Int64) (ue : Int64) (uf : Int64) (ut : Int64) (u19 : Int32) (u20 : Int32) (u21 : Int32) (u22 : Int32) (fu : Addr) (nw : Addr), Stand p l e room_1 s m #[(.long q1), (.long q2), (.long q3), (.long q4), (.long q5), (.int p1)] below meth c Tg Lg 2 4 → Tg.heap = hg → Fr n0 Lg → Keep h0 hg [] → u19 = (0 : Int32) ∨ u19 = (1 : Int32) → u20 = (0 : Int32) ∨ u20 = (1 : Int32) → 0 ≤ uo.toInt → 0 ≤ ue.toInt → 0 ≤ uf.toInt → 0 ≤ ut.toInt → (u21 = (0 : Int32) ∧ em = fu) ∨ (u21 = (1 : Int32) ∧ Exa Z hg fu cOL ∧ Fld Z hg fu cOL nIP "Z" (.int (1 : Int32)) ∧ Fld Z hg fu cOL "value" "J" (.long uf)) → GoesW p l e room_1 s m #[(.long q1), (.long q2), (.long q3), (.long q4), (.long q5), (.int p1)] below meth c (Q_rm_law Z q1 q2 q3 q4 q5 p1 em eo h0 n0) Tg (mkF m 136 (lw0 q1 q2 q3 q4 q5 p1 uo ue uf ut u19 u20 u21 u22 fu nw) []) := by
    intro Tg hg Lg uo ue uf ut u19 u20 u21 u22 fu nw Xg eg Ng Kg h19 h20 ho he hf ht hfu
    have kleg : 0 ≤ hg.size := Nat.zero_le _
    rcases h19 with rfl | rfl
    · refine gsW Tg (mkF m 138 (lw0 q1 q2 q3 q4 q5 p1 uo ue uf ut 0 u20 u21 u22 fu nw) [(.int (0 : Int32))]) (fun _ hr => XS.iload Xg.here hx rfl (hb hby at_136) rfl  hr) ?_
      refine gsW Tg (mkF m 162 (lw0 q1 q2 q3 q4 q5 p1 uo ue uf ut 0 u20 u21 u22 fu nw) []) (fun _ hr => XS.ifYes Xg.here hx rfl (pc0 := 138) (pc' := 162) rfl (hb hby at_138) rfl ((if0 _ _).trans (teq (by decide : (0 : Int32) = (0 : Int32))).1) (by decide) (by decide) hr) ?_
      have Zs416 : n0 ≤ hg.size := Nat.le_trans Z0 Kg.1
      obtain ⟨_, _, ⟨T417, L417, k417, n417⟩, -, X417, ⟨Lc417, hQ417, l417, y417, z417⟩, st417⟩ := LawKit.callS Xg hx (y := Y17) hown (mvT hZ (tw hw 6 rfl)) (mvT hZ (tw hw 7 rfl)) (mvT hZ (tw hw 8 rfl)) (mvT hZ (tw hw 9 rfl)) (by decide) (backOf (W := 0) (rm_oem l Z a0 hw [] eo hg n0 Zs416 (Old.keep O0 Kg hws) S_Optional_EMPTY_old) hZ (tw hw 9 rfl) (tw hw 8 rfl) (by decide) (by decide)) (g := (mkF m 162 (lw0 q1 q2 q3 q4 q5 p1 uo ue uf ut 0 u20 u21 u22 fu nw) [])) rfl (by rw [hml]; rfl) (argsL := []) (rest := []) (lenOf pd_10 rfl) rfl (wle rfl) (hb hby at_162) (fun _ _ => ⟨rfl, eg, (by decide : 2 + 0 ≤ _), (by decide : 4 + 0 ≤ _)⟩)
      dsimp only [Pt.U, Pt.locs, Pt.cells, Pt.slots] at X417 l417 y417 z417 st417 hQ417
      subst l417 y417 z417
      obtain ⟨rfl, N417q, e417⟩ := hQ417
      have N417 := Fr.app Ng N417q
      refine gsW T417 (mkF m 165 (lw0 q1 q2 q3 q4 q5 p1 uo ue uf ut 0 u20 u21 u22 fu nw) [(.ref eo)]) st417 ?_
      refine gsW T417 (mkF m 167 (lw1 q1 q2 q3 q4 q5 p1 uo ue uf ut 0 u20 u21 u22 fu nw eo) []) (fun _ hr => XS.astore X417.here hx rfl (hb hby at_165) rfl rfl (l' := (lw1 q1 q2 q3 q4 q5 p1 uo ue uf ut 0 u20 u21 u22 fu nw eo)) rfl hr) ?_
      obtain ⟨T418, h418, X418, e418, E418, A418, D418, -, st418⟩ := newO X417 hx hZ hown (tw hw 11 rfl) (tw hw 12 rfl) (tw hw 13 rfl) e417 (g := (mkF m 167 (lw1 q1 q2 q3 q4 q5 p1 uo ue uf ut 0 u20 u21 u22 fu nw eo) [])) rfl (hb hby at_167) (by decide) (by decide)
      obtain ⟨b418, g418⟩ : ∃ z, z = hg.size := ⟨_, rfl⟩
      rw [← g418] at A418 D418 st418
      have sz_b418 : h0.size ≤ b418 := Nat.le_trans Kg.1 (Nat.le_of_eq g418.symm)
      have ge_b418 : n0 ≤ b418 := Nat.le_trans Z0 sz_b418
      have K418 : Keep h0 h418 [] := Kg.ext E418
      have kle418 : 0 ≤ h418.size := Nat.le_trans kleg E418.1
      have F_b418_offset_418 : Fld Z h418 b418 cPL "offset" "J" (.long (0 : Int64)) := D418 (Or.inr (tw hw 38 rfl)) (ty := .long) (by decide)
      have F_b418_end_418 : Fld Z h418 b418 cPL "end" "J" (.long (0 : Int64)) := D418 (Or.inr (tw hw 40 rfl)) (ty := .long) (by decide)
      have F_b418_records_418 : Fld Z h418 b418 cPL "records" dOP .null := D418 (Or.inr (tw hw 42 rfl)) (ty := (.object cOP)) (by decide)
      refine gsW T418 (mkF m 170 (lw1 q1 q2 q3 q4 q5 p1 uo ue uf ut 0 u20 u21 u22 fu nw eo) [(.ref b418)]) st418 ?_
      refine gsW T418 (mkF m 171 (lw1 q1 q2 q3 q4 q5 p1 uo ue uf ut 0 u20 u21 u22 fu nw eo) [(.ref b418), (.ref b418)]) (fun _ hr => XS.dup X418.here hx rfl (hb hby at_170) rfl rfl hr) ?_
      refine gsW T418 (mkF m 173 (lw1 q1 q2 q3 q4 q5 p1 uo ue uf ut 0 u20 u21 u22 fu nw eo) [(.long uo), (.ref b418), (.ref b418)]) (fun _ hr => XT.lload X418.here hx rfl (hb hby at_171) rfl hr) ?_
      refine gsW T418 (mkF m 175 (lw1 q1 q2 q3 q4 q5 p1 uo ue uf ut 0 u20 u21 u22 fu nw eo) [(.long ue), (.long uo), (.ref b418), (.ref b418)]) (fun _ hr => XT.lload X418.here hx rfl (hb hby at_173) rfl hr) ?_
      refine gsW T418 (mkF m 177 (lw1 q1 q2 q3 q4 q5 p1 uo ue uf ut 0 u20 u21 u22 fu nw eo) [(.ref eo), (.long ue), (.long uo), (.ref b418), (.ref b418)]) (fun _ hr => XS.aload X418.here hx rfl (hb hby at_175) rfl rfl hr) ?_
      have Zs419 : n0 ≤ h418.size := Nat.le_trans Z0 K418.1
      obtain ⟨_, _, ⟨T420, L420, k420, n420⟩, -, X420, Sc420, gr420, ⟨Lc420, hQ420, l420, y420, z420⟩, st420⟩ := X418.specialBackS hx (y := Y31) rfl hown (mvT hZ (tw hw 14 rfl)) (mvT hZ (tw hw 15 rfl)) (mvT hZ (tw hw 16 rfl)) (by decide) (backOfS (W := 1) (rm_pinit l Z a0 hw [] b418 uo ue eo h418 n0 Zs419 (Old.keep O0 K418 hws) A418 F_b418_offset_418 F_b418_end_418 F_b418_records_418 ge_b418) hZ (tw hw 16 rfl) (tw hw 13 rfl) (by decide) (by decide)) (g := (mkF m 177 (lw1 q1 q2 q3 q4 q5 p1 uo ue uf ut 0 u20 u21 u22 fu nw eo) [(.ref eo), (.long ue), (.long uo), (.ref b418), (.ref b418)])) rfl (by rw [hml]; rfl) (Steps.refl _) (a := b418) (argsL := [(.long uo), (.long ue), (.ref eo)]) (rest := [(.ref b418)]) (lenOf pd_19 rfl) rfl (wle rfl) (hb hby at_177) (fun _ _ => ⟨rfl, e418, (by decide : 3 + 2 ≤ _), (by decide : 7 + 32 ≤ _)⟩)
      dsimp only [Pt.U, Pt.locs, Pt.cells, Pt.slots] at X420 l420 y420 z420 st420 hQ420 Sc420 gr420
      subst l420 y420 z420
      have Sn420 := Sn0.trans Sc420 (Nat.le_trans (show 0 ≤ T418.heap.size by rw [(e418 : T418.heap = h418)]; exact kle418) gr420)
      have hZ420 : Z.Warmed39 (s.setVm T420.vm).vm := State.Warmed39.trans (t := s.setVm s.vm) hZ Sc420.1
      have hown420 : (s.setVm T420.vm).vm.findClass "com/example/log_lag_gauge/loglaggauge/model/PositionLagAgeMsPinLaw" = some m.cls := by rw [show (s.setVm T420.vm).vm = T420.vm from rfl, Sc420.1.alike.findClass]; exact hown
      have kle420 : T420.heap.size ≤ T420.heap.size := Nat.le_refl _
      obtain ⟨rfl, N420q, Kc420, P420_0, P420_1, P420_2⟩ := hQ420
      have N420 := Fr.app N417 N420q
      have E_b418_420 : Exa Z T420.heap b418 cPL := A418.keep Kc420
      have K420 : Keep h0 T420.heap [] := K418.trans Kc420 (allS (Or.inr sz_b418) all0)
      have F_b418_records_420c : Fld Z T420.heap b418 cPL "records" dOP (.ref eo) := P420_2
      refine gsW T420 (mkF m 180 (lw1 q1 q2 q3 q4 q5 p1 uo ue uf ut 0 u20 u21 u22 fu nw eo) [(.ref b418)]) (fun _ hr => st420.trans hr) ?_
      refine gsW T420 (mkF m 182 (lw2 q1 q2 q3 q4 q5 p1 uo ue uf ut 0 u20 u21 u22 fu nw eo b418) []) (fun _ hr => XS.astore X420.here hx rfl (hb hby at_180) rfl rfl (l' := (lw2 q1 q2 q3 q4 q5 p1 uo ue uf ut 0 u20 u21 u22 fu nw eo b418)) rfl hr) ?_
      refine gsW T420 (mkF m 184 (lw2 q1 q2 q3 q4 q5 p1 uo ue uf ut 0 u20 u21 u22 fu nw eo b418) [(.ref b418)]) (fun _ hr => XS.aload X420.here hx rfl (hb hby at_182) rfl rfl hr) ?_
      have Zs421 : n0 ≤ T420.heap.size := Nat.le_trans Z0 K420.1
      obtain ⟨cq422, kq422, q422a, q422b, q422c⟩ := isOf hZ420 rfl E_b418_420
      obtain ⟨_, _, ⟨T422, L422, k422, n422⟩, -, X422, ⟨Lc422, hQ422, l422, y422, z422⟩, st422⟩ := X420.virtualBack hx (y := Y30) (z := Y30) hown420 (mvT hZ420 (tw hw 43 rfl)) (mvT hZ420 (tw hw 44 rfl)) (notFace_of_selects (args := #[]) (mvT hZ420 (tw hw 46 rfl))) (mvT hZ420 (tw hw 46 rfl)) (mvT hZ420 (tw hw 45 rfl)) (by decide) (backOf (W := 0) (rm_age_none l Z a0 hw [] b418 eo em T420.heap n0 Zs421 (Old.keep O0 K420 hws) E_b418_420 F_b418_records_420c S_OptionalLong_EMPTY_old E_em_old F_em_isPresent_old F_em_value_old S_Optional_EMPTY_old E_eo_old F_eo_value_old) hZ420 (tw hw 47 rfl) (tw hw 13 rfl) (by decide) (by decide)) q422a q422c (g := (mkF m 184 (lw2 q1 q2 q3 q4 q5 p1 uo ue uf ut 0 u20 u21 u22 fu nw eo b418) [(.ref b418)])) rfl (by rw [hml]; rfl) (Steps.refl _) (argsL := []) (rest := []) (lenOf pd_6 rfl) rfl (wle rfl) (hb hby at_184) (fun _ _ => ⟨rfl, rfl, (by decide : 5 + 1 ≤ _), (by decide : 39 + 1 ≤ _)⟩)
      dsimp only [Pt.U, Pt.locs, Pt.cells, Pt.slots] at X422 l422 y422 z422 st422 hQ422
      subst l422 y422 z422
      obtain ⟨rfl, N422q, Kc422⟩ := hQ422
      have N422 := Fr.app N420 N422q
      have K422 : Keep h0 T422.heap [] := K420.trans Kc422 all0
      have kle422 : T420.heap.size ≤ T422.heap.size := Nat.le_trans kle420 Kc422.1
      refine gsW T422 (mkF m 187 (lw2 q1 q2 q3 q4 q5 p1 uo ue uf ut 0 u20 u21 u22 fu nw eo b418) [(.ref em)]) (fun _ hr => st422.trans hr) ?_
      refine gsW T422 (mkF m 189 (lw3 q1 q2 q3 q4 q5 p1 uo ue uf ut 0 u20 u21 u22 fu nw eo b418 em) []) (fun _ hr => XS.astore X422.here hx rfl (hb hby at_187) rfl rfl (l' := (lw3 q1 q2 q3 q4 q5 p1 uo ue uf ut 0 u20 u21 u22 fu nw eo b418 em)) rfl hr) ?_
      refine gsW T422 (mkF m 190 (lw3 q1 q2 q3 q4 q5 p1 uo ue uf ut 0 u20 u21 u22 fu nw eo b418 em) [(.long (0 : Int64))]) (fun _ hr => XT.lconst X422.here hx rfl (hb hby at_189) hr) ?_
      refine gsW T422 (mkF m 192 (lw4 q1 q2 q3 q4 q5 p1 uo ue uf ut 0 u20 u21 u22 fu nw eo b418 em (0 : Int64)) []) (fun _ hr => XT.lstore X422.here hx rfl (hb hby at_190) rfl (l' := (lw4 q1 q2 q3 q4 q5 p1 uo ue uf ut 0 u20 u21 u22 fu nw eo b418 em (0 : Int64))) rfl hr) ?_
      refine gsW T422 (mkF m 194 (lw4 q1 q2 q3 q4 q5 p1 uo ue uf ut 0 u20 u21 u22 fu nw eo b418 em (0 : Int64)) [(.int (0 : Int32))]) (fun _ hr => XS.iload X422.here hx rfl (hb hby at_192) rfl  hr) ?_
      refine gsW T422 (mkF m 205 (lw4 q1 q2 q3 q4 q5 p1 uo ue uf ut 0 u20 u21 u22 fu nw eo b418 em (0 : Int64)) []) (fun _ hr => XS.ifYes X422.here hx rfl (pc0 := 194) (pc' := 205) rfl (hb hby at_194) rfl ((if0 _ _).trans (teq (by decide : (0 : Int32) = (0 : Int32))).1) (by decide) (by decide) hr) ?_
      refine gsW T422 (mkF m 206 (lw4 q1 q2 q3 q4 q5 p1 uo ue uf ut 0 u20 u21 u22 fu nw eo b418 em (0 : Int64)) [(.int (0 : Int32))]) (fun _ hr => XS.iconst X422.here hx rfl (hb hby at_205) hr) ?_
      refine gsW T422 (mkF m 208 (lw5 q1 q2 q3 q4 q5 p1 uo ue uf ut 0 u20 u21 u22 fu nw eo b418 em 0 (0 : Int64)) []) (fun _ hr => XS.istore X422.here hx rfl (hb hby at_206) rfl (l' := (lw5 q1 q2 q3 q4 q5 p1 uo ue uf ut 0 u20 u21 u22 fu nw eo b418 em 0 (0 : Int64))) rfl hr) ?_
      refine gsW T422 (mkF m 269 (lw5 q1 q2 q3 q4 q5 p1 uo ue uf ut 0 u20 u21 u22 fu nw eo b418 em 0 (0 : Int64)) []) (fun _ hr => XS.goto X422.here hx rfl (pc0 := 208) (pc' := 269) rfl (hb hby at_208) (by decide) (by decide) hr) ?_
      refine gsW T422 (mkF m 271 (lw5 q1 q2 q3 q4 q5 p1 uo ue uf ut 0 u20 u21 u22 fu nw eo b418 em 0 (0 : Int64)) [(.int (0 : Int32))]) (fun _ hr => XS.iload X422.here hx rfl (hb hby at_269) rfl  hr) ?_
      refine gsW T422 (mkF m 299 (lw5 q1 q2 q3 q4 q5 p1 uo ue uf ut 0 u20 u21 u22 fu nw eo b418 em 0 (0 : Int64)) []) (fun _ hr => XS.ifYes X422.here hx rfl (pc0 := 271) (pc' := 299) rfl (hb hby at_271) rfl ((if0 _ _).trans (teq (by decide : (0 : Int32) = (0 : Int32))).1) (by decide) (by decide) hr) ?_
      refine gsW T422 (mkF m 301 (lw5 q1 q2 q3 q4 q5 p1 uo ue uf ut 0 u20 u21 u22 fu nw eo b418 em 0 (0 : Int64)) [(.ref em)]) (fun _ hr => XS.aload X422.here hx rfl (hb hby at_299) rfl rfl hr) ?_
      have Zs423 : n0 ≤ T422.heap.size := Nat.le_trans Z0 K422.1
      obtain ⟨cq424, kq424, q424a, q424b, q424c⟩ := isOf hZ420 rfl (E_em_old.ext (Old.keep O0 K422 hws).2)
      obtain ⟨_, _, ⟨T424, L424, k424, n424⟩, -, X424, ⟨Lc424, hQ424, l424, y424, z424⟩, st424⟩ := X422.virtualBack hx (y := Y6) (z := Y6) hown420 (mvT hZ420 (tw hw 76 rfl)) (mvT hZ420 (tw hw 77 rfl)) (notFace_of_selects (args := #[]) (mvT hZ420 (tw hw 79 rfl))) (mvT hZ420 (tw hw 79 rfl)) (mvT hZ420 (tw hw 78 rfl)) (by decide) (backOf (W := 0) (rm_ole0 l Z a0 hw [] em T422.heap n0 Zs423 (Old.keep O0 K422 hws) (F_em_isPresent_old.ext (Old.keep O0 K422 hws).2)) hZ420 (tw hw 80 rfl) (tw hw 3 rfl) (by decide) (by decide)) q424a q424c (g := (mkF m 301 (lw5 q1 q2 q3 q4 q5 p1 uo ue uf ut 0 u20 u21 u22 fu nw eo b418 em 0 (0 : Int64)) [(.ref em)])) rfl (by rw [hml]; rfl) (Steps.refl _) (argsL := []) (rest := []) (lenOf pd_1 rfl) rfl (wle rfl) (hb hby at_301) (fun _ _ => ⟨rfl, rfl, (by decide : 6 + 0 ≤ _), (by decide : 40 + 0 ≤ _)⟩)
      dsimp only [Pt.U, Pt.locs, Pt.cells, Pt.slots] at X424 l424 y424 z424 st424 hQ424
      subst l424 y424 z424
      obtain ⟨rfl, N424q, e424⟩ := hQ424
      have N424 := Fr.app N422 N424q
      refine gsW T424 (mkF m 304 (lw5 q1 q2 q3 q4 q5 p1 uo ue uf ut 0 u20 u21 u22 fu nw eo b418 em 0 (0 : Int64)) [(.int (1 : Int32))]) (fun _ hr => st424.trans hr) ?_
      exact GoesW.ret (v := some (.int (1 : Int32))) X424 Sn420 (by rw [e424]; exact kle422) (by decide) (by decide) (fun h => by rw [Bd.returns] at h; cases h) ⟨rfl, N424⟩ (fun fs hr => retN X424 hx (t := .boolean) Bd.returns (by simp) (hb hby at_304) hr)
    · refine gsW Tg (mkF m 138 (lw0 q1 q2 q3 q4 q5 p1 uo ue uf ut 1 u20 u21 u22 fu nw) [(.int (1 : Int32))]) (fun _ hr => XS.iload Xg.here hx rfl (hb hby at_136) rfl  hr) ?_
      rcases own_c5 h20 uo ue with ⟨rfl, hgt⟩ | ⟨rfl, hgt⟩ | ⟨rfl, hle⟩ | ⟨rfl, hle, heq⟩ | ⟨rfl, hle, hne⟩
      · refine gsW Tg (mkF m 141 (lw0 q1 q2 q3 q4 q5 p1 uo ue uf ut 1 0 u21 u22 fu nw) []) (fun _ hr => XS.ifNo Xg.here hx rfl (hb hby at_138) rfl ((if0 _ _).trans (feq (by decide : ¬ ((1 : Int32) = (0 : Int32)))).1) hr) ?_
        obtain ⟨T425, h425, X425, e425, E425, A425, D425, -, st425⟩ := newO Xg hx hZ hown (tw hw 94 rfl) (tw hw 95 rfl) (tw hw 96 rfl) eg (g := (mkF m 141 (lw0 q1 q2 q3 q4 q5 p1 uo ue uf ut 1 0 u21 u22 fu nw) [])) rfl (hb hby at_141) (by decide) (by decide)
        obtain ⟨b425, g425⟩ : ∃ z, z = hg.size := ⟨_, rfl⟩
        rw [← g425] at A425 D425 st425
        have sz_b425 : h0.size ≤ b425 := Nat.le_trans Kg.1 (Nat.le_of_eq g425.symm)
        have ge_b425 : n0 ≤ b425 := Nat.le_trans Z0 sz_b425
        have K425 : Keep h0 h425 [] := Kg.ext E425
        have kle425 : 0 ≤ h425.size := Nat.le_trans kleg E425.1
        have F_b425_onlyMarkersLeft_425 : Fld Z h425 b425 cRR nOM "Z" (.int (0 : Int32)) := D425 (Or.inr (tw hw 105 rfl)) (ty := .boolean) (by decide)
        have F_b425_firstUnreadTimestamp_425 : Fld Z h425 b425 cRR nLT dOL .null := D425 (Or.inr (tw hw 107 rfl)) (ty := (.object cOL)) (by decide)
        have F_b425_newestTimestamp_425 : Fld Z h425 b425 cRR nNT dOL .null := D425 (Or.inr (tw hw 109 rfl)) (ty := (.object cOL)) (by decide)
        have F_b425_lookedAt_425 : Fld Z h425 b425 cRR "lookedAt" "J" (.long (0 : Int64)) := D425 (Or.inr (tw hw 111 rfl)) (ty := .long) (by decide)
        refine gsW T425 (mkF m 144 (lw0 q1 q2 q3 q4 q5 p1 uo ue uf ut 1 0 u21 u22 fu nw) [(.ref b425)]) st425 ?_
        refine gsW T425 (mkF m 145 (lw0 q1 q2 q3 q4 q5 p1 uo ue uf ut 1 0 u21 u22 fu nw) [(.ref b425), (.ref b425)]) (fun _ hr => XS.dup X425.here hx rfl (hb hby at_144) rfl rfl hr) ?_
        refine gsW T425 (mkF m 147 (lw0 q1 q2 q3 q4 q5 p1 uo ue uf ut 1 0 u21 u22 fu nw) [(.int (0 : Int32)), (.ref b425), (.ref b425)]) (fun _ hr => XS.iload X425.here hx rfl (hb hby at_145) rfl  hr) ?_
        refine gsW T425 (mkF m 149 (lw0 q1 q2 q3 q4 q5 p1 uo ue uf ut 1 0 u21 u22 fu nw) [(.ref fu), (.int (0 : Int32)), (.ref b425), (.ref b425)]) (fun _ hr => XS.aload X425.here hx rfl (hb hby at_147) rfl rfl hr) ?_
        refine gsW T425 (mkF m 151 (lw0 q1 q2 q3 q4 q5 p1 uo ue uf ut 1 0 u21 u22 fu nw) [(.ref nw), (.ref fu), (.int (0 : Int32)), (.ref b425), (.ref b425)]) (fun _ hr => XS.aload X425.here hx rfl (hb hby at_149) rfl rfl hr) ?_
        refine gsW T425 (mkF m 153 (lw0 q1 q2 q3 q4 q5 p1 uo ue uf ut 1 0 u21 u22 fu nw) [(.long ut), (.ref nw), (.ref fu), (.int (0 : Int32)), (.ref b425), (.ref b425)]) (fun _ hr => XT.lload X425.here hx rfl (hb hby at_151) rfl hr) ?_
        have Zs426 : n0 ≤ h425.size := Nat.le_trans Z0 K425.1
        obtain ⟨_, _, ⟨T427, L427, k427, n427⟩, -, X427, Sc427, gr427, ⟨Lc427, hQ427, l427, y427, z427⟩, st427⟩ := X425.specialBackS hx (y := Y32) rfl hown (mvT hZ (tw hw 97 rfl)) (mvT hZ (tw hw 98 rfl)) (mvT hZ (tw hw 99 rfl)) (by decide) (backOfS (W := 1) (rm_rinit0 l Z a0 hw [] b425 fu nw ut h425 n0 Zs426 (Old.keep O0 K425 hws) A425 F_b425_onlyMarkersLeft_425 F_b425_firstUnreadTimestamp_425 F_b425_newestTimestamp_425 F_b425_lookedAt_425 ge_b425) hZ (tw hw 99 rfl) (tw hw 96 rfl) (by decide) (by decide)) (g := (mkF m 153 (lw0 q1 q2 q3 q4 q5 p1 uo ue uf ut 1 0 u21 u22 fu nw) [(.long ut), (.ref nw), (.ref fu), (.int (0 : Int32)), (.ref b425), (.ref b425)])) rfl (by rw [hml]; rfl) (Steps.refl _) (a := b425) (argsL := [(.int (0 : Int32)), (.ref fu), (.ref nw), (.long ut)]) (rest := [(.ref b425)]) (lenOf pd_20 rfl) rfl (wle rfl) (hb hby at_153) (fun _ _ => ⟨rfl, e425, (by decide : 3 + 4 ≤ _), (by decide : 8 + 148 ≤ _)⟩)
        dsimp only [Pt.U, Pt.locs, Pt.cells, Pt.slots] at X427 l427 y427 z427 st427 hQ427 Sc427 gr427
        subst l427 y427 z427
        have Sn427 := Sn0.trans Sc427 (Nat.le_trans (show 0 ≤ T425.heap.size by rw [(e425 : T425.heap = h425)]; exact kle425) gr427)
        have hZ427 : Z.Warmed39 (s.setVm T427.vm).vm := State.Warmed39.trans (t := s.setVm s.vm) hZ Sc427.1
        have hown427 : (s.setVm T427.vm).vm.findClass "com/example/log_lag_gauge/loglaggauge/model/PositionLagAgeMsPinLaw" = some m.cls := by rw [show (s.setVm T427.vm).vm = T427.vm from rfl, Sc427.1.alike.findClass]; exact hown
        have kle427 : T427.heap.size ≤ T427.heap.size := Nat.le_refl _
        obtain ⟨rfl, N427q, Kc427, P427_0, P427_1, P427_2, P427_3⟩ := hQ427
        have N427 := Fr.app Ng N427q
        have E_b425_427 : Exa Z T427.heap b425 cRR := A425.keep Kc427
        have K427 : Keep h0 T427.heap [] := K425.trans Kc427 (allS (Or.inr sz_b425) all0)
        have F_b425_lookedAt_427c : Fld Z T427.heap b425 cRR "lookedAt" "J" (.long ut) := P427_3
        refine gsW T427 (mkF m 156 (lw0 q1 q2 q3 q4 q5 p1 uo ue uf ut 1 0 u21 u22 fu nw) [(.ref b425)]) (fun _ hr => st427.trans hr) ?_
        have Zs428 : n0 ≤ T427.heap.size := Nat.le_trans Z0 K427.1
        obtain ⟨_, _, ⟨T429, L429, k429, n429⟩, -, X429, ⟨Lc429, hQ429, l429, y429, z429⟩, st429⟩ := LawKit.callS X427 hx (y := Y15) hown427 (mvT hZ427 (tw hw 112 rfl)) (mvT hZ427 (tw hw 113 rfl)) (mvT hZ427 (tw hw 8 rfl)) (mvT hZ427 (tw hw 114 rfl)) (by decide) (backOf (W := 0) (rm_oof l Z a0 hw [] b425 T427.heap n0 Zs428 (Old.keep O0 K427 hws)) hZ427 (tw hw 114 rfl) (tw hw 8 rfl) (by decide) (by decide)) (g := (mkF m 156 (lw0 q1 q2 q3 q4 q5 p1 uo ue uf ut 1 0 u21 u22 fu nw) [(.ref b425)])) rfl (by rw [hml]; rfl) (argsL := [(.ref b425)]) (rest := []) (lenOf pd_15 rfl) rfl (wle rfl) (hb hby at_156) (fun _ _ => ⟨rfl, rfl, (by decide : 7 + 1 ≤ _), (by decide : 156 + 1 ≤ _)⟩)
        dsimp only [Pt.U, Pt.locs, Pt.cells, Pt.slots] at X429 l429 y429 z429 st429 hQ429
        subst l429 y429 z429
        obtain ⟨w429, rfl, N429q, Kc429, P429_0, P429_1, P429_2⟩ := hQ429
        have N429 := Fr.app N427 N429q
        have E_b425_429 : Exa Z T429.heap b425 cRR := E_b425_427.keep Kc429
        have F_b425_lookedAt_429 : Fld Z T429.heap b425 cRR "lookedAt" "J" (.long ut) := F_b425_lookedAt_427c.keep Kc429 nin0
        have K429 : Keep h0 T429.heap [] := K427.trans Kc429 all0
        have kle429 : T427.heap.size ≤ T429.heap.size := Nat.le_trans kle427 Kc429.1
        have E_w429_429c : Exa Z T429.heap w429 cOP := P429_1
        have F_w429_value_429c : Fld Z T429.heap w429 cOP "value" dOB (.ref b425) := P429_2
        refine gsW T429 (mkF m 159 (lw0 q1 q2 q3 q4 q5 p1 uo ue uf ut 1 0 u21 u22 fu nw) [(.ref w429)]) st429 ?_
        refine gsW T429 (mkF m 165 (lw0 q1 q2 q3 q4 q5 p1 uo ue uf ut 1 0 u21 u22 fu nw) [(.ref w429)]) (fun _ hr => XS.goto X429.here hx rfl (pc0 := 159) (pc' := 165) rfl (hb hby at_159) (by decide) (by decide) hr) ?_
        refine gsW T429 (mkF m 167 (lw1 q1 q2 q3 q4 q5 p1 uo ue uf ut 1 0 u21 u22 fu nw w429) []) (fun _ hr => XS.astore X429.here hx rfl (hb hby at_165) rfl rfl (l' := (lw1 q1 q2 q3 q4 q5 p1 uo ue uf ut 1 0 u21 u22 fu nw w429)) rfl hr) ?_
        obtain ⟨T430, h430, X430, e430, E430, A430, D430, -, st430⟩ := newO X429 hx hZ427 hown427 (tw hw 11 rfl) (tw hw 12 rfl) (tw hw 13 rfl) rfl (g := (mkF m 167 (lw1 q1 q2 q3 q4 q5 p1 uo ue uf ut 1 0 u21 u22 fu nw w429) [])) rfl (hb hby at_167) (by decide) (by decide)
        obtain ⟨b430, g430⟩ : ∃ z, z = T429.heap.size := ⟨_, rfl⟩
        rw [← g430] at A430 D430 st430
        have sz_b430 : h0.size ≤ b430 := Nat.le_trans K429.1 (Nat.le_of_eq g430.symm)
        have ge_b430 : n0 ≤ b430 := Nat.le_trans Z0 sz_b430
        have E_b425_430 : Exa Z h430 b425 cRR := E_b425_429.ext E430
        have F_b425_lookedAt_430 : Fld Z h430 b425 cRR "lookedAt" "J" (.long ut) := F_b425_lookedAt_429.ext E430
        have E_w429_430 : Exa Z h430 w429 cOP := E_w429_429c.ext E430
        have F_w429_value_430 : Fld Z h430 w429 cOP "value" dOB (.ref b425) := F_w429_value_429c.ext E430
        have K430 : Keep h0 h430 [] := K429.ext E430
        have kle430 : T427.heap.size ≤ h430.size := Nat.le_trans kle429 E430.1
        have F_b430_offset_430 : Fld Z h430 b430 cPL "offset" "J" (.long (0 : Int64)) := D430 (Or.inr (tw hw 38 rfl)) (ty := .long) (by decide)
        have F_b430_end_430 : Fld Z h430 b430 cPL "end" "J" (.long (0 : Int64)) := D430 (Or.inr (tw hw 40 rfl)) (ty := .long) (by decide)
        have F_b430_records_430 : Fld Z h430 b430 cPL "records" dOP .null := D430 (Or.inr (tw hw 42 rfl)) (ty := (.object cOP)) (by decide)
        refine gsW T430 (mkF m 170 (lw1 q1 q2 q3 q4 q5 p1 uo ue uf ut 1 0 u21 u22 fu nw w429) [(.ref b430)]) st430 ?_
        refine gsW T430 (mkF m 171 (lw1 q1 q2 q3 q4 q5 p1 uo ue uf ut 1 0 u21 u22 fu nw w429) [(.ref b430), (.ref b430)]) (fun _ hr => XS.dup X430.here hx rfl (hb hby at_170) rfl rfl hr) ?_
        refine gsW T430 (mkF m 173 (lw1 q1 q2 q3 q4 q5 p1 uo ue uf ut 1 0 u21 u22 fu nw w429) [(.long uo), (.ref b430), (.ref b430)]) (fun _ hr => XT.lload X430.here hx rfl (hb hby at_171) rfl hr) ?_
        refine gsW T430 (mkF m 175 (lw1 q1 q2 q3 q4 q5 p1 uo ue uf ut 1 0 u21 u22 fu nw w429) [(.long ue), (.long uo), (.ref b430), (.ref b430)]) (fun _ hr => XT.lload X430.here hx rfl (hb hby at_173) rfl hr) ?_
        refine gsW T430 (mkF m 177 (lw1 q1 q2 q3 q4 q5 p1 uo ue uf ut 1 0 u21 u22 fu nw w429) [(.ref w429), (.long ue), (.long uo), (.ref b430), (.ref b430)]) (fun _ hr => XS.aload X430.here hx rfl (hb hby at_175) rfl rfl hr) ?_
        have Zs431 : n0 ≤ h430.size := Nat.le_trans Z0 K430.1
        obtain ⟨_, _, ⟨T432, L432, k432, n432⟩, -, X432, Sc432, gr432, ⟨Lc432, hQ432, l432, y432, z432⟩, st432⟩ := X430.specialBackS hx (y := Y31) rfl hown427 (mvT hZ427 (tw hw 14 rfl)) (mvT hZ427 (tw hw 15 rfl)) (mvT hZ427 (tw hw 16 rfl)) (by decide) (backOfS (W := 1) (rm_pinit l Z a0 hw [] b430 uo ue w429 h430 n0 Zs431 (Old.keep O0 K430 hws) A430 F_b430_offset_430 F_b430_end_430 F_b430_records_430 ge_b430) hZ427 (tw hw 16 rfl) (tw hw 13 rfl) (by decide) (by decide)) (g := (mkF m 177 (lw1 q1 q2 q3 q4 q5 p1 uo ue uf ut 1 0 u21 u22 fu nw w429) [(.ref w429), (.long ue), (.long uo), (.ref b430), (.ref b430)])) rfl (by rw [hml]; rfl) (Steps.refl _) (a := b430) (argsL := [(.long uo), (.long ue), (.ref w429)]) (rest := [(.ref b430)]) (lenOf pd_19 rfl) rfl (wle rfl) (hb hby at_177) (fun _ _ => ⟨rfl, e430, (by decide : 9 + 2 ≤ _), (by decide : 160 + 32 ≤ _)⟩)
        dsimp only [Pt.U, Pt.locs, Pt.cells, Pt.slots] at X432 l432 y432 z432 st432 hQ432 Sc432 gr432
        subst l432 y432 z432
        have Sn432 := Sn427.trans Sc432 (Nat.le_trans (show T427.heap.size ≤ T430.heap.size by rw [(e430 : T430.heap = h430)]; exact kle430) gr432)
        have hZ432 : Z.Warmed39 (s.setVm T432.vm).vm := State.Warmed39.trans (t := s.setVm T427.vm) hZ427 Sc432.1
        have hown432 : (s.setVm T432.vm).vm.findClass "com/example/log_lag_gauge/loglaggauge/model/PositionLagAgeMsPinLaw" = some m.cls := by rw [show (s.setVm T432.vm).vm = T432.vm from rfl, Sc432.1.alike.findClass]; exact hown427
        have kle432 : T432.heap.size ≤ T432.heap.size := Nat.le_refl _
        obtain ⟨rfl, N432q, Kc432, P432_0, P432_1, P432_2⟩ := hQ432
        have N432 := Fr.app N429 N432q
        have E_b425_432 : Exa Z T432.heap b425 cRR := E_b425_430.keep Kc432
        have F_b425_lookedAt_432 : Fld Z T432.heap b425 cRR "lookedAt" "J" (.long ut) := F_b425_lookedAt_430.keep Kc432 (ninS (Nat.ne_of_lt (Nat.lt_of_lt_of_le E_b425_429.lt (Nat.le_of_eq g430.symm))) nin0)
        have E_w429_432 : Exa Z T432.heap w429 cOP := E_w429_430.keep Kc432
        have F_w429_value_432 : Fld Z T432.heap w429 cOP "value" dOB (.ref b425) := F_w429_value_430.keep Kc432 (ninS (Nat.ne_of_lt (Nat.lt_of_lt_of_le E_w429_429c.lt (Nat.le_of_eq g430.symm))) nin0)
        have E_b430_432 : Exa Z T432.heap b430 cPL := A430.keep Kc432
        have K432 : Keep h0 T432.heap [] := K430.trans Kc432 (allS (Or.inr sz_b430) all0)
        have F_b430_offset_432c : Fld Z T432.heap b430 cPL "offset" "J" (.long uo) := P432_0
        have F_b430_end_432c : Fld Z T432.heap b430 cPL "end" "J" (.long ue) := P432_1
        have F_b430_records_432c : Fld Z T432.heap b430 cPL "records" dOP (.ref w429) := P432_2
        refine gsW T432 (mkF m 180 (lw1 q1 q2 q3 q4 q5 p1 uo ue uf ut 1 0 u21 u22 fu nw w429) [(.ref b430)]) (fun _ hr => st432.trans hr) ?_
        refine gsW T432 (mkF m 182 (lw2 q1 q2 q3 q4 q5 p1 uo ue uf ut 1 0 u21 u22 fu nw w429 b430) []) (fun _ hr => XS.astore X432.here hx rfl (hb hby at_180) rfl rfl (l' := (lw2 q1 q2 q3 q4 q5 p1 uo ue uf ut 1 0 u21 u22 fu nw w429 b430)) rfl hr) ?_
        refine gsW T432 (mkF m 184 (lw2 q1 q2 q3 q4 q5 p1 uo ue uf ut 1 0 u21 u22 fu nw w429 b430) [(.ref b430)]) (fun _ hr => XS.aload X432.here hx rfl (hb hby at_182) rfl rfl hr) ?_
        have Zs433 : n0 ≤ T432.heap.size := Nat.le_trans Z0 K432.1
        obtain ⟨cq434, kq434, q434a, q434b, q434c⟩ := isOf hZ432 rfl E_b430_432
        obtain ⟨_, _, ⟨T434, L434, k434, n434⟩, -, X434, ⟨Lc434, hQ434, l434, y434, z434⟩, st434⟩ := X432.virtualBack hx (y := Y30) (z := Y30) hown432 (mvT hZ432 (tw hw 43 rfl)) (mvT hZ432 (tw hw 44 rfl)) (notFace_of_selects (args := #[]) (mvT hZ432 (tw hw 46 rfl))) (mvT hZ432 (tw hw 46 rfl)) (mvT hZ432 (tw hw 45 rfl)) (by decide) (backOf (W := 0) (rm_age_gt l Z a0 hw [] b430 b425 em uo ue ut w429 eo T432.heap n0 Zs433 (Old.keep O0 K432 hws) E_b430_432 F_b430_offset_432c F_b430_end_432c E_b425_432 F_b425_lookedAt_432 F_b430_records_432c E_w429_432 F_w429_value_432 S_OptionalLong_EMPTY_old E_em_old F_em_isPresent_old F_em_value_old S_Optional_EMPTY_old E_eo_old F_eo_value_old hgt) hZ432 (tw hw 47 rfl) (tw hw 13 rfl) (by decide) (by decide)) q434a q434c (g := (mkF m 184 (lw2 q1 q2 q3 q4 q5 p1 uo ue uf ut 1 0 u21 u22 fu nw w429 b430) [(.ref b430)])) rfl (by rw [hml]; rfl) (Steps.refl _) (argsL := []) (rest := []) (lenOf pd_6 rfl) rfl (wle rfl) (hb hby at_184) (fun _ _ => ⟨rfl, rfl, (by decide : 11 + 5 ≤ _), (by decide : 192 + 8 ≤ _)⟩)
        dsimp only [Pt.U, Pt.locs, Pt.cells, Pt.slots] at X434 l434 y434 z434 st434 hQ434
        subst l434 y434 z434
        obtain ⟨rfl, N434q, Kc434⟩ := hQ434
        have N434 := Fr.app N432 N434q
        have K434 : Keep h0 T434.heap [] := K432.trans Kc434 all0
        have kle434 : T432.heap.size ≤ T434.heap.size := Nat.le_trans kle432 Kc434.1
        refine gsW T434 (mkF m 187 (lw2 q1 q2 q3 q4 q5 p1 uo ue uf ut 1 0 u21 u22 fu nw w429 b430) [(.ref em)]) (fun _ hr => st434.trans hr) ?_
        refine gsW T434 (mkF m 189 (lw3 q1 q2 q3 q4 q5 p1 uo ue uf ut 1 0 u21 u22 fu nw w429 b430 em) []) (fun _ hr => XS.astore X434.here hx rfl (hb hby at_187) rfl rfl (l' := (lw3 q1 q2 q3 q4 q5 p1 uo ue uf ut 1 0 u21 u22 fu nw w429 b430 em)) rfl hr) ?_
        refine gsW T434 (mkF m 190 (lw3 q1 q2 q3 q4 q5 p1 uo ue uf ut 1 0 u21 u22 fu nw w429 b430 em) [(.long (0 : Int64))]) (fun _ hr => XT.lconst X434.here hx rfl (hb hby at_189) hr) ?_
        refine gsW T434 (mkF m 192 (lw4 q1 q2 q3 q4 q5 p1 uo ue uf ut 1 0 u21 u22 fu nw w429 b430 em (0 : Int64)) []) (fun _ hr => XT.lstore X434.here hx rfl (hb hby at_190) rfl (l' := (lw4 q1 q2 q3 q4 q5 p1 uo ue uf ut 1 0 u21 u22 fu nw w429 b430 em (0 : Int64))) rfl hr) ?_
        refine gsW T434 (mkF m 194 (lw4 q1 q2 q3 q4 q5 p1 uo ue uf ut 1 0 u21 u22 fu nw w429 b430 em (0 : Int64)) [(.int (1 : Int32))]) (fun _ hr => XS.iload X434.here hx rfl (hb hby at_192) rfl  hr) ?_
        refine gsW T434 (mkF m 197 (lw4 q1 q2 q3 q4 q5 p1 uo ue uf ut 1 0 u21 u22 fu nw w429 b430 em (0 : Int64)) []) (fun _ hr => XS.ifNo X434.here hx rfl (hb hby at_194) rfl ((if0 _ _).trans (feq (by decide : ¬ ((1 : Int32) = (0 : Int32)))).1) hr) ?_
        refine gsW T434 (mkF m 199 (lw4 q1 q2 q3 q4 q5 p1 uo ue uf ut 1 0 u21 u22 fu nw w429 b430 em (0 : Int64)) [(.long uo)]) (fun _ hr => XT.lload X434.here hx rfl (hb hby at_197) rfl hr) ?_
        refine gsW T434 (mkF m 201 (lw4 q1 q2 q3 q4 q5 p1 uo ue uf ut 1 0 u21 u22 fu nw w429 b430 em (0 : Int64)) [(.long ue), (.long uo)]) (fun _ hr => XT.lload X434.here hx rfl (hb hby at_199) rfl hr) ?_
        refine gsW T434 (mkF m 202 (lw4 q1 q2 q3 q4 q5 p1 uo ue uf ut 1 0 u21 u22 fu nw w429 b430 em (0 : Int64)) [(.int (XT.cmpL uo ue))]) (fun _ hr => XT.lcmp X434.here hx rfl (hb hby at_201) rfl hr) ?_
        refine gsW T434 (mkF m 205 (lw4 q1 q2 q3 q4 q5 p1 uo ue uf ut 1 0 u21 u22 fu nw w429 b430 em (0 : Int64)) []) (fun _ hr => XS.ifNo X434.here hx rfl (hb hby at_202) rfl ((if0 _ _).trans (tlt (hgt : (0 : Int32) < (XT.cmpL uo ue))).2.2.2) hr) ?_
        refine gsW T434 (mkF m 206 (lw4 q1 q2 q3 q4 q5 p1 uo ue uf ut 1 0 u21 u22 fu nw w429 b430 em (0 : Int64)) [(.int (0 : Int32))]) (fun _ hr => XS.iconst X434.here hx rfl (hb hby at_205) hr) ?_
        refine gsW T434 (mkF m 208 (lw5 q1 q2 q3 q4 q5 p1 uo ue uf ut 1 0 u21 u22 fu nw w429 b430 em 0 (0 : Int64)) []) (fun _ hr => XS.istore X434.here hx rfl (hb hby at_206) rfl (l' := (lw5 q1 q2 q3 q4 q5 p1 uo ue uf ut 1 0 u21 u22 fu nw w429 b430 em 0 (0 : Int64))) rfl hr) ?_
        refine gsW T434 (mkF m 269 (lw5 q1 q2 q3 q4 q5 p1 uo ue uf ut 1 0 u21 u22 fu nw w429 b430 em 0 (0 : Int64)) []) (fun _ hr => XS.goto X434.here hx rfl (pc0 := 208) (pc' := 269) rfl (hb hby at_208) (by decide) (by decide) hr) ?_
        refine gsW T434 (mkF m 271 (lw5 q1 q2 q3 q4 q5 p1 uo ue uf ut 1 0 u21 u22 fu nw w429 b430 em 0 (0 : Int64)) [(.int (0 : Int32))]) (fun _ hr => XS.iload X434.here hx rfl (hb hby at_269) rfl  hr) ?_
        refine gsW T434 (mkF m 299 (lw5 q1 q2 q3 q4 q5 p1 uo ue uf ut 1 0 u21 u22 fu nw w429 b430 em 0 (0 : Int64)) []) (fun _ hr => XS.ifYes X434.here hx rfl (pc0 := 271) (pc' := 299) rfl (hb hby at_271) rfl ((if0 _ _).trans (teq (by decide : (0 : Int32) = (0 : Int32))).1) (by decide) (by decide) hr) ?_
        refine gsW T434 (mkF m 301 (lw5 q1 q2 q3 q4 q5 p1 uo ue uf ut 1 0 u21 u22 fu nw w429 b430 em 0 (0 : Int64)) [(.ref em)]) (fun _ hr => XS.aload X434.here hx rfl (hb hby at_299) rfl rfl hr) ?_
        have Zs435 : n0 ≤ T434.heap.size := Nat.le_trans Z0 K434.1
        obtain ⟨cq436, kq436, q436a, q436b, q436c⟩ := isOf hZ432 rfl (E_em_old.ext (Old.keep O0 K434 hws).2)
        obtain ⟨_, _, ⟨T436, L436, k436, n436⟩, -, X436, ⟨Lc436, hQ436, l436, y436, z436⟩, st436⟩ := X434.virtualBack hx (y := Y6) (z := Y6) hown432 (mvT hZ432 (tw hw 76 rfl)) (mvT hZ432 (tw hw 77 rfl)) (notFace_of_selects (args := #[]) (mvT hZ432 (tw hw 79 rfl))) (mvT hZ432 (tw hw 79 rfl)) (mvT hZ432 (tw hw 78 rfl)) (by decide) (backOf (W := 0) (rm_ole0 l Z a0 hw [] em T434.heap n0 Zs435 (Old.keep O0 K434 hws) (F_em_isPresent_old.ext (Old.keep O0 K434 hws).2)) hZ432 (tw hw 80 rfl) (tw hw 3 rfl) (by decide) (by decide)) q436a q436c (g := (mkF m 301 (lw5 q1 q2 q3 q4 q5 p1 uo ue uf ut 1 0 u21 u22 fu nw w429 b430 em 0 (0 : Int64)) [(.ref em)])) rfl (by rw [hml]; rfl) (Steps.refl _) (argsL := []) (rest := []) (lenOf pd_1 rfl) rfl (wle rfl) (hb hby at_301) (fun _ _ => ⟨rfl, rfl, (by decide : 16 + 0 ≤ _), (by decide : 200 + 0 ≤ _)⟩)
        dsimp only [Pt.U, Pt.locs, Pt.cells, Pt.slots] at X436 l436 y436 z436 st436 hQ436
        subst l436 y436 z436
        obtain ⟨rfl, N436q, e436⟩ := hQ436
        have N436 := Fr.app N434 N436q
        refine gsW T436 (mkF m 304 (lw5 q1 q2 q3 q4 q5 p1 uo ue uf ut 1 0 u21 u22 fu nw w429 b430 em 0 (0 : Int64)) [(.int (1 : Int32))]) (fun _ hr => st436.trans hr) ?_
        exact GoesW.ret (v := some (.int (1 : Int32))) X436 Sn432 (by rw [e436]; exact kle434) (by decide) (by decide) (fun h => by rw [Bd.returns] at h; cases h) ⟨rfl, N436⟩ (fun fs hr => retN X436 hx (t := .boolean) Bd.returns (by simp) (hb hby at_304) hr)
      · refine gsW Tg (mkF m 141 (lw0 q1 q2 q3 q4 q5 p1 uo ue uf ut 1 1 u21 u22 fu nw) []) (fun _ hr => XS.ifNo Xg.here hx rfl (hb hby at_138) rfl ((if0 _ _).trans (feq (by decide : ¬ ((1 : Int32) = (0 : Int32)))).1) hr) ?_
        obtain ⟨T437, h437, X437, e437, E437, A437, D437, -, st437⟩ := newO Xg hx hZ hown (tw hw 94 rfl) (tw hw 95 rfl) (tw hw 96 rfl) eg (g := (mkF m 141 (lw0 q1 q2 q3 q4 q5 p1 uo ue uf ut 1 1 u21 u22 fu nw) [])) rfl (hb hby at_141) (by decide) (by decide)
        obtain ⟨b437, g437⟩ : ∃ z, z = hg.size := ⟨_, rfl⟩
        rw [← g437] at A437 D437 st437
        have sz_b437 : h0.size ≤ b437 := Nat.le_trans Kg.1 (Nat.le_of_eq g437.symm)
        have ge_b437 : n0 ≤ b437 := Nat.le_trans Z0 sz_b437
        have K437 : Keep h0 h437 [] := Kg.ext E437
        have kle437 : 0 ≤ h437.size := Nat.le_trans kleg E437.1
        have F_b437_onlyMarkersLeft_437 : Fld Z h437 b437 cRR nOM "Z" (.int (0 : Int32)) := D437 (Or.inr (tw hw 105 rfl)) (ty := .boolean) (by decide)
        have F_b437_firstUnreadTimestamp_437 : Fld Z h437 b437 cRR nLT dOL .null := D437 (Or.inr (tw hw 107 rfl)) (ty := (.object cOL)) (by decide)
        have F_b437_newestTimestamp_437 : Fld Z h437 b437 cRR nNT dOL .null := D437 (Or.inr (tw hw 109 rfl)) (ty := (.object cOL)) (by decide)
        have F_b437_lookedAt_437 : Fld Z h437 b437 cRR "lookedAt" "J" (.long (0 : Int64)) := D437 (Or.inr (tw hw 111 rfl)) (ty := .long) (by decide)
        refine gsW T437 (mkF m 144 (lw0 q1 q2 q3 q4 q5 p1 uo ue uf ut 1 1 u21 u22 fu nw) [(.ref b437)]) st437 ?_
        refine gsW T437 (mkF m 145 (lw0 q1 q2 q3 q4 q5 p1 uo ue uf ut 1 1 u21 u22 fu nw) [(.ref b437), (.ref b437)]) (fun _ hr => XS.dup X437.here hx rfl (hb hby at_144) rfl rfl hr) ?_
        refine gsW T437 (mkF m 147 (lw0 q1 q2 q3 q4 q5 p1 uo ue uf ut 1 1 u21 u22 fu nw) [(.int (1 : Int32)), (.ref b437), (.ref b437)]) (fun _ hr => XS.iload X437.here hx rfl (hb hby at_145) rfl  hr) ?_
        refine gsW T437 (mkF m 149 (lw0 q1 q2 q3 q4 q5 p1 uo ue uf ut 1 1 u21 u22 fu nw) [(.ref fu), (.int (1 : Int32)), (.ref b437), (.ref b437)]) (fun _ hr => XS.aload X437.here hx rfl (hb hby at_147) rfl rfl hr) ?_
        refine gsW T437 (mkF m 151 (lw0 q1 q2 q3 q4 q5 p1 uo ue uf ut 1 1 u21 u22 fu nw) [(.ref nw), (.ref fu), (.int (1 : Int32)), (.ref b437), (.ref b437)]) (fun _ hr => XS.aload X437.here hx rfl (hb hby at_149) rfl rfl hr) ?_
        refine gsW T437 (mkF m 153 (lw0 q1 q2 q3 q4 q5 p1 uo ue uf ut 1 1 u21 u22 fu nw) [(.long ut), (.ref nw), (.ref fu), (.int (1 : Int32)), (.ref b437), (.ref b437)]) (fun _ hr => XT.lload X437.here hx rfl (hb hby at_151) rfl hr) ?_
        have Zs438 : n0 ≤ h437.size := Nat.le_trans Z0 K437.1
        obtain ⟨_, _, ⟨T439, L439, k439, n439⟩, -, X439, Sc439, gr439, ⟨Lc439, hQ439, l439, y439, z439⟩, st439⟩ := X437.specialBackS hx (y := Y32) rfl hown (mvT hZ (tw hw 97 rfl)) (mvT hZ (tw hw 98 rfl)) (mvT hZ (tw hw 99 rfl)) (by decide) (backOfS (W := 1) (rm_rinit1 l Z a0 hw [] b437 fu nw ut h437 n0 Zs438 (Old.keep O0 K437 hws) A437 F_b437_onlyMarkersLeft_437 F_b437_firstUnreadTimestamp_437 F_b437_newestTimestamp_437 F_b437_lookedAt_437 ge_b437) hZ (tw hw 99 rfl) (tw hw 96 rfl) (by decide) (by decide)) (g := (mkF m 153 (lw0 q1 q2 q3 q4 q5 p1 uo ue uf ut 1 1 u21 u22 fu nw) [(.long ut), (.ref nw), (.ref fu), (.int (1 : Int32)), (.ref b437), (.ref b437)])) rfl (by rw [hml]; rfl) (Steps.refl _) (a := b437) (argsL := [(.int (1 : Int32)), (.ref fu), (.ref nw), (.long ut)]) (rest := [(.ref b437)]) (lenOf pd_20 rfl) rfl (wle rfl) (hb hby at_153) (fun _ _ => ⟨rfl, e437, (by decide : 3 + 4 ≤ _), (by decide : 8 + 148 ≤ _)⟩)
        dsimp only [Pt.U, Pt.locs, Pt.cells, Pt.slots] at X439 l439 y439 z439 st439 hQ439 Sc439 gr439
        subst l439 y439 z439
        have Sn439 := Sn0.trans Sc439 (Nat.le_trans (show 0 ≤ T437.heap.size by rw [(e437 : T437.heap = h437)]; exact kle437) gr439)
        have hZ439 : Z.Warmed39 (s.setVm T439.vm).vm := State.Warmed39.trans (t := s.setVm s.vm) hZ Sc439.1
        have hown439 : (s.setVm T439.vm).vm.findClass "com/example/log_lag_gauge/loglaggauge/model/PositionLagAgeMsPinLaw" = some m.cls := by rw [show (s.setVm T439.vm).vm = T439.vm from rfl, Sc439.1.alike.findClass]; exact hown
        have kle439 : T439.heap.size ≤ T439.heap.size := Nat.le_refl _
        obtain ⟨rfl, N439q, Kc439, P439_0, P439_1, P439_2, P439_3⟩ := hQ439
        have N439 := Fr.app Ng N439q
        have E_b437_439 : Exa Z T439.heap b437 cRR := A437.keep Kc439
        have K439 : Keep h0 T439.heap [] := K437.trans Kc439 (allS (Or.inr sz_b437) all0)
        have F_b437_lookedAt_439c : Fld Z T439.heap b437 cRR "lookedAt" "J" (.long ut) := P439_3
        refine gsW T439 (mkF m 156 (lw0 q1 q2 q3 q4 q5 p1 uo ue uf ut 1 1 u21 u22 fu nw) [(.ref b437)]) (fun _ hr => st439.trans hr) ?_
        have Zs440 : n0 ≤ T439.heap.size := Nat.le_trans Z0 K439.1
        obtain ⟨_, _, ⟨T441, L441, k441, n441⟩, -, X441, ⟨Lc441, hQ441, l441, y441, z441⟩, st441⟩ := LawKit.callS X439 hx (y := Y15) hown439 (mvT hZ439 (tw hw 112 rfl)) (mvT hZ439 (tw hw 113 rfl)) (mvT hZ439 (tw hw 8 rfl)) (mvT hZ439 (tw hw 114 rfl)) (by decide) (backOf (W := 0) (rm_oof l Z a0 hw [] b437 T439.heap n0 Zs440 (Old.keep O0 K439 hws)) hZ439 (tw hw 114 rfl) (tw hw 8 rfl) (by decide) (by decide)) (g := (mkF m 156 (lw0 q1 q2 q3 q4 q5 p1 uo ue uf ut 1 1 u21 u22 fu nw) [(.ref b437)])) rfl (by rw [hml]; rfl) (argsL := [(.ref b437)]) (rest := []) (lenOf pd_15 rfl) rfl (wle rfl) (hb hby at_156) (fun _ _ => ⟨rfl, rfl, (by decide : 7 + 1 ≤ _), (by decide : 156 + 1 ≤ _)⟩)
        dsimp only [Pt.U, Pt.locs, Pt.cells, Pt.slots] at X441 l441 y441 z441 st441 hQ441
        subst l441 y441 z441
        obtain ⟨w441, rfl, N441q, Kc441, P441_0, P441_1, P441_2⟩ := hQ441
        have N441 := Fr.app N439 N441q
        have E_b437_441 : Exa Z T441.heap b437 cRR := E_b437_439.keep Kc441
        have F_b437_lookedAt_441 : Fld Z T441.heap b437 cRR "lookedAt" "J" (.long ut) := F_b437_lookedAt_439c.keep Kc441 nin0
        have K441 : Keep h0 T441.heap [] := K439.trans Kc441 all0
        have kle441 : T439.heap.size ≤ T441.heap.size := Nat.le_trans kle439 Kc441.1
        have E_w441_441c : Exa Z T441.heap w441 cOP := P441_1
        have F_w441_value_441c : Fld Z T441.heap w441 cOP "value" dOB (.ref b437) := P441_2
        refine gsW T441 (mkF m 159 (lw0 q1 q2 q3 q4 q5 p1 uo ue uf ut 1 1 u21 u22 fu nw) [(.ref w441)]) st441 ?_
        refine gsW T441 (mkF m 165 (lw0 q1 q2 q3 q4 q5 p1 uo ue uf ut 1 1 u21 u22 fu nw) [(.ref w441)]) (fun _ hr => XS.goto X441.here hx rfl (pc0 := 159) (pc' := 165) rfl (hb hby at_159) (by decide) (by decide) hr) ?_
        refine gsW T441 (mkF m 167 (lw1 q1 q2 q3 q4 q5 p1 uo ue uf ut 1 1 u21 u22 fu nw w441) []) (fun _ hr => XS.astore X441.here hx rfl (hb hby at_165) rfl rfl (l' := (lw1 q1 q2 q3 q4 q5 p1 uo ue uf ut 1 1 u21 u22 fu nw w441)) rfl hr) ?_
        obtain ⟨T442, h442, X442, e442, E442, A442, D442, -, st442⟩ := newO X441 hx hZ439 hown439 (tw hw 11 rfl) (tw hw 12 rfl) (tw hw 13 rfl) rfl (g := (mkF m 167 (lw1 q1 q2 q3 q4 q5 p1 uo ue uf ut 1 1 u21 u22 fu nw w441) [])) rfl (hb hby at_167) (by decide) (by decide)
        obtain ⟨b442, g442⟩ : ∃ z, z = T441.heap.size := ⟨_, rfl⟩
        rw [← g442] at A442 D442 st442
        have sz_b442 : h0.size ≤ b442 := Nat.le_trans K441.1 (Nat.le_of_eq g442.symm)
        have ge_b442 : n0 ≤ b442 := Nat.le_trans Z0 sz_b442
        have E_b437_442 : Exa Z h442 b437 cRR := E_b437_441.ext E442
        have F_b437_lookedAt_442 : Fld Z h442 b437 cRR "lookedAt" "J" (.long ut) := F_b437_lookedAt_441.ext E442
        have E_w441_442 : Exa Z h442 w441 cOP := E_w441_441c.ext E442
        have F_w441_value_442 : Fld Z h442 w441 cOP "value" dOB (.ref b437) := F_w441_value_441c.ext E442
        have K442 : Keep h0 h442 [] := K441.ext E442
        have kle442 : T439.heap.size ≤ h442.size := Nat.le_trans kle441 E442.1
        have F_b442_offset_442 : Fld Z h442 b442 cPL "offset" "J" (.long (0 : Int64)) := D442 (Or.inr (tw hw 38 rfl)) (ty := .long) (by decide)
        have F_b442_end_442 : Fld Z h442 b442 cPL "end" "J" (.long (0 : Int64)) := D442 (Or.inr (tw hw 40 rfl)) (ty := .long) (by decide)
        have F_b442_records_442 : Fld Z h442 b442 cPL "records" dOP .null := D442 (Or.inr (tw hw 42 rfl)) (ty := (.object cOP)) (by decide)
        refine gsW T442 (mkF m 170 (lw1 q1 q2 q3 q4 q5 p1 uo ue uf ut 1 1 u21 u22 fu nw w441) [(.ref b442)]) st442 ?_
        refine gsW T442 (mkF m 171 (lw1 q1 q2 q3 q4 q5 p1 uo ue uf ut 1 1 u21 u22 fu nw w441) [(.ref b442), (.ref b442)]) (fun _ hr => XS.dup X442.here hx rfl (hb hby at_170) rfl rfl hr) ?_
        refine gsW T442 (mkF m 173 (lw1 q1 q2 q3 q4 q5 p1 uo ue uf ut 1 1 u21 u22 fu nw w441) [(.long uo), (.ref b442), (.ref b442)]) (fun _ hr => XT.lload X442.here hx rfl (hb hby at_171) rfl hr) ?_
        refine gsW T442 (mkF m 175 (lw1 q1 q2 q3 q4 q5 p1 uo ue uf ut 1 1 u21 u22 fu nw w441) [(.long ue), (.long uo), (.ref b442), (.ref b442)]) (fun _ hr => XT.lload X442.here hx rfl (hb hby at_173) rfl hr) ?_
        refine gsW T442 (mkF m 177 (lw1 q1 q2 q3 q4 q5 p1 uo ue uf ut 1 1 u21 u22 fu nw w441) [(.ref w441), (.long ue), (.long uo), (.ref b442), (.ref b442)]) (fun _ hr => XS.aload X442.here hx rfl (hb hby at_175) rfl rfl hr) ?_
        have Zs443 : n0 ≤ h442.size := Nat.le_trans Z0 K442.1
        obtain ⟨_, _, ⟨T444, L444, k444, n444⟩, -, X444, Sc444, gr444, ⟨Lc444, hQ444, l444, y444, z444⟩, st444⟩ := X442.specialBackS hx (y := Y31) rfl hown439 (mvT hZ439 (tw hw 14 rfl)) (mvT hZ439 (tw hw 15 rfl)) (mvT hZ439 (tw hw 16 rfl)) (by decide) (backOfS (W := 1) (rm_pinit l Z a0 hw [] b442 uo ue w441 h442 n0 Zs443 (Old.keep O0 K442 hws) A442 F_b442_offset_442 F_b442_end_442 F_b442_records_442 ge_b442) hZ439 (tw hw 16 rfl) (tw hw 13 rfl) (by decide) (by decide)) (g := (mkF m 177 (lw1 q1 q2 q3 q4 q5 p1 uo ue uf ut 1 1 u21 u22 fu nw w441) [(.ref w441), (.long ue), (.long uo), (.ref b442), (.ref b442)])) rfl (by rw [hml]; rfl) (Steps.refl _) (a := b442) (argsL := [(.long uo), (.long ue), (.ref w441)]) (rest := [(.ref b442)]) (lenOf pd_19 rfl) rfl (wle rfl) (hb hby at_177) (fun _ _ => ⟨rfl, e442, (by decide : 9 + 2 ≤ _), (by decide : 160 + 32 ≤ _)⟩)
        dsimp only [Pt.U, Pt.locs, Pt.cells, Pt.slots] at X444 l444 y444 z444 st444 hQ444 Sc444 gr444
        subst l444 y444 z444
        have Sn444 := Sn439.trans Sc444 (Nat.le_trans (show T439.heap.size ≤ T442.heap.size by rw [(e442 : T442.heap = h442)]; exact kle442) gr444)
        have hZ444 : Z.Warmed39 (s.setVm T444.vm).vm := State.Warmed39.trans (t := s.setVm T439.vm) hZ439 Sc444.1
        have hown444 : (s.setVm T444.vm).vm.findClass "com/example/log_lag_gauge/loglaggauge/model/PositionLagAgeMsPinLaw" = some m.cls := by rw [show (s.setVm T444.vm).vm = T444.vm from rfl, Sc444.1.alike.findClass]; exact hown439
        have kle444 : T444.heap.size ≤ T444.heap.size := Nat.le_refl _
        obtain ⟨rfl, N444q, Kc444, P444_0, P444_1, P444_2⟩ := hQ444
        have N444 := Fr.app N441 N444q
        have E_b437_444 : Exa Z T444.heap b437 cRR := E_b437_442.keep Kc444
        have F_b437_lookedAt_444 : Fld Z T444.heap b437 cRR "lookedAt" "J" (.long ut) := F_b437_lookedAt_442.keep Kc444 (ninS (Nat.ne_of_lt (Nat.lt_of_lt_of_le E_b437_441.lt (Nat.le_of_eq g442.symm))) nin0)
        have E_w441_444 : Exa Z T444.heap w441 cOP := E_w441_442.keep Kc444
        have F_w441_value_444 : Fld Z T444.heap w441 cOP "value" dOB (.ref b437) := F_w441_value_442.keep Kc444 (ninS (Nat.ne_of_lt (Nat.lt_of_lt_of_le E_w441_441c.lt (Nat.le_of_eq g442.symm))) nin0)
        have E_b442_444 : Exa Z T444.heap b442 cPL := A442.keep Kc444
        have K444 : Keep h0 T444.heap [] := K442.trans Kc444 (allS (Or.inr sz_b442) all0)
        have F_b442_offset_444c : Fld Z T444.heap b442 cPL "offset" "J" (.long uo) := P444_0
        have F_b442_end_444c : Fld Z T444.heap b442 cPL "end" "J" (.long ue) := P444_1
        have F_b442_records_444c : Fld Z T444.heap b442 cPL "records" dOP (.ref w441) := P444_2
        refine gsW T444 (mkF m 180 (lw1 q1 q2 q3 q4 q5 p1 uo ue uf ut 1 1 u21 u22 fu nw w441) [(.ref b442)]) (fun _ hr => st444.trans hr) ?_
        refine gsW T444 (mkF m 182 (lw2 q1 q2 q3 q4 q5 p1 uo ue uf ut 1 1 u21 u22 fu nw w441 b442) []) (fun _ hr => XS.astore X444.here hx rfl (hb hby at_180) rfl rfl (l' := (lw2 q1 q2 q3 q4 q5 p1 uo ue uf ut 1 1 u21 u22 fu nw w441 b442)) rfl hr) ?_
        refine gsW T444 (mkF m 184 (lw2 q1 q2 q3 q4 q5 p1 uo ue uf ut 1 1 u21 u22 fu nw w441 b442) [(.ref b442)]) (fun _ hr => XS.aload X444.here hx rfl (hb hby at_182) rfl rfl hr) ?_
        have Zs445 : n0 ≤ T444.heap.size := Nat.le_trans Z0 K444.1
        obtain ⟨cq446, kq446, q446a, q446b, q446c⟩ := isOf hZ444 rfl E_b442_444
        obtain ⟨_, _, ⟨T446, L446, k446, n446⟩, -, X446, ⟨Lc446, hQ446, l446, y446, z446⟩, st446⟩ := X444.virtualBack hx (y := Y30) (z := Y30) hown444 (mvT hZ444 (tw hw 43 rfl)) (mvT hZ444 (tw hw 44 rfl)) (notFace_of_selects (args := #[]) (mvT hZ444 (tw hw 46 rfl))) (mvT hZ444 (tw hw 46 rfl)) (mvT hZ444 (tw hw 45 rfl)) (by decide) (backOf (W := 0) (rm_age_gt l Z a0 hw [] b442 b437 em uo ue ut w441 eo T444.heap n0 Zs445 (Old.keep O0 K444 hws) E_b442_444 F_b442_offset_444c F_b442_end_444c E_b437_444 F_b437_lookedAt_444 F_b442_records_444c E_w441_444 F_w441_value_444 S_OptionalLong_EMPTY_old E_em_old F_em_isPresent_old F_em_value_old S_Optional_EMPTY_old E_eo_old F_eo_value_old hgt) hZ444 (tw hw 47 rfl) (tw hw 13 rfl) (by decide) (by decide)) q446a q446c (g := (mkF m 184 (lw2 q1 q2 q3 q4 q5 p1 uo ue uf ut 1 1 u21 u22 fu nw w441 b442) [(.ref b442)])) rfl (by rw [hml]; rfl) (Steps.refl _) (argsL := []) (rest := []) (lenOf pd_6 rfl) rfl (wle rfl) (hb hby at_184) (fun _ _ => ⟨rfl, rfl, (by decide : 11 + 5 ≤ _), (by decide : 192 + 8 ≤ _)⟩)
        dsimp only [Pt.U, Pt.locs, Pt.cells, Pt.slots] at X446 l446 y446 z446 st446 hQ446
        subst l446 y446 z446
        obtain ⟨rfl, N446q, Kc446⟩ := hQ446
        have N446 := Fr.app N444 N446q
        have K446 : Keep h0 T446.heap [] := K444.trans Kc446 all0
        have kle446 : T444.heap.size ≤ T446.heap.size := Nat.le_trans kle444 Kc446.1
        refine gsW T446 (mkF m 187 (lw2 q1 q2 q3 q4 q5 p1 uo ue uf ut 1 1 u21 u22 fu nw w441 b442) [(.ref em)]) (fun _ hr => st446.trans hr) ?_
        refine gsW T446 (mkF m 189 (lw3 q1 q2 q3 q4 q5 p1 uo ue uf ut 1 1 u21 u22 fu nw w441 b442 em) []) (fun _ hr => XS.astore X446.here hx rfl (hb hby at_187) rfl rfl (l' := (lw3 q1 q2 q3 q4 q5 p1 uo ue uf ut 1 1 u21 u22 fu nw w441 b442 em)) rfl hr) ?_
        refine gsW T446 (mkF m 190 (lw3 q1 q2 q3 q4 q5 p1 uo ue uf ut 1 1 u21 u22 fu nw w441 b442 em) [(.long (0 : Int64))]) (fun _ hr => XT.lconst X446.here hx rfl (hb hby at_189) hr) ?_
        refine gsW T446 (mkF m 192 (lw4 q1 q2 q3 q4 q5 p1 uo ue uf ut 1 1 u21 u22 fu nw w441 b442 em (0 : Int64)) []) (fun _ hr => XT.lstore X446.here hx rfl (hb hby at_190) rfl (l' := (lw4 q1 q2 q3 q4 q5 p1 uo ue uf ut 1 1 u21 u22 fu nw w441 b442 em (0 : Int64))) rfl hr) ?_
        refine gsW T446 (mkF m 194 (lw4 q1 q2 q3 q4 q5 p1 uo ue uf ut 1 1 u21 u22 fu nw w441 b442 em (0 : Int64)) [(.int (1 : Int32))]) (fun _ hr => XS.iload X446.here hx rfl (hb hby at_192) rfl  hr) ?_
        refine gsW T446 (mkF m 197 (lw4 q1 q2 q3 q4 q5 p1 uo ue uf ut 1 1 u21 u22 fu nw w441 b442 em (0 : Int64)) []) (fun _ hr => XS.ifNo X446.here hx rfl (hb hby at_194) rfl ((if0 _ _).trans (feq (by decide : ¬ ((1 : Int32) = (0 : Int32)))).1) hr) ?_
        refine gsW T446 (mkF m 199 (lw4 q1 q2 q3 q4 q5 p1 uo ue uf ut 1 1 u21 u22 fu nw w441 b442 em (0 : Int64)) [(.long uo)]) (fun _ hr => XT.lload X446.here hx rfl (hb hby at_197) rfl hr) ?_
        refine gsW T446 (mkF m 201 (lw4 q1 q2 q3 q4 q5 p1 uo ue uf ut 1 1 u21 u22 fu nw w441 b442 em (0 : Int64)) [(.long ue), (.long uo)]) (fun _ hr => XT.lload X446.here hx rfl (hb hby at_199) rfl hr) ?_
        refine gsW T446 (mkF m 202 (lw4 q1 q2 q3 q4 q5 p1 uo ue uf ut 1 1 u21 u22 fu nw w441 b442 em (0 : Int64)) [(.int (XT.cmpL uo ue))]) (fun _ hr => XT.lcmp X446.here hx rfl (hb hby at_201) rfl hr) ?_
        refine gsW T446 (mkF m 205 (lw4 q1 q2 q3 q4 q5 p1 uo ue uf ut 1 1 u21 u22 fu nw w441 b442 em (0 : Int64)) []) (fun _ hr => XS.ifNo X446.here hx rfl (hb hby at_202) rfl ((if0 _ _).trans (tlt (hgt : (0 : Int32) < (XT.cmpL uo ue))).2.2.2) hr) ?_
        refine gsW T446 (mkF m 206 (lw4 q1 q2 q3 q4 q5 p1 uo ue uf ut 1 1 u21 u22 fu nw w441 b442 em (0 : Int64)) [(.int (0 : Int32))]) (fun _ hr => XS.iconst X446.here hx rfl (hb hby at_205) hr) ?_
        refine gsW T446 (mkF m 208 (lw5 q1 q2 q3 q4 q5 p1 uo ue uf ut 1 1 u21 u22 fu nw w441 b442 em 0 (0 : Int64)) []) (fun _ hr => XS.istore X446.here hx rfl (hb hby at_206) rfl (l' := (lw5 q1 q2 q3 q4 q5 p1 uo ue uf ut 1 1 u21 u22 fu nw w441 b442 em 0 (0 : Int64))) rfl hr) ?_
        refine gsW T446 (mkF m 269 (lw5 q1 q2 q3 q4 q5 p1 uo ue uf ut 1 1 u21 u22 fu nw w441 b442 em 0 (0 : Int64)) []) (fun _ hr => XS.goto X446.here hx rfl (pc0 := 208) (pc' := 269) rfl (hb hby at_208) (by decide) (by decide) hr) ?_
        refine gsW T446 (mkF m 271 (lw5 q1 q2 q3 q4 q5 p1 uo ue uf ut 1 1 u21 u22 fu nw w441 b442 em 0 (0 : Int64)) [(.int (0 : Int32))]) (fun _ hr => XS.iload X446.here hx rfl (hb hby at_269) rfl  hr) ?_
        refine gsW T446 (mkF m 299 (lw5 q1 q2 q3 q4 q5 p1 uo ue uf ut 1 1 u21 u22 fu nw w441 b442 em 0 (0 : Int64)) []) (fun _ hr => XS.ifYes X446.here hx rfl (pc0 := 271) (pc' := 299) rfl (hb hby at_271) rfl ((if0 _ _).trans (teq (by decide : (0 : Int32) = (0 : Int32))).1) (by decide) (by decide) hr) ?_
        refine gsW T446 (mkF m 301 (lw5 q1 q2 q3 q4 q5 p1 uo ue uf ut 1 1 u21 u22 fu nw w441 b442 em 0 (0 : Int64)) [(.ref em)]) (fun _ hr => XS.aload X446.here hx rfl (hb hby at_299) rfl rfl hr) ?_
        have Zs447 : n0 ≤ T446.heap.size := Nat.le_trans Z0 K446.1
        obtain ⟨cq448, kq448, q448a, q448b, q448c⟩ := isOf hZ444 rfl (E_em_old.ext (Old.keep O0 K446 hws).2)
        obtain ⟨_, _, ⟨T448, L448, k448, n448⟩, -, X448, ⟨Lc448, hQ448, l448, y448, z448⟩, st448⟩ := X446.virtualBack hx (y := Y6) (z := Y6) hown444 (mvT hZ444 (tw hw 76 rfl)) (mvT hZ444 (tw hw 77 rfl)) (notFace_of_selects (args := #[]) (mvT hZ444 (tw hw 79 rfl))) (mvT hZ444 (tw hw 79 rfl)) (mvT hZ444 (tw hw 78 rfl)) (by decide) (backOf (W := 0) (rm_ole0 l Z a0 hw [] em T446.heap n0 Zs447 (Old.keep O0 K446 hws) (F_em_isPresent_old.ext (Old.keep O0 K446 hws).2)) hZ444 (tw hw 80 rfl) (tw hw 3 rfl) (by decide) (by decide)) q448a q448c (g := (mkF m 301 (lw5 q1 q2 q3 q4 q5 p1 uo ue uf ut 1 1 u21 u22 fu nw w441 b442 em 0 (0 : Int64)) [(.ref em)])) rfl (by rw [hml]; rfl) (Steps.refl _) (argsL := []) (rest := []) (lenOf pd_1 rfl) rfl (wle rfl) (hb hby at_301) (fun _ _ => ⟨rfl, rfl, (by decide : 16 + 0 ≤ _), (by decide : 200 + 0 ≤ _)⟩)
        dsimp only [Pt.U, Pt.locs, Pt.cells, Pt.slots] at X448 l448 y448 z448 st448 hQ448
        subst l448 y448 z448
        obtain ⟨rfl, N448q, e448⟩ := hQ448
        have N448 := Fr.app N446 N448q
        refine gsW T448 (mkF m 304 (lw5 q1 q2 q3 q4 q5 p1 uo ue uf ut 1 1 u21 u22 fu nw w441 b442 em 0 (0 : Int64)) [(.int (1 : Int32))]) (fun _ hr => st448.trans hr) ?_
        exact GoesW.ret (v := some (.int (1 : Int32))) X448 Sn444 (by rw [e448]; exact kle446) (by decide) (by decide) (fun h => by rw [Bd.returns] at h; cases h) ⟨rfl, N448⟩ (fun fs hr => retN X448 hx (t := .boolean) Bd.returns (by simp) (hb hby at_304) hr)
      · refine gsW Tg (mkF m 141 (lw0 q1 q2 q3 q4 q5 p1 uo ue uf ut 1 1 u21 u22 fu nw) []) (fun _ hr => XS.ifNo Xg.here hx rfl (hb hby at_138) rfl ((if0 _ _).trans (feq (by decide : ¬ ((1 : Int32) = (0 : Int32)))).1) hr) ?_
        obtain ⟨T449, h449, X449, e449, E449, A449, D449, -, st449⟩ := newO Xg hx hZ hown (tw hw 94 rfl) (tw hw 95 rfl) (tw hw 96 rfl) eg (g := (mkF m 141 (lw0 q1 q2 q3 q4 q5 p1 uo ue uf ut 1 1 u21 u22 fu nw) [])) rfl (hb hby at_141) (by decide) (by decide)
        obtain ⟨b449, g449⟩ : ∃ z, z = hg.size := ⟨_, rfl⟩
        rw [← g449] at A449 D449 st449
        have sz_b449 : h0.size ≤ b449 := Nat.le_trans Kg.1 (Nat.le_of_eq g449.symm)
        have ge_b449 : n0 ≤ b449 := Nat.le_trans Z0 sz_b449
        have K449 : Keep h0 h449 [] := Kg.ext E449
        have kle449 : 0 ≤ h449.size := Nat.le_trans kleg E449.1
        have F_b449_onlyMarkersLeft_449 : Fld Z h449 b449 cRR nOM "Z" (.int (0 : Int32)) := D449 (Or.inr (tw hw 105 rfl)) (ty := .boolean) (by decide)
        have F_b449_firstUnreadTimestamp_449 : Fld Z h449 b449 cRR nLT dOL .null := D449 (Or.inr (tw hw 107 rfl)) (ty := (.object cOL)) (by decide)
        have F_b449_newestTimestamp_449 : Fld Z h449 b449 cRR nNT dOL .null := D449 (Or.inr (tw hw 109 rfl)) (ty := (.object cOL)) (by decide)
        have F_b449_lookedAt_449 : Fld Z h449 b449 cRR "lookedAt" "J" (.long (0 : Int64)) := D449 (Or.inr (tw hw 111 rfl)) (ty := .long) (by decide)
        refine gsW T449 (mkF m 144 (lw0 q1 q2 q3 q4 q5 p1 uo ue uf ut 1 1 u21 u22 fu nw) [(.ref b449)]) st449 ?_
        refine gsW T449 (mkF m 145 (lw0 q1 q2 q3 q4 q5 p1 uo ue uf ut 1 1 u21 u22 fu nw) [(.ref b449), (.ref b449)]) (fun _ hr => XS.dup X449.here hx rfl (hb hby at_144) rfl rfl hr) ?_
        refine gsW T449 (mkF m 147 (lw0 q1 q2 q3 q4 q5 p1 uo ue uf ut 1 1 u21 u22 fu nw) [(.int (1 : Int32)), (.ref b449), (.ref b449)]) (fun _ hr => XS.iload X449.here hx rfl (hb hby at_145) rfl  hr) ?_
        refine gsW T449 (mkF m 149 (lw0 q1 q2 q3 q4 q5 p1 uo ue uf ut 1 1 u21 u22 fu nw) [(.ref fu), (.int (1 : Int32)), (.ref b449), (.ref b449)]) (fun _ hr => XS.aload X449.here hx rfl (hb hby at_147) rfl rfl hr) ?_
        refine gsW T449 (mkF m 151 (lw0 q1 q2 q3 q4 q5 p1 uo ue uf ut 1 1 u21 u22 fu nw) [(.ref nw), (.ref fu), (.int (1 : Int32)), (.ref b449), (.ref b449)]) (fun _ hr => XS.aload X449.here hx rfl (hb hby at_149) rfl rfl hr) ?_
        refine gsW T449 (mkF m 153 (lw0 q1 q2 q3 q4 q5 p1 uo ue uf ut 1 1 u21 u22 fu nw) [(.long ut), (.ref nw), (.ref fu), (.int (1 : Int32)), (.ref b449), (.ref b449)]) (fun _ hr => XT.lload X449.here hx rfl (hb hby at_151) rfl hr) ?_
        have Zs450 : n0 ≤ h449.size := Nat.le_trans Z0 K449.1
        obtain ⟨_, _, ⟨T451, L451, k451, n451⟩, -, X451, Sc451, gr451, ⟨Lc451, hQ451, l451, y451, z451⟩, st451⟩ := X449.specialBackS hx (y := Y32) rfl hown (mvT hZ (tw hw 97 rfl)) (mvT hZ (tw hw 98 rfl)) (mvT hZ (tw hw 99 rfl)) (by decide) (backOfS (W := 1) (rm_rinit1 l Z a0 hw [] b449 fu nw ut h449 n0 Zs450 (Old.keep O0 K449 hws) A449 F_b449_onlyMarkersLeft_449 F_b449_firstUnreadTimestamp_449 F_b449_newestTimestamp_449 F_b449_lookedAt_449 ge_b449) hZ (tw hw 99 rfl) (tw hw 96 rfl) (by decide) (by decide)) (g := (mkF m 153 (lw0 q1 q2 q3 q4 q5 p1 uo ue uf ut 1 1 u21 u22 fu nw) [(.long ut), (.ref nw), (.ref fu), (.int (1 : Int32)), (.ref b449), (.ref b449)])) rfl (by rw [hml]; rfl) (Steps.refl _) (a := b449) (argsL := [(.int (1 : Int32)), (.ref fu), (.ref nw), (.long ut)]) (rest := [(.ref b449)]) (lenOf pd_20 rfl) rfl (wle rfl) (hb hby at_153) (fun _ _ => ⟨rfl, e449, (by decide : 3 + 4 ≤ _), (by decide : 8 + 148 ≤ _)⟩)
        dsimp only [Pt.U, Pt.locs, Pt.cells, Pt.slots] at X451 l451 y451 z451 st451 hQ451 Sc451 gr451
        subst l451 y451 z451
        have Sn451 := Sn0.trans Sc451 (Nat.le_trans (show 0 ≤ T449.heap.size by rw [(e449 : T449.heap = h449)]; exact kle449) gr451)
        have hZ451 : Z.Warmed39 (s.setVm T451.vm).vm := State.Warmed39.trans (t := s.setVm s.vm) hZ Sc451.1
        have hown451 : (s.setVm T451.vm).vm.findClass "com/example/log_lag_gauge/loglaggauge/model/PositionLagAgeMsPinLaw" = some m.cls := by rw [show (s.setVm T451.vm).vm = T451.vm from rfl, Sc451.1.alike.findClass]; exact hown
        have kle451 : T451.heap.size ≤ T451.heap.size := Nat.le_refl _
        obtain ⟨rfl, N451q, Kc451, P451_0, P451_1, P451_2, P451_3⟩ := hQ451
        have N451 := Fr.app Ng N451q
        have E_b449_451 : Exa Z T451.heap b449 cRR := A449.keep Kc451
        have K451 : Keep h0 T451.heap [] := K449.trans Kc451 (allS (Or.inr sz_b449) all0)
        have F_b449_onlyMarkersLeft_451c : Fld Z T451.heap b449 cRR nOM "Z" (.int (1 : Int32)) := P451_0
        have F_b449_lookedAt_451c : Fld Z T451.heap b449 cRR "lookedAt" "J" (.long ut) := P451_3
        refine gsW T451 (mkF m 156 (lw0 q1 q2 q3 q4 q5 p1 uo ue uf ut 1 1 u21 u22 fu nw) [(.ref b449)]) (fun _ hr => st451.trans hr) ?_
        have Zs452 : n0 ≤ T451.heap.size := Nat.le_trans Z0 K451.1
        obtain ⟨_, _, ⟨T453, L453, k453, n453⟩, -, X453, ⟨Lc453, hQ453, l453, y453, z453⟩, st453⟩ := LawKit.callS X451 hx (y := Y15) hown451 (mvT hZ451 (tw hw 112 rfl)) (mvT hZ451 (tw hw 113 rfl)) (mvT hZ451 (tw hw 8 rfl)) (mvT hZ451 (tw hw 114 rfl)) (by decide) (backOf (W := 0) (rm_oof l Z a0 hw [] b449 T451.heap n0 Zs452 (Old.keep O0 K451 hws)) hZ451 (tw hw 114 rfl) (tw hw 8 rfl) (by decide) (by decide)) (g := (mkF m 156 (lw0 q1 q2 q3 q4 q5 p1 uo ue uf ut 1 1 u21 u22 fu nw) [(.ref b449)])) rfl (by rw [hml]; rfl) (argsL := [(.ref b449)]) (rest := []) (lenOf pd_15 rfl) rfl (wle rfl) (hb hby at_156) (fun _ _ => ⟨rfl, rfl, (by decide : 7 + 1 ≤ _), (by decide : 156 + 1 ≤ _)⟩)
        dsimp only [Pt.U, Pt.locs, Pt.cells, Pt.slots] at X453 l453 y453 z453 st453 hQ453
        subst l453 y453 z453
        obtain ⟨w453, rfl, N453q, Kc453, P453_0, P453_1, P453_2⟩ := hQ453
        have N453 := Fr.app N451 N453q
        have E_b449_453 : Exa Z T453.heap b449 cRR := E_b449_451.keep Kc453
        have F_b449_onlyMarkersLeft_453 : Fld Z T453.heap b449 cRR nOM "Z" (.int (1 : Int32)) := F_b449_onlyMarkersLeft_451c.keep Kc453 nin0
        have F_b449_lookedAt_453 : Fld Z T453.heap b449 cRR "lookedAt" "J" (.long ut) := F_b449_lookedAt_451c.keep Kc453 nin0
        have K453 : Keep h0 T453.heap [] := K451.trans Kc453 all0
        have kle453 : T451.heap.size ≤ T453.heap.size := Nat.le_trans kle451 Kc453.1
        have E_w453_453c : Exa Z T453.heap w453 cOP := P453_1
        have F_w453_value_453c : Fld Z T453.heap w453 cOP "value" dOB (.ref b449) := P453_2
        refine gsW T453 (mkF m 159 (lw0 q1 q2 q3 q4 q5 p1 uo ue uf ut 1 1 u21 u22 fu nw) [(.ref w453)]) st453 ?_
        refine gsW T453 (mkF m 165 (lw0 q1 q2 q3 q4 q5 p1 uo ue uf ut 1 1 u21 u22 fu nw) [(.ref w453)]) (fun _ hr => XS.goto X453.here hx rfl (pc0 := 159) (pc' := 165) rfl (hb hby at_159) (by decide) (by decide) hr) ?_
        refine gsW T453 (mkF m 167 (lw1 q1 q2 q3 q4 q5 p1 uo ue uf ut 1 1 u21 u22 fu nw w453) []) (fun _ hr => XS.astore X453.here hx rfl (hb hby at_165) rfl rfl (l' := (lw1 q1 q2 q3 q4 q5 p1 uo ue uf ut 1 1 u21 u22 fu nw w453)) rfl hr) ?_
        obtain ⟨T454, h454, X454, e454, E454, A454, D454, -, st454⟩ := newO X453 hx hZ451 hown451 (tw hw 11 rfl) (tw hw 12 rfl) (tw hw 13 rfl) rfl (g := (mkF m 167 (lw1 q1 q2 q3 q4 q5 p1 uo ue uf ut 1 1 u21 u22 fu nw w453) [])) rfl (hb hby at_167) (by decide) (by decide)
        obtain ⟨b454, g454⟩ : ∃ z, z = T453.heap.size := ⟨_, rfl⟩
        rw [← g454] at A454 D454 st454
        have sz_b454 : h0.size ≤ b454 := Nat.le_trans K453.1 (Nat.le_of_eq g454.symm)
        have ge_b454 : n0 ≤ b454 := Nat.le_trans Z0 sz_b454
        have E_b449_454 : Exa Z h454 b449 cRR := E_b449_453.ext E454
        have F_b449_onlyMarkersLeft_454 : Fld Z h454 b449 cRR nOM "Z" (.int (1 : Int32)) := F_b449_onlyMarkersLeft_453.ext E454
        have F_b449_lookedAt_454 : Fld Z h454 b449 cRR "lookedAt" "J" (.long ut) := F_b449_lookedAt_453.ext E454
        have E_w453_454 : Exa Z h454 w453 cOP := E_w453_453c.ext E454
        have F_w453_value_454 : Fld Z h454 w453 cOP "value" dOB (.ref b449) := F_w453_value_453c.ext E454
        have K454 : Keep h0 h454 [] := K453.ext E454
        have kle454 : T451.heap.size ≤ h454.size := Nat.le_trans kle453 E454.1
        have F_b454_offset_454 : Fld Z h454 b454 cPL "offset" "J" (.long (0 : Int64)) := D454 (Or.inr (tw hw 38 rfl)) (ty := .long) (by decide)
        have F_b454_end_454 : Fld Z h454 b454 cPL "end" "J" (.long (0 : Int64)) := D454 (Or.inr (tw hw 40 rfl)) (ty := .long) (by decide)
        have F_b454_records_454 : Fld Z h454 b454 cPL "records" dOP .null := D454 (Or.inr (tw hw 42 rfl)) (ty := (.object cOP)) (by decide)
        refine gsW T454 (mkF m 170 (lw1 q1 q2 q3 q4 q5 p1 uo ue uf ut 1 1 u21 u22 fu nw w453) [(.ref b454)]) st454 ?_
        refine gsW T454 (mkF m 171 (lw1 q1 q2 q3 q4 q5 p1 uo ue uf ut 1 1 u21 u22 fu nw w453) [(.ref b454), (.ref b454)]) (fun _ hr => XS.dup X454.here hx rfl (hb hby at_170) rfl rfl hr) ?_
        refine gsW T454 (mkF m 173 (lw1 q1 q2 q3 q4 q5 p1 uo ue uf ut 1 1 u21 u22 fu nw w453) [(.long uo), (.ref b454), (.ref b454)]) (fun _ hr => XT.lload X454.here hx rfl (hb hby at_171) rfl hr) ?_
        refine gsW T454 (mkF m 175 (lw1 q1 q2 q3 q4 q5 p1 uo ue uf ut 1 1 u21 u22 fu nw w453) [(.long ue), (.long uo), (.ref b454), (.ref b454)]) (fun _ hr => XT.lload X454.here hx rfl (hb hby at_173) rfl hr) ?_
        refine gsW T454 (mkF m 177 (lw1 q1 q2 q3 q4 q5 p1 uo ue uf ut 1 1 u21 u22 fu nw w453) [(.ref w453), (.long ue), (.long uo), (.ref b454), (.ref b454)]) (fun _ hr => XS.aload X454.here hx rfl (hb hby at_175) rfl rfl hr) ?_
        have Zs455 : n0 ≤ h454.size := Nat.le_trans Z0 K454.1
        obtain ⟨_, _, ⟨T456, L456, k456, n456⟩, -, X456, Sc456, gr456, ⟨Lc456, hQ456, l456, y456, z456⟩, st456⟩ := X454.specialBackS hx (y := Y31) rfl hown451 (mvT hZ451 (tw hw 14 rfl)) (mvT hZ451 (tw hw 15 rfl)) (mvT hZ451 (tw hw 16 rfl)) (by decide) (backOfS (W := 1) (rm_pinit l Z a0 hw [] b454 uo ue w453 h454 n0 Zs455 (Old.keep O0 K454 hws) A454 F_b454_offset_454 F_b454_end_454 F_b454_records_454 ge_b454) hZ451 (tw hw 16 rfl) (tw hw 13 rfl) (by decide) (by decide)) (g := (mkF m 177 (lw1 q1 q2 q3 q4 q5 p1 uo ue uf ut 1 1 u21 u22 fu nw w453) [(.ref w453), (.long ue), (.long uo), (.ref b454), (.ref b454)])) rfl (by rw [hml]; rfl) (Steps.refl _) (a := b454) (argsL := [(.long uo), (.long ue), (.ref w453)]) (rest := [(.ref b454)]) (lenOf pd_19 rfl) rfl (wle rfl) (hb hby at_177) (fun _ _ => ⟨rfl, e454, (by decide : 9 + 2 ≤ _), (by decide : 160 + 32 ≤ _)⟩)
        dsimp only [Pt.U, Pt.locs, Pt.cells, Pt.slots] at X456 l456 y456 z456 st456 hQ456 Sc456 gr456
        subst l456 y456 z456
        have Sn456 := Sn451.trans Sc456 (Nat.le_trans (show T451.heap.size ≤ T454.heap.size by rw [(e454 : T454.heap = h454)]; exact kle454) gr456)
        have hZ456 : Z.Warmed39 (s.setVm T456.vm).vm := State.Warmed39.trans (t := s.setVm T451.vm) hZ451 Sc456.1
        have hown456 : (s.setVm T456.vm).vm.findClass "com/example/log_lag_gauge/loglaggauge/model/PositionLagAgeMsPinLaw" = some m.cls := by rw [show (s.setVm T456.vm).vm = T456.vm from rfl, Sc456.1.alike.findClass]; exact hown451
        have kle456 : T456.heap.size ≤ T456.heap.size := Nat.le_refl _
        obtain ⟨rfl, N456q, Kc456, P456_0, P456_1, P456_2⟩ := hQ456
        have N456 := Fr.app N453 N456q
        have E_b449_456 : Exa Z T456.heap b449 cRR := E_b449_454.keep Kc456
        have F_b449_onlyMarkersLeft_456 : Fld Z T456.heap b449 cRR nOM "Z" (.int (1 : Int32)) := F_b449_onlyMarkersLeft_454.keep Kc456 (ninS (Nat.ne_of_lt (Nat.lt_of_lt_of_le E_b449_453.lt (Nat.le_of_eq g454.symm))) nin0)
        have F_b449_lookedAt_456 : Fld Z T456.heap b449 cRR "lookedAt" "J" (.long ut) := F_b449_lookedAt_454.keep Kc456 (ninS (Nat.ne_of_lt (Nat.lt_of_lt_of_le E_b449_453.lt (Nat.le_of_eq g454.symm))) nin0)
        have E_w453_456 : Exa Z T456.heap w453 cOP := E_w453_454.keep Kc456
        have F_w453_value_456 : Fld Z T456.heap w453 cOP "value" dOB (.ref b449) := F_w453_value_454.keep Kc456 (ninS (Nat.ne_of_lt (Nat.lt_of_lt_of_le E_w453_453c.lt (Nat.le_of_eq g454.symm))) nin0)
        have E_b454_456 : Exa Z T456.heap b454 cPL := A454.keep Kc456
        have K456 : Keep h0 T456.heap [] := K454.trans Kc456 (allS (Or.inr sz_b454) all0)
        have F_b454_offset_456c : Fld Z T456.heap b454 cPL "offset" "J" (.long uo) := P456_0
        have F_b454_end_456c : Fld Z T456.heap b454 cPL "end" "J" (.long ue) := P456_1
        have F_b454_records_456c : Fld Z T456.heap b454 cPL "records" dOP (.ref w453) := P456_2
        refine gsW T456 (mkF m 180 (lw1 q1 q2 q3 q4 q5 p1 uo ue uf ut 1 1 u21 u22 fu nw w453) [(.ref b454)]) (fun _ hr => st456.trans hr) ?_
        refine gsW T456 (mkF m 182 (lw2 q1 q2 q3 q4 q5 p1 uo ue uf ut 1 1 u21 u22 fu nw w453 b454) []) (fun _ hr => XS.astore X456.here hx rfl (hb hby at_180) rfl rfl (l' := (lw2 q1 q2 q3 q4 q5 p1 uo ue uf ut 1 1 u21 u22 fu nw w453 b454)) rfl hr) ?_
        refine gsW T456 (mkF m 184 (lw2 q1 q2 q3 q4 q5 p1 uo ue uf ut 1 1 u21 u22 fu nw w453 b454) [(.ref b454)]) (fun _ hr => XS.aload X456.here hx rfl (hb hby at_182) rfl rfl hr) ?_
        have Zs457 : n0 ≤ T456.heap.size := Nat.le_trans Z0 K456.1
        obtain ⟨cq458, kq458, q458a, q458b, q458c⟩ := isOf hZ456 rfl E_b454_456
        obtain ⟨_, _, ⟨T458, L458, k458, n458⟩, -, X458, ⟨Lc458, hQ458, l458, y458, z458⟩, st458⟩ := X456.virtualBack hx (y := Y30) (z := Y30) hown456 (mvT hZ456 (tw hw 43 rfl)) (mvT hZ456 (tw hw 44 rfl)) (notFace_of_selects (args := #[]) (mvT hZ456 (tw hw 46 rfl))) (mvT hZ456 (tw hw 46 rfl)) (mvT hZ456 (tw hw 45 rfl)) (by decide) (backOf (W := 0) (rm_age_z1 l Z a0 hw [] b454 b449 em uo ue w453 eo ut T456.heap n0 Zs457 (Old.keep O0 K456 hws) E_b454_456 F_b454_offset_456c F_b454_end_456c F_b454_records_456c E_w453_456 F_w453_value_456 E_b449_456 F_b449_onlyMarkersLeft_456 F_b449_lookedAt_456 S_OptionalLong_EMPTY_old E_em_old F_em_isPresent_old F_em_value_old S_Optional_EMPTY_old E_eo_old F_eo_value_old hle) hZ456 (tw hw 47 rfl) (tw hw 13 rfl) (by decide) (by decide)) q458a q458c (g := (mkF m 184 (lw2 q1 q2 q3 q4 q5 p1 uo ue uf ut 1 1 u21 u22 fu nw w453 b454) [(.ref b454)])) rfl (by rw [hml]; rfl) (Steps.refl _) (argsL := []) (rest := []) (lenOf pd_6 rfl) rfl (wle rfl) (hb hby at_184) (fun _ _ => ⟨rfl, rfl, (by decide : 11 + 8 ≤ _), (by decide : 192 + 14 ≤ _)⟩)
        dsimp only [Pt.U, Pt.locs, Pt.cells, Pt.slots] at X458 l458 y458 z458 st458 hQ458
        subst l458 y458 z458
        obtain ⟨w458, rfl, N458q, Kc458, P458_0, P458_1, P458_2, P458_3⟩ := hQ458
        have N458 := Fr.app N456 N458q
        have K458 : Keep h0 T458.heap [] := K456.trans Kc458 all0
        have kle458 : T456.heap.size ≤ T458.heap.size := Nat.le_trans kle456 Kc458.1
        have E_w458_458c : Exa Z T458.heap w458 cOL := P458_1
        have F_w458_isPresent_458c : Fld Z T458.heap w458 cOL nIP "Z" (.int (1 : Int32)) := P458_2
        have F_w458_value_458c : Fld Z T458.heap w458 cOL "value" "J" (.long (0 : Int64)) := P458_3
        refine gsW T458 (mkF m 187 (lw2 q1 q2 q3 q4 q5 p1 uo ue uf ut 1 1 u21 u22 fu nw w453 b454) [(.ref w458)]) (fun _ hr => st458.trans hr) ?_
        refine gsW T458 (mkF m 189 (lw3 q1 q2 q3 q4 q5 p1 uo ue uf ut 1 1 u21 u22 fu nw w453 b454 w458) []) (fun _ hr => XS.astore X458.here hx rfl (hb hby at_187) rfl rfl (l' := (lw3 q1 q2 q3 q4 q5 p1 uo ue uf ut 1 1 u21 u22 fu nw w453 b454 w458)) rfl hr) ?_
        refine gsW T458 (mkF m 190 (lw3 q1 q2 q3 q4 q5 p1 uo ue uf ut 1 1 u21 u22 fu nw w453 b454 w458) [(.long (0 : Int64))]) (fun _ hr => XT.lconst X458.here hx rfl (hb hby at_189) hr) ?_
        refine gsW T458 (mkF m 192 (lw4 q1 q2 q3 q4 q5 p1 uo ue uf ut 1 1 u21 u22 fu nw w453 b454 w458 (0 : Int64)) []) (fun _ hr => XT.lstore X458.here hx rfl (hb hby at_190) rfl (l' := (lw4 q1 q2 q3 q4 q5 p1 uo ue uf ut 1 1 u21 u22 fu nw w453 b454 w458 (0 : Int64))) rfl hr) ?_
        refine gsW T458 (mkF m 194 (lw4 q1 q2 q3 q4 q5 p1 uo ue uf ut 1 1 u21 u22 fu nw w453 b454 w458 (0 : Int64)) [(.int (1 : Int32))]) (fun _ hr => XS.iload X458.here hx rfl (hb hby at_192) rfl  hr) ?_
        refine gsW T458 (mkF m 197 (lw4 q1 q2 q3 q4 q5 p1 uo ue uf ut 1 1 u21 u22 fu nw w453 b454 w458 (0 : Int64)) []) (fun _ hr => XS.ifNo X458.here hx rfl (hb hby at_194) rfl ((if0 _ _).trans (feq (by decide : ¬ ((1 : Int32) = (0 : Int32)))).1) hr) ?_
        refine gsW T458 (mkF m 199 (lw4 q1 q2 q3 q4 q5 p1 uo ue uf ut 1 1 u21 u22 fu nw w453 b454 w458 (0 : Int64)) [(.long uo)]) (fun _ hr => XT.lload X458.here hx rfl (hb hby at_197) rfl hr) ?_
        refine gsW T458 (mkF m 201 (lw4 q1 q2 q3 q4 q5 p1 uo ue uf ut 1 1 u21 u22 fu nw w453 b454 w458 (0 : Int64)) [(.long ue), (.long uo)]) (fun _ hr => XT.lload X458.here hx rfl (hb hby at_199) rfl hr) ?_
        refine gsW T458 (mkF m 202 (lw4 q1 q2 q3 q4 q5 p1 uo ue uf ut 1 1 u21 u22 fu nw w453 b454 w458 (0 : Int64)) [(.int (XT.cmpL uo ue))]) (fun _ hr => XT.lcmp X458.here hx rfl (hb hby at_201) rfl hr) ?_
        refine gsW T458 (mkF m 211 (lw4 q1 q2 q3 q4 q5 p1 uo ue uf ut 1 1 u21 u22 fu nw w453 b454 w458 (0 : Int64)) []) (fun _ hr => XS.ifYes X458.here hx rfl (pc0 := 202) (pc' := 211) rfl (hb hby at_202) rfl ((if0 _ _).trans (flt (hle : ¬ ((0 : Int32) < (XT.cmpL uo ue)))).2.2.2) (by decide) (by decide) hr) ?_
        refine gsW T458 (mkF m 213 (lw4 q1 q2 q3 q4 q5 p1 uo ue uf ut 1 1 u21 u22 fu nw w453 b454 w458 (0 : Int64)) [(.int (1 : Int32))]) (fun _ hr => XS.iload X458.here hx rfl (hb hby at_211) rfl  hr) ?_
        refine gsW T458 (mkF m 224 (lw4 q1 q2 q3 q4 q5 p1 uo ue uf ut 1 1 u21 u22 fu nw w453 b454 w458 (0 : Int64)) []) (fun _ hr => XS.ifYes X458.here hx rfl (pc0 := 213) (pc' := 224) rfl (hb hby at_213) rfl ((if0 _ _).trans (feq (by decide : ¬ ((1 : Int32) = (0 : Int32)))).2) (by decide) (by decide) hr) ?_
        refine gsW T458 (mkF m 225 (lw4 q1 q2 q3 q4 q5 p1 uo ue uf ut 1 1 u21 u22 fu nw w453 b454 w458 (0 : Int64)) [(.int (1 : Int32))]) (fun _ hr => XS.iconst X458.here hx rfl (hb hby at_224) hr) ?_
        refine gsW T458 (mkF m 227 (lw5 q1 q2 q3 q4 q5 p1 uo ue uf ut 1 1 u21 u22 fu nw w453 b454 w458 1 (0 : Int64)) []) (fun _ hr => XS.istore X458.here hx rfl (hb hby at_225) rfl (l' := (lw5 q1 q2 q3 q4 q5 p1 uo ue uf ut 1 1 u21 u22 fu nw w453 b454 w458 1 (0 : Int64))) rfl hr) ?_
        refine gsW T458 (mkF m 228 (lw5 q1 q2 q3 q4 q5 p1 uo ue uf ut 1 1 u21 u22 fu nw w453 b454 w458 1 (0 : Int64)) [(.long (0 : Int64))]) (fun _ hr => XT.lconst X458.here hx rfl (hb hby at_227) hr) ?_
        refine gsW T458 (mkF m 230 (lw5 q1 q2 q3 q4 q5 p1 uo ue uf ut 1 1 u21 u22 fu nw w453 b454 w458 1 (0 : Int64)) []) (fun _ hr => XT.lstore X458.here hx rfl (hb hby at_228) rfl (l' := (lw5 q1 q2 q3 q4 q5 p1 uo ue uf ut 1 1 u21 u22 fu nw w453 b454 w458 1 (0 : Int64))) rfl hr) ?_
        refine gsW T458 (mkF m 269 (lw5 q1 q2 q3 q4 q5 p1 uo ue uf ut 1 1 u21 u22 fu nw w453 b454 w458 1 (0 : Int64)) []) (fun _ hr => XS.goto X458.here hx rfl (pc0 := 230) (pc' := 269) rfl (hb hby at_230) (by decide) (by decide) hr) ?_
        refine gsW T458 (mkF m 271 (lw5 q1 q2 q3 q4 q5 p1 uo ue uf ut 1 1 u21 u22 fu nw w453 b454 w458 1 (0 : Int64)) [(.int (1 : Int32))]) (fun _ hr => XS.iload X458.here hx rfl (hb hby at_269) rfl  hr) ?_
        refine gsW T458 (mkF m 274 (lw5 q1 q2 q3 q4 q5 p1 uo ue uf ut 1 1 u21 u22 fu nw w453 b454 w458 1 (0 : Int64)) []) (fun _ hr => XS.ifNo X458.here hx rfl (hb hby at_271) rfl ((if0 _ _).trans (feq (by decide : ¬ ((1 : Int32) = (0 : Int32)))).1) hr) ?_
        refine gsW T458 (mkF m 276 (lw5 q1 q2 q3 q4 q5 p1 uo ue uf ut 1 1 u21 u22 fu nw w453 b454 w458 1 (0 : Int64)) [(.ref w458)]) (fun _ hr => XS.aload X458.here hx rfl (hb hby at_274) rfl rfl hr) ?_
        have Zs459 : n0 ≤ T458.heap.size := Nat.le_trans Z0 K458.1
        obtain ⟨cq460, kq460, q460a, q460b, q460c⟩ := isOf hZ456 rfl E_w458_458c
        obtain ⟨_, _, ⟨T460, L460, k460, n460⟩, -, X460, ⟨Lc460, hQ460, l460, y460, z460⟩, st460⟩ := X458.virtualBack hx (y := Y5) (z := Y5) hown456 (mvT hZ456 (tw hw 184 rfl)) (mvT hZ456 (tw hw 156 rfl)) (notFace_of_selects (args := #[]) (mvT hZ456 (tw hw 158 rfl))) (mvT hZ456 (tw hw 158 rfl)) (mvT hZ456 (tw hw 157 rfl)) (by decide) (backOf (W := 0) (rm_olp1 l Z a0 hw [] w458 T458.heap n0 Zs459 (Old.keep O0 K458 hws) F_w458_isPresent_458c) hZ456 (tw hw 159 rfl) (tw hw 3 rfl) (by decide) (by decide)) q460a q460c (g := (mkF m 276 (lw5 q1 q2 q3 q4 q5 p1 uo ue uf ut 1 1 u21 u22 fu nw w453 b454 w458 1 (0 : Int64)) [(.ref w458)])) rfl (by rw [hml]; rfl) (Steps.refl _) (argsL := []) (rest := []) (lenOf pd_1 rfl) rfl (wle rfl) (hb hby at_276) (fun _ _ => ⟨rfl, rfl, (by decide : 19 + 0 ≤ _), (by decide : 206 + 0 ≤ _)⟩)
        dsimp only [Pt.U, Pt.locs, Pt.cells, Pt.slots] at X460 l460 y460 z460 st460 hQ460
        subst l460 y460 z460
        obtain ⟨rfl, N460q, e460⟩ := hQ460
        have N460 := Fr.app N458 N460q
        refine gsW T460 (mkF m 279 (lw5 q1 q2 q3 q4 q5 p1 uo ue uf ut 1 1 u21 u22 fu nw w453 b454 w458 1 (0 : Int64)) [(.int (1 : Int32))]) (fun _ hr => st460.trans hr) ?_
        refine gsW T460 (mkF m 282 (lw5 q1 q2 q3 q4 q5 p1 uo ue uf ut 1 1 u21 u22 fu nw w453 b454 w458 1 (0 : Int64)) []) (fun _ hr => XS.ifNo X460.here hx rfl (hb hby at_279) rfl ((if0 _ _).trans (feq (by decide : ¬ ((1 : Int32) = (0 : Int32)))).1) hr) ?_
        refine gsW T460 (mkF m 284 (lw5 q1 q2 q3 q4 q5 p1 uo ue uf ut 1 1 u21 u22 fu nw w453 b454 w458 1 (0 : Int64)) [(.ref w458)]) (fun _ hr => XS.aload X460.here hx rfl (hb hby at_282) rfl rfl hr) ?_
        have Zs461 : n0 ≤ T458.heap.size := Nat.le_trans Z0 K458.1
        obtain ⟨cq462, kq462, q462a, q462b, q462c⟩ := isOf hZ456 e460 E_w458_458c
        obtain ⟨_, _, ⟨T462, L462, k462, n462⟩, -, X462, ⟨Lc462, hQ462, l462, y462, z462⟩, st462⟩ := X460.virtualBack hx (y := Y7) (z := Y7) hown456 (mvT hZ456 (tw hw 185 rfl)) (mvT hZ456 (tw hw 150 rfl)) (notFace_of_selects (args := #[]) (mvT hZ456 (tw hw 152 rfl))) (mvT hZ456 (tw hw 152 rfl)) (mvT hZ456 (tw hw 151 rfl)) (by decide) (backOf (W := 0) (rm_olg l Z a0 hw [] w458 (0 : Int64) T458.heap n0 Zs461 (Old.keep O0 K458 hws) F_w458_isPresent_458c F_w458_value_458c) hZ456 (tw hw 153 rfl) (tw hw 3 rfl) (by decide) (by decide)) q462a q462c (g := (mkF m 284 (lw5 q1 q2 q3 q4 q5 p1 uo ue uf ut 1 1 u21 u22 fu nw w453 b454 w458 1 (0 : Int64)) [(.ref w458)])) rfl (by rw [hml]; rfl) (Steps.refl _) (argsL := []) (rest := []) (lenOf pd_5 rfl) rfl (wle rfl) (hb hby at_284) (fun _ _ => ⟨rfl, e460, (by decide : 19 + 0 ≤ _), (by decide : 206 + 0 ≤ _)⟩)
        dsimp only [Pt.U, Pt.locs, Pt.cells, Pt.slots] at X462 l462 y462 z462 st462 hQ462
        subst l462 y462 z462
        obtain ⟨rfl, N462q, e462⟩ := hQ462
        have N462 := Fr.app N460 N462q
        refine gsW T462 (mkF m 287 (lw5 q1 q2 q3 q4 q5 p1 uo ue uf ut 1 1 u21 u22 fu nw w453 b454 w458 1 (0 : Int64)) [(.long (0 : Int64))]) (fun _ hr => st462.trans hr) ?_
        refine gsW T462 (mkF m 289 (lw5 q1 q2 q3 q4 q5 p1 uo ue uf ut 1 1 u21 u22 fu nw w453 b454 w458 1 (0 : Int64)) [(.long (0 : Int64)), (.long (0 : Int64))]) (fun _ hr => XT.lload X462.here hx rfl (hb hby at_287) rfl hr) ?_
        refine gsW T462 (mkF m 290 (lw5 q1 q2 q3 q4 q5 p1 uo ue uf ut 1 1 u21 u22 fu nw w453 b454 w458 1 (0 : Int64)) [(.int (XT.cmpL (0 : Int64) (0 : Int64)))]) (fun _ hr => XT.lcmp X462.here hx rfl (hb hby at_289) rfl hr) ?_
        rw [cmpL_self]
        refine gsW T462 (mkF m 293 (lw5 q1 q2 q3 q4 q5 p1 uo ue uf ut 1 1 u21 u22 fu nw w453 b454 w458 1 (0 : Int64)) []) (fun _ hr => XS.ifNo X462.here hx rfl (hb hby at_290) rfl ((if0 _ _).trans (teq (by decide : (0 : Int32) = (0 : Int32))).2) hr) ?_
        refine gsW T462 (mkF m 294 (lw5 q1 q2 q3 q4 q5 p1 uo ue uf ut 1 1 u21 u22 fu nw w453 b454 w458 1 (0 : Int64)) [(.int (1 : Int32))]) (fun _ hr => XS.iconst X462.here hx rfl (hb hby at_293) hr) ?_
        refine gsW T462 (mkF m 298 (lw5 q1 q2 q3 q4 q5 p1 uo ue uf ut 1 1 u21 u22 fu nw w453 b454 w458 1 (0 : Int64)) [(.int (1 : Int32))]) (fun _ hr => XS.goto X462.here hx rfl (pc0 := 294) (pc' := 298) rfl (hb hby at_294) (by decide) (by decide) hr) ?_
        exact GoesW.ret (v := some (.int (1 : Int32))) X462 Sn456 (by rw [e462]; exact kle458) (by decide) (by decide) (fun h => by rw [Bd.returns] at h; cases h) ⟨rfl, N462⟩ (fun fs hr => retN X462 hx (t := .boolean) Bd.returns (by simp) (hb hby at_298) hr)
      · have hzz := own_sub0 heq
        refine gsW Tg (mkF m 141 (lw0 q1 q2 q3 q4 q5 p1 uo ue uf ut 1 0 u21 u22 fu nw) []) (fun _ hr => XS.ifNo Xg.here hx rfl (hb hby at_138) rfl ((if0 _ _).trans (feq (by decide : ¬ ((1 : Int32) = (0 : Int32)))).1) hr) ?_
        obtain ⟨T463, h463, X463, e463, E463, A463, D463, -, st463⟩ := newO Xg hx hZ hown (tw hw 94 rfl) (tw hw 95 rfl) (tw hw 96 rfl) eg (g := (mkF m 141 (lw0 q1 q2 q3 q4 q5 p1 uo ue uf ut 1 0 u21 u22 fu nw) [])) rfl (hb hby at_141) (by decide) (by decide)
        obtain ⟨b463, g463⟩ : ∃ z, z = hg.size := ⟨_, rfl⟩
        rw [← g463] at A463 D463 st463
        have sz_b463 : h0.size ≤ b463 := Nat.le_trans Kg.1 (Nat.le_of_eq g463.symm)
        have ge_b463 : n0 ≤ b463 := Nat.le_trans Z0 sz_b463
        have K463 : Keep h0 h463 [] := Kg.ext E463
        have kle463 : 0 ≤ h463.size := Nat.le_trans kleg E463.1
        have F_b463_onlyMarkersLeft_463 : Fld Z h463 b463 cRR nOM "Z" (.int (0 : Int32)) := D463 (Or.inr (tw hw 105 rfl)) (ty := .boolean) (by decide)
        have F_b463_firstUnreadTimestamp_463 : Fld Z h463 b463 cRR nLT dOL .null := D463 (Or.inr (tw hw 107 rfl)) (ty := (.object cOL)) (by decide)
        have F_b463_newestTimestamp_463 : Fld Z h463 b463 cRR nNT dOL .null := D463 (Or.inr (tw hw 109 rfl)) (ty := (.object cOL)) (by decide)
        have F_b463_lookedAt_463 : Fld Z h463 b463 cRR "lookedAt" "J" (.long (0 : Int64)) := D463 (Or.inr (tw hw 111 rfl)) (ty := .long) (by decide)
        refine gsW T463 (mkF m 144 (lw0 q1 q2 q3 q4 q5 p1 uo ue uf ut 1 0 u21 u22 fu nw) [(.ref b463)]) st463 ?_
        refine gsW T463 (mkF m 145 (lw0 q1 q2 q3 q4 q5 p1 uo ue uf ut 1 0 u21 u22 fu nw) [(.ref b463), (.ref b463)]) (fun _ hr => XS.dup X463.here hx rfl (hb hby at_144) rfl rfl hr) ?_
        refine gsW T463 (mkF m 147 (lw0 q1 q2 q3 q4 q5 p1 uo ue uf ut 1 0 u21 u22 fu nw) [(.int (0 : Int32)), (.ref b463), (.ref b463)]) (fun _ hr => XS.iload X463.here hx rfl (hb hby at_145) rfl  hr) ?_
        refine gsW T463 (mkF m 149 (lw0 q1 q2 q3 q4 q5 p1 uo ue uf ut 1 0 u21 u22 fu nw) [(.ref fu), (.int (0 : Int32)), (.ref b463), (.ref b463)]) (fun _ hr => XS.aload X463.here hx rfl (hb hby at_147) rfl rfl hr) ?_
        refine gsW T463 (mkF m 151 (lw0 q1 q2 q3 q4 q5 p1 uo ue uf ut 1 0 u21 u22 fu nw) [(.ref nw), (.ref fu), (.int (0 : Int32)), (.ref b463), (.ref b463)]) (fun _ hr => XS.aload X463.here hx rfl (hb hby at_149) rfl rfl hr) ?_
        refine gsW T463 (mkF m 153 (lw0 q1 q2 q3 q4 q5 p1 uo ue uf ut 1 0 u21 u22 fu nw) [(.long ut), (.ref nw), (.ref fu), (.int (0 : Int32)), (.ref b463), (.ref b463)]) (fun _ hr => XT.lload X463.here hx rfl (hb hby at_151) rfl hr) ?_
        have Zs464 : n0 ≤ h463.size := Nat.le_trans Z0 K463.1
        obtain ⟨_, _, ⟨T465, L465, k465, n465⟩, -, X465, Sc465, gr465, ⟨Lc465, hQ465, l465, y465, z465⟩, st465⟩ := X463.specialBackS hx (y := Y32) rfl hown (mvT hZ (tw hw 97 rfl)) (mvT hZ (tw hw 98 rfl)) (mvT hZ (tw hw 99 rfl)) (by decide) (backOfS (W := 1) (rm_rinit0 l Z a0 hw [] b463 fu nw ut h463 n0 Zs464 (Old.keep O0 K463 hws) A463 F_b463_onlyMarkersLeft_463 F_b463_firstUnreadTimestamp_463 F_b463_newestTimestamp_463 F_b463_lookedAt_463 ge_b463) hZ (tw hw 99 rfl) (tw hw 96 rfl) (by decide) (by decide)) (g := (mkF m 153 (lw0 q1 q2 q3 q4 q5 p1 uo ue uf ut 1 0 u21 u22 fu nw) [(.long ut), (.ref nw), (.ref fu), (.int (0 : Int32)), (.ref b463), (.ref b463)])) rfl (by rw [hml]; rfl) (Steps.refl _) (a := b463) (argsL := [(.int (0 : Int32)), (.ref fu), (.ref nw), (.long ut)]) (rest := [(.ref b463)]) (lenOf pd_20 rfl) rfl (wle rfl) (hb hby at_153) (fun _ _ => ⟨rfl, e463, (by decide : 3 + 4 ≤ _), (by decide : 8 + 148 ≤ _)⟩)
        dsimp only [Pt.U, Pt.locs, Pt.cells, Pt.slots] at X465 l465 y465 z465 st465 hQ465 Sc465 gr465
        subst l465 y465 z465
        have Sn465 := Sn0.trans Sc465 (Nat.le_trans (show 0 ≤ T463.heap.size by rw [(e463 : T463.heap = h463)]; exact kle463) gr465)
        have hZ465 : Z.Warmed39 (s.setVm T465.vm).vm := State.Warmed39.trans (t := s.setVm s.vm) hZ Sc465.1
        have hown465 : (s.setVm T465.vm).vm.findClass "com/example/log_lag_gauge/loglaggauge/model/PositionLagAgeMsPinLaw" = some m.cls := by rw [show (s.setVm T465.vm).vm = T465.vm from rfl, Sc465.1.alike.findClass]; exact hown
        have kle465 : T465.heap.size ≤ T465.heap.size := Nat.le_refl _
        obtain ⟨rfl, N465q, Kc465, P465_0, P465_1, P465_2, P465_3⟩ := hQ465
        have N465 := Fr.app Ng N465q
        have E_b463_465 : Exa Z T465.heap b463 cRR := A463.keep Kc465
        have K465 : Keep h0 T465.heap [] := K463.trans Kc465 (allS (Or.inr sz_b463) all0)
        have F_b463_onlyMarkersLeft_465c : Fld Z T465.heap b463 cRR nOM "Z" (.int (0 : Int32)) := P465_0
        have F_b463_lookedAt_465c : Fld Z T465.heap b463 cRR "lookedAt" "J" (.long ut) := P465_3
        refine gsW T465 (mkF m 156 (lw0 q1 q2 q3 q4 q5 p1 uo ue uf ut 1 0 u21 u22 fu nw) [(.ref b463)]) (fun _ hr => st465.trans hr) ?_
        have Zs466 : n0 ≤ T465.heap.size := Nat.le_trans Z0 K465.1
        obtain ⟨_, _, ⟨T467, L467, k467, n467⟩, -, X467, ⟨Lc467, hQ467, l467, y467, z467⟩, st467⟩ := LawKit.callS X465 hx (y := Y15) hown465 (mvT hZ465 (tw hw 112 rfl)) (mvT hZ465 (tw hw 113 rfl)) (mvT hZ465 (tw hw 8 rfl)) (mvT hZ465 (tw hw 114 rfl)) (by decide) (backOf (W := 0) (rm_oof l Z a0 hw [] b463 T465.heap n0 Zs466 (Old.keep O0 K465 hws)) hZ465 (tw hw 114 rfl) (tw hw 8 rfl) (by decide) (by decide)) (g := (mkF m 156 (lw0 q1 q2 q3 q4 q5 p1 uo ue uf ut 1 0 u21 u22 fu nw) [(.ref b463)])) rfl (by rw [hml]; rfl) (argsL := [(.ref b463)]) (rest := []) (lenOf pd_15 rfl) rfl (wle rfl) (hb hby at_156) (fun _ _ => ⟨rfl, rfl, (by decide : 7 + 1 ≤ _), (by decide : 156 + 1 ≤ _)⟩)
        dsimp only [Pt.U, Pt.locs, Pt.cells, Pt.slots] at X467 l467 y467 z467 st467 hQ467
        subst l467 y467 z467
        obtain ⟨w467, rfl, N467q, Kc467, P467_0, P467_1, P467_2⟩ := hQ467
        have N467 := Fr.app N465 N467q
        have E_b463_467 : Exa Z T467.heap b463 cRR := E_b463_465.keep Kc467
        have F_b463_onlyMarkersLeft_467 : Fld Z T467.heap b463 cRR nOM "Z" (.int (0 : Int32)) := F_b463_onlyMarkersLeft_465c.keep Kc467 nin0
        have F_b463_lookedAt_467 : Fld Z T467.heap b463 cRR "lookedAt" "J" (.long ut) := F_b463_lookedAt_465c.keep Kc467 nin0
        have K467 : Keep h0 T467.heap [] := K465.trans Kc467 all0
        have kle467 : T465.heap.size ≤ T467.heap.size := Nat.le_trans kle465 Kc467.1
        have E_w467_467c : Exa Z T467.heap w467 cOP := P467_1
        have F_w467_value_467c : Fld Z T467.heap w467 cOP "value" dOB (.ref b463) := P467_2
        refine gsW T467 (mkF m 159 (lw0 q1 q2 q3 q4 q5 p1 uo ue uf ut 1 0 u21 u22 fu nw) [(.ref w467)]) st467 ?_
        refine gsW T467 (mkF m 165 (lw0 q1 q2 q3 q4 q5 p1 uo ue uf ut 1 0 u21 u22 fu nw) [(.ref w467)]) (fun _ hr => XS.goto X467.here hx rfl (pc0 := 159) (pc' := 165) rfl (hb hby at_159) (by decide) (by decide) hr) ?_
        refine gsW T467 (mkF m 167 (lw1 q1 q2 q3 q4 q5 p1 uo ue uf ut 1 0 u21 u22 fu nw w467) []) (fun _ hr => XS.astore X467.here hx rfl (hb hby at_165) rfl rfl (l' := (lw1 q1 q2 q3 q4 q5 p1 uo ue uf ut 1 0 u21 u22 fu nw w467)) rfl hr) ?_
        obtain ⟨T468, h468, X468, e468, E468, A468, D468, -, st468⟩ := newO X467 hx hZ465 hown465 (tw hw 11 rfl) (tw hw 12 rfl) (tw hw 13 rfl) rfl (g := (mkF m 167 (lw1 q1 q2 q3 q4 q5 p1 uo ue uf ut 1 0 u21 u22 fu nw w467) [])) rfl (hb hby at_167) (by decide) (by decide)
        obtain ⟨b468, g468⟩ : ∃ z, z = T467.heap.size := ⟨_, rfl⟩
        rw [← g468] at A468 D468 st468
        have sz_b468 : h0.size ≤ b468 := Nat.le_trans K467.1 (Nat.le_of_eq g468.symm)
        have ge_b468 : n0 ≤ b468 := Nat.le_trans Z0 sz_b468
        have E_b463_468 : Exa Z h468 b463 cRR := E_b463_467.ext E468
        have F_b463_onlyMarkersLeft_468 : Fld Z h468 b463 cRR nOM "Z" (.int (0 : Int32)) := F_b463_onlyMarkersLeft_467.ext E468
        have F_b463_lookedAt_468 : Fld Z h468 b463 cRR "lookedAt" "J" (.long ut) := F_b463_lookedAt_467.ext E468
        have E_w467_468 : Exa Z h468 w467 cOP := E_w467_467c.ext E468
        have F_w467_value_468 : Fld Z h468 w467 cOP "value" dOB (.ref b463) := F_w467_value_467c.ext E468
        have K468 : Keep h0 h468 [] := K467.ext E468
        have kle468 : T465.heap.size ≤ h468.size := Nat.le_trans kle467 E468.1
        have F_b468_offset_468 : Fld Z h468 b468 cPL "offset" "J" (.long (0 : Int64)) := D468 (Or.inr (tw hw 38 rfl)) (ty := .long) (by decide)
        have F_b468_end_468 : Fld Z h468 b468 cPL "end" "J" (.long (0 : Int64)) := D468 (Or.inr (tw hw 40 rfl)) (ty := .long) (by decide)
        have F_b468_records_468 : Fld Z h468 b468 cPL "records" dOP .null := D468 (Or.inr (tw hw 42 rfl)) (ty := (.object cOP)) (by decide)
        refine gsW T468 (mkF m 170 (lw1 q1 q2 q3 q4 q5 p1 uo ue uf ut 1 0 u21 u22 fu nw w467) [(.ref b468)]) st468 ?_
        refine gsW T468 (mkF m 171 (lw1 q1 q2 q3 q4 q5 p1 uo ue uf ut 1 0 u21 u22 fu nw w467) [(.ref b468), (.ref b468)]) (fun _ hr => XS.dup X468.here hx rfl (hb hby at_170) rfl rfl hr) ?_
        refine gsW T468 (mkF m 173 (lw1 q1 q2 q3 q4 q5 p1 uo ue uf ut 1 0 u21 u22 fu nw w467) [(.long uo), (.ref b468), (.ref b468)]) (fun _ hr => XT.lload X468.here hx rfl (hb hby at_171) rfl hr) ?_
        refine gsW T468 (mkF m 175 (lw1 q1 q2 q3 q4 q5 p1 uo ue uf ut 1 0 u21 u22 fu nw w467) [(.long ue), (.long uo), (.ref b468), (.ref b468)]) (fun _ hr => XT.lload X468.here hx rfl (hb hby at_173) rfl hr) ?_
        refine gsW T468 (mkF m 177 (lw1 q1 q2 q3 q4 q5 p1 uo ue uf ut 1 0 u21 u22 fu nw w467) [(.ref w467), (.long ue), (.long uo), (.ref b468), (.ref b468)]) (fun _ hr => XS.aload X468.here hx rfl (hb hby at_175) rfl rfl hr) ?_
        have Zs469 : n0 ≤ h468.size := Nat.le_trans Z0 K468.1
        obtain ⟨_, _, ⟨T470, L470, k470, n470⟩, -, X470, Sc470, gr470, ⟨Lc470, hQ470, l470, y470, z470⟩, st470⟩ := X468.specialBackS hx (y := Y31) rfl hown465 (mvT hZ465 (tw hw 14 rfl)) (mvT hZ465 (tw hw 15 rfl)) (mvT hZ465 (tw hw 16 rfl)) (by decide) (backOfS (W := 1) (rm_pinit l Z a0 hw [] b468 uo ue w467 h468 n0 Zs469 (Old.keep O0 K468 hws) A468 F_b468_offset_468 F_b468_end_468 F_b468_records_468 ge_b468) hZ465 (tw hw 16 rfl) (tw hw 13 rfl) (by decide) (by decide)) (g := (mkF m 177 (lw1 q1 q2 q3 q4 q5 p1 uo ue uf ut 1 0 u21 u22 fu nw w467) [(.ref w467), (.long ue), (.long uo), (.ref b468), (.ref b468)])) rfl (by rw [hml]; rfl) (Steps.refl _) (a := b468) (argsL := [(.long uo), (.long ue), (.ref w467)]) (rest := [(.ref b468)]) (lenOf pd_19 rfl) rfl (wle rfl) (hb hby at_177) (fun _ _ => ⟨rfl, e468, (by decide : 9 + 2 ≤ _), (by decide : 160 + 32 ≤ _)⟩)
        dsimp only [Pt.U, Pt.locs, Pt.cells, Pt.slots] at X470 l470 y470 z470 st470 hQ470 Sc470 gr470
        subst l470 y470 z470
        have Sn470 := Sn465.trans Sc470 (Nat.le_trans (show T465.heap.size ≤ T468.heap.size by rw [(e468 : T468.heap = h468)]; exact kle468) gr470)
        have hZ470 : Z.Warmed39 (s.setVm T470.vm).vm := State.Warmed39.trans (t := s.setVm T465.vm) hZ465 Sc470.1
        have hown470 : (s.setVm T470.vm).vm.findClass "com/example/log_lag_gauge/loglaggauge/model/PositionLagAgeMsPinLaw" = some m.cls := by rw [show (s.setVm T470.vm).vm = T470.vm from rfl, Sc470.1.alike.findClass]; exact hown465
        have kle470 : T470.heap.size ≤ T470.heap.size := Nat.le_refl _
        obtain ⟨rfl, N470q, Kc470, P470_0, P470_1, P470_2⟩ := hQ470
        have N470 := Fr.app N467 N470q
        have E_b463_470 : Exa Z T470.heap b463 cRR := E_b463_468.keep Kc470
        have F_b463_onlyMarkersLeft_470 : Fld Z T470.heap b463 cRR nOM "Z" (.int (0 : Int32)) := F_b463_onlyMarkersLeft_468.keep Kc470 (ninS (Nat.ne_of_lt (Nat.lt_of_lt_of_le E_b463_467.lt (Nat.le_of_eq g468.symm))) nin0)
        have F_b463_lookedAt_470 : Fld Z T470.heap b463 cRR "lookedAt" "J" (.long ut) := F_b463_lookedAt_468.keep Kc470 (ninS (Nat.ne_of_lt (Nat.lt_of_lt_of_le E_b463_467.lt (Nat.le_of_eq g468.symm))) nin0)
        have E_w467_470 : Exa Z T470.heap w467 cOP := E_w467_468.keep Kc470
        have F_w467_value_470 : Fld Z T470.heap w467 cOP "value" dOB (.ref b463) := F_w467_value_468.keep Kc470 (ninS (Nat.ne_of_lt (Nat.lt_of_lt_of_le E_w467_467c.lt (Nat.le_of_eq g468.symm))) nin0)
        have E_b468_470 : Exa Z T470.heap b468 cPL := A468.keep Kc470
        have K470 : Keep h0 T470.heap [] := K468.trans Kc470 (allS (Or.inr sz_b468) all0)
        have F_b468_offset_470c : Fld Z T470.heap b468 cPL "offset" "J" (.long uo) := P470_0
        have F_b468_end_470c : Fld Z T470.heap b468 cPL "end" "J" (.long ue) := P470_1
        have F_b468_records_470c : Fld Z T470.heap b468 cPL "records" dOP (.ref w467) := P470_2
        refine gsW T470 (mkF m 180 (lw1 q1 q2 q3 q4 q5 p1 uo ue uf ut 1 0 u21 u22 fu nw w467) [(.ref b468)]) (fun _ hr => st470.trans hr) ?_
        refine gsW T470 (mkF m 182 (lw2 q1 q2 q3 q4 q5 p1 uo ue uf ut 1 0 u21 u22 fu nw w467 b468) []) (fun _ hr => XS.astore X470.here hx rfl (hb hby at_180) rfl rfl (l' := (lw2 q1 q2 q3 q4 q5 p1 uo ue uf ut 1 0 u21 u22 fu nw w467 b468)) rfl hr) ?_
        refine gsW T470 (mkF m 184 (lw2 q1 q2 q3 q4 q5 p1 uo ue uf ut 1 0 u21 u22 fu nw w467 b468) [(.ref b468)]) (fun _ hr => XS.aload X470.here hx rfl (hb hby at_182) rfl rfl hr) ?_
        have Zs471 : n0 ≤ T470.heap.size := Nat.le_trans Z0 K470.1
        obtain ⟨cq472, kq472, q472a, q472b, q472c⟩ := isOf hZ470 rfl E_b468_470
        obtain ⟨_, _, ⟨T472, L472, k472, n472⟩, -, X472, ⟨Lc472, hQ472, l472, y472, z472⟩, st472⟩ := X470.virtualBack hx (y := Y30) (z := Y30) hown470 (mvT hZ470 (tw hw 43 rfl)) (mvT hZ470 (tw hw 44 rfl)) (notFace_of_selects (args := #[]) (mvT hZ470 (tw hw 46 rfl))) (mvT hZ470 (tw hw 46 rfl)) (mvT hZ470 (tw hw 45 rfl)) (by decide) (backOf (W := 0) (rm_age_z0 l Z a0 hw [] b468 b463 em uo ue w467 eo ut T470.heap n0 Zs471 (Old.keep O0 K470 hws) E_b468_470 F_b468_offset_470c F_b468_end_470c F_b468_records_470c E_w467_470 F_w467_value_470 E_b463_470 F_b463_onlyMarkersLeft_470 F_b463_lookedAt_470 S_OptionalLong_EMPTY_old E_em_old F_em_isPresent_old F_em_value_old S_Optional_EMPTY_old E_eo_old F_eo_value_old hle hzz) hZ470 (tw hw 47 rfl) (tw hw 13 rfl) (by decide) (by decide)) q472a q472c (g := (mkF m 184 (lw2 q1 q2 q3 q4 q5 p1 uo ue uf ut 1 0 u21 u22 fu nw w467 b468) [(.ref b468)])) rfl (by rw [hml]; rfl) (Steps.refl _) (argsL := []) (rest := []) (lenOf pd_6 rfl) rfl (wle rfl) (hb hby at_184) (fun _ _ => ⟨rfl, rfl, (by decide : 11 + 7 ≤ _), (by decide : 192 + 12 ≤ _)⟩)
        dsimp only [Pt.U, Pt.locs, Pt.cells, Pt.slots] at X472 l472 y472 z472 st472 hQ472
        subst l472 y472 z472
        obtain ⟨w472, rfl, N472q, Kc472, P472_0, P472_1, P472_2, P472_3⟩ := hQ472
        have N472 := Fr.app N470 N472q
        have K472 : Keep h0 T472.heap [] := K470.trans Kc472 all0
        have kle472 : T470.heap.size ≤ T472.heap.size := Nat.le_trans kle470 Kc472.1
        have E_w472_472c : Exa Z T472.heap w472 cOL := P472_1
        have F_w472_isPresent_472c : Fld Z T472.heap w472 cOL nIP "Z" (.int (1 : Int32)) := P472_2
        have F_w472_value_472c : Fld Z T472.heap w472 cOL "value" "J" (.long (0 : Int64)) := P472_3
        refine gsW T472 (mkF m 187 (lw2 q1 q2 q3 q4 q5 p1 uo ue uf ut 1 0 u21 u22 fu nw w467 b468) [(.ref w472)]) (fun _ hr => st472.trans hr) ?_
        refine gsW T472 (mkF m 189 (lw3 q1 q2 q3 q4 q5 p1 uo ue uf ut 1 0 u21 u22 fu nw w467 b468 w472) []) (fun _ hr => XS.astore X472.here hx rfl (hb hby at_187) rfl rfl (l' := (lw3 q1 q2 q3 q4 q5 p1 uo ue uf ut 1 0 u21 u22 fu nw w467 b468 w472)) rfl hr) ?_
        refine gsW T472 (mkF m 190 (lw3 q1 q2 q3 q4 q5 p1 uo ue uf ut 1 0 u21 u22 fu nw w467 b468 w472) [(.long (0 : Int64))]) (fun _ hr => XT.lconst X472.here hx rfl (hb hby at_189) hr) ?_
        refine gsW T472 (mkF m 192 (lw4 q1 q2 q3 q4 q5 p1 uo ue uf ut 1 0 u21 u22 fu nw w467 b468 w472 (0 : Int64)) []) (fun _ hr => XT.lstore X472.here hx rfl (hb hby at_190) rfl (l' := (lw4 q1 q2 q3 q4 q5 p1 uo ue uf ut 1 0 u21 u22 fu nw w467 b468 w472 (0 : Int64))) rfl hr) ?_
        refine gsW T472 (mkF m 194 (lw4 q1 q2 q3 q4 q5 p1 uo ue uf ut 1 0 u21 u22 fu nw w467 b468 w472 (0 : Int64)) [(.int (1 : Int32))]) (fun _ hr => XS.iload X472.here hx rfl (hb hby at_192) rfl  hr) ?_
        refine gsW T472 (mkF m 197 (lw4 q1 q2 q3 q4 q5 p1 uo ue uf ut 1 0 u21 u22 fu nw w467 b468 w472 (0 : Int64)) []) (fun _ hr => XS.ifNo X472.here hx rfl (hb hby at_194) rfl ((if0 _ _).trans (feq (by decide : ¬ ((1 : Int32) = (0 : Int32)))).1) hr) ?_
        refine gsW T472 (mkF m 199 (lw4 q1 q2 q3 q4 q5 p1 uo ue uf ut 1 0 u21 u22 fu nw w467 b468 w472 (0 : Int64)) [(.long uo)]) (fun _ hr => XT.lload X472.here hx rfl (hb hby at_197) rfl hr) ?_
        refine gsW T472 (mkF m 201 (lw4 q1 q2 q3 q4 q5 p1 uo ue uf ut 1 0 u21 u22 fu nw w467 b468 w472 (0 : Int64)) [(.long ue), (.long uo)]) (fun _ hr => XT.lload X472.here hx rfl (hb hby at_199) rfl hr) ?_
        refine gsW T472 (mkF m 202 (lw4 q1 q2 q3 q4 q5 p1 uo ue uf ut 1 0 u21 u22 fu nw w467 b468 w472 (0 : Int64)) [(.int (XT.cmpL uo ue))]) (fun _ hr => XT.lcmp X472.here hx rfl (hb hby at_201) rfl hr) ?_
        refine gsW T472 (mkF m 211 (lw4 q1 q2 q3 q4 q5 p1 uo ue uf ut 1 0 u21 u22 fu nw w467 b468 w472 (0 : Int64)) []) (fun _ hr => XS.ifYes X472.here hx rfl (pc0 := 202) (pc' := 211) rfl (hb hby at_202) rfl ((if0 _ _).trans (flt (hle : ¬ ((0 : Int32) < (XT.cmpL uo ue)))).2.2.2) (by decide) (by decide) hr) ?_
        refine gsW T472 (mkF m 213 (lw4 q1 q2 q3 q4 q5 p1 uo ue uf ut 1 0 u21 u22 fu nw w467 b468 w472 (0 : Int64)) [(.int (0 : Int32))]) (fun _ hr => XS.iload X472.here hx rfl (hb hby at_211) rfl  hr) ?_
        refine gsW T472 (mkF m 216 (lw4 q1 q2 q3 q4 q5 p1 uo ue uf ut 1 0 u21 u22 fu nw w467 b468 w472 (0 : Int64)) []) (fun _ hr => XS.ifNo X472.here hx rfl (hb hby at_213) rfl ((if0 _ _).trans (teq (by decide : (0 : Int32) = (0 : Int32))).2) hr) ?_
        refine gsW T472 (mkF m 218 (lw4 q1 q2 q3 q4 q5 p1 uo ue uf ut 1 0 u21 u22 fu nw w467 b468 w472 (0 : Int64)) [(.long uo)]) (fun _ hr => XT.lload X472.here hx rfl (hb hby at_216) rfl hr) ?_
        refine gsW T472 (mkF m 220 (lw4 q1 q2 q3 q4 q5 p1 uo ue uf ut 1 0 u21 u22 fu nw w467 b468 w472 (0 : Int64)) [(.long ue), (.long uo)]) (fun _ hr => XT.lload X472.here hx rfl (hb hby at_218) rfl hr) ?_
        refine gsW T472 (mkF m 221 (lw4 q1 q2 q3 q4 q5 p1 uo ue uf ut 1 0 u21 u22 fu nw w467 b468 w472 (0 : Int64)) [(.int (XT.cmpL uo ue))]) (fun _ hr => XT.lcmp X472.here hx rfl (hb hby at_220) rfl hr) ?_
        refine gsW T472 (mkF m 224 (lw4 q1 q2 q3 q4 q5 p1 uo ue uf ut 1 0 u21 u22 fu nw w467 b468 w472 (0 : Int64)) []) (fun _ hr => XS.ifNo X472.here hx rfl (hb hby at_221) rfl ((if0 _ _).trans (teq (heq : (XT.cmpL uo ue) = (0 : Int32))).2) hr) ?_
        refine gsW T472 (mkF m 225 (lw4 q1 q2 q3 q4 q5 p1 uo ue uf ut 1 0 u21 u22 fu nw w467 b468 w472 (0 : Int64)) [(.int (1 : Int32))]) (fun _ hr => XS.iconst X472.here hx rfl (hb hby at_224) hr) ?_
        refine gsW T472 (mkF m 227 (lw5 q1 q2 q3 q4 q5 p1 uo ue uf ut 1 0 u21 u22 fu nw w467 b468 w472 1 (0 : Int64)) []) (fun _ hr => XS.istore X472.here hx rfl (hb hby at_225) rfl (l' := (lw5 q1 q2 q3 q4 q5 p1 uo ue uf ut 1 0 u21 u22 fu nw w467 b468 w472 1 (0 : Int64))) rfl hr) ?_
        refine gsW T472 (mkF m 228 (lw5 q1 q2 q3 q4 q5 p1 uo ue uf ut 1 0 u21 u22 fu nw w467 b468 w472 1 (0 : Int64)) [(.long (0 : Int64))]) (fun _ hr => XT.lconst X472.here hx rfl (hb hby at_227) hr) ?_
        refine gsW T472 (mkF m 230 (lw5 q1 q2 q3 q4 q5 p1 uo ue uf ut 1 0 u21 u22 fu nw w467 b468 w472 1 (0 : Int64)) []) (fun _ hr => XT.lstore X472.here hx rfl (hb hby at_228) rfl (l' := (lw5 q1 q2 q3 q4 q5 p1 uo ue uf ut 1 0 u21 u22 fu nw w467 b468 w472 1 (0 : Int64))) rfl hr) ?_
        refine gsW T472 (mkF m 269 (lw5 q1 q2 q3 q4 q5 p1 uo ue uf ut 1 0 u21 u22 fu nw w467 b468 w472 1 (0 : Int64)) []) (fun _ hr => XS.goto X472.here hx rfl (pc0 := 230) (pc' := 269) rfl (hb hby at_230) (by decide) (by decide) hr) ?_
        refine gsW T472 (mkF m 271 (lw5 q1 q2 q3 q4 q5 p1 uo ue uf ut 1 0 u21 u22 fu nw w467 b468 w472 1 (0 : Int64)) [(.int (1 : Int32))]) (fun _ hr => XS.iload X472.here hx rfl (hb hby at_269) rfl  hr) ?_
        refine gsW T472 (mkF m 274 (lw5 q1 q2 q3 q4 q5 p1 uo ue uf ut 1 0 u21 u22 fu nw w467 b468 w472 1 (0 : Int64)) []) (fun _ hr => XS.ifNo X472.here hx rfl (hb hby at_271) rfl ((if0 _ _).trans (feq (by decide : ¬ ((1 : Int32) = (0 : Int32)))).1) hr) ?_
        refine gsW T472 (mkF m 276 (lw5 q1 q2 q3 q4 q5 p1 uo ue uf ut 1 0 u21 u22 fu nw w467 b468 w472 1 (0 : Int64)) [(.ref w472)]) (fun _ hr => XS.aload X472.here hx rfl (hb hby at_274) rfl rfl hr) ?_
        have Zs473 : n0 ≤ T472.heap.size := Nat.le_trans Z0 K472.1
        obtain ⟨cq474, kq474, q474a, q474b, q474c⟩ := isOf hZ470 rfl E_w472_472c
        obtain ⟨_, _, ⟨T474, L474, k474, n474⟩, -, X474, ⟨Lc474, hQ474, l474, y474, z474⟩, st474⟩ := X472.virtualBack hx (y := Y5) (z := Y5) hown470 (mvT hZ470 (tw hw 184 rfl)) (mvT hZ470 (tw hw 156 rfl)) (notFace_of_selects (args := #[]) (mvT hZ470 (tw hw 158 rfl))) (mvT hZ470 (tw hw 158 rfl)) (mvT hZ470 (tw hw 157 rfl)) (by decide) (backOf (W := 0) (rm_olp1 l Z a0 hw [] w472 T472.heap n0 Zs473 (Old.keep O0 K472 hws) F_w472_isPresent_472c) hZ470 (tw hw 159 rfl) (tw hw 3 rfl) (by decide) (by decide)) q474a q474c (g := (mkF m 276 (lw5 q1 q2 q3 q4 q5 p1 uo ue uf ut 1 0 u21 u22 fu nw w467 b468 w472 1 (0 : Int64)) [(.ref w472)])) rfl (by rw [hml]; rfl) (Steps.refl _) (argsL := []) (rest := []) (lenOf pd_1 rfl) rfl (wle rfl) (hb hby at_276) (fun _ _ => ⟨rfl, rfl, (by decide : 18 + 0 ≤ _), (by decide : 204 + 0 ≤ _)⟩)
        dsimp only [Pt.U, Pt.locs, Pt.cells, Pt.slots] at X474 l474 y474 z474 st474 hQ474
        subst l474 y474 z474
        obtain ⟨rfl, N474q, e474⟩ := hQ474
        have N474 := Fr.app N472 N474q
        refine gsW T474 (mkF m 279 (lw5 q1 q2 q3 q4 q5 p1 uo ue uf ut 1 0 u21 u22 fu nw w467 b468 w472 1 (0 : Int64)) [(.int (1 : Int32))]) (fun _ hr => st474.trans hr) ?_
        refine gsW T474 (mkF m 282 (lw5 q1 q2 q3 q4 q5 p1 uo ue uf ut 1 0 u21 u22 fu nw w467 b468 w472 1 (0 : Int64)) []) (fun _ hr => XS.ifNo X474.here hx rfl (hb hby at_279) rfl ((if0 _ _).trans (feq (by decide : ¬ ((1 : Int32) = (0 : Int32)))).1) hr) ?_
        refine gsW T474 (mkF m 284 (lw5 q1 q2 q3 q4 q5 p1 uo ue uf ut 1 0 u21 u22 fu nw w467 b468 w472 1 (0 : Int64)) [(.ref w472)]) (fun _ hr => XS.aload X474.here hx rfl (hb hby at_282) rfl rfl hr) ?_
        have Zs475 : n0 ≤ T472.heap.size := Nat.le_trans Z0 K472.1
        obtain ⟨cq476, kq476, q476a, q476b, q476c⟩ := isOf hZ470 e474 E_w472_472c
        obtain ⟨_, _, ⟨T476, L476, k476, n476⟩, -, X476, ⟨Lc476, hQ476, l476, y476, z476⟩, st476⟩ := X474.virtualBack hx (y := Y7) (z := Y7) hown470 (mvT hZ470 (tw hw 185 rfl)) (mvT hZ470 (tw hw 150 rfl)) (notFace_of_selects (args := #[]) (mvT hZ470 (tw hw 152 rfl))) (mvT hZ470 (tw hw 152 rfl)) (mvT hZ470 (tw hw 151 rfl)) (by decide) (backOf (W := 0) (rm_olg l Z a0 hw [] w472 (0 : Int64) T472.heap n0 Zs475 (Old.keep O0 K472 hws) F_w472_isPresent_472c F_w472_value_472c) hZ470 (tw hw 153 rfl) (tw hw 3 rfl) (by decide) (by decide)) q476a q476c (g := (mkF m 284 (lw5 q1 q2 q3 q4 q5 p1 uo ue uf ut 1 0 u21 u22 fu nw w467 b468 w472 1 (0 : Int64)) [(.ref w472)])) rfl (by rw [hml]; rfl) (Steps.refl _) (argsL := []) (rest := []) (lenOf pd_5 rfl) rfl (wle rfl) (hb hby at_284) (fun _ _ => ⟨rfl, e474, (by decide : 18 + 0 ≤ _), (by decide : 204 + 0 ≤ _)⟩)
        dsimp only [Pt.U, Pt.locs, Pt.cells, Pt.slots] at X476 l476 y476 z476 st476 hQ476
        subst l476 y476 z476
        obtain ⟨rfl, N476q, e476⟩ := hQ476
        have N476 := Fr.app N474 N476q
        refine gsW T476 (mkF m 287 (lw5 q1 q2 q3 q4 q5 p1 uo ue uf ut 1 0 u21 u22 fu nw w467 b468 w472 1 (0 : Int64)) [(.long (0 : Int64))]) (fun _ hr => st476.trans hr) ?_
        refine gsW T476 (mkF m 289 (lw5 q1 q2 q3 q4 q5 p1 uo ue uf ut 1 0 u21 u22 fu nw w467 b468 w472 1 (0 : Int64)) [(.long (0 : Int64)), (.long (0 : Int64))]) (fun _ hr => XT.lload X476.here hx rfl (hb hby at_287) rfl hr) ?_
        refine gsW T476 (mkF m 290 (lw5 q1 q2 q3 q4 q5 p1 uo ue uf ut 1 0 u21 u22 fu nw w467 b468 w472 1 (0 : Int64)) [(.int (XT.cmpL (0 : Int64) (0 : Int64)))]) (fun _ hr => XT.lcmp X476.here hx rfl (hb hby at_289) rfl hr) ?_
        rw [cmpL_self]
        refine gsW T476 (mkF m 293 (lw5 q1 q2 q3 q4 q5 p1 uo ue uf ut 1 0 u21 u22 fu nw w467 b468 w472 1 (0 : Int64)) []) (fun _ hr => XS.ifNo X476.here hx rfl (hb hby at_290) rfl ((if0 _ _).trans (teq (by decide : (0 : Int32) = (0 : Int32))).2) hr) ?_
        refine gsW T476 (mkF m 294 (lw5 q1 q2 q3 q4 q5 p1 uo ue uf ut 1 0 u21 u22 fu nw w467 b468 w472 1 (0 : Int64)) [(.int (1 : Int32))]) (fun _ hr => XS.iconst X476.here hx rfl (hb hby at_293) hr) ?_
        refine gsW T476 (mkF m 298 (lw5 q1 q2 q3 q4 q5 p1 uo ue uf ut 1 0 u21 u22 fu nw w467 b468 w472 1 (0 : Int64)) [(.int (1 : Int32))]) (fun _ hr => XS.goto X476.here hx rfl (pc0 := 294) (pc' := 298) rfl (hb hby at_294) (by decide) (by decide) hr) ?_
        exact GoesW.ret (v := some (.int (1 : Int32))) X476 Sn470 (by rw [e476]; exact kle472) (by decide) (by decide) (fun h => by rw [Bd.returns] at h; cases h) ⟨rfl, N476⟩ (fun fs hr => retN X476 hx (t := .boolean) Bd.returns (by simp) (hb hby at_298) hr)
      · have hpp := own_subp ho he hle hne
        refine gsW Tg (mkF m 141 (lw0 q1 q2 q3 q4 q5 p1 uo ue uf ut 1 0 u21 u22 fu nw) []) (fun _ hr => XS.ifNo Xg.here hx rfl (hb hby at_138) rfl ((if0 _ _).trans (feq (by decide : ¬ ((1 : Int32) = (0 : Int32)))).1) hr) ?_
        rcases hfu with ⟨rfl, rfl⟩ | ⟨rfl, E_fu_g, F_fu_isPresent_g, F_fu_value_g⟩
        · obtain ⟨T477, h477, X477, e477, E477, A477, D477, -, st477⟩ := newO Xg hx hZ hown (tw hw 94 rfl) (tw hw 95 rfl) (tw hw 96 rfl) eg (g := (mkF m 141 (lw0 q1 q2 q3 q4 q5 p1 uo ue uf ut 1 0 0 u22 em nw) [])) rfl (hb hby at_141) (by decide) (by decide)
          obtain ⟨b477, g477⟩ : ∃ z, z = hg.size := ⟨_, rfl⟩
          rw [← g477] at A477 D477 st477
          have sz_b477 : h0.size ≤ b477 := Nat.le_trans Kg.1 (Nat.le_of_eq g477.symm)
          have ge_b477 : n0 ≤ b477 := Nat.le_trans Z0 sz_b477
          have K477 : Keep h0 h477 [] := Kg.ext E477
          have kle477 : 0 ≤ h477.size := Nat.le_trans kleg E477.1
          have F_b477_onlyMarkersLeft_477 : Fld Z h477 b477 cRR nOM "Z" (.int (0 : Int32)) := D477 (Or.inr (tw hw 105 rfl)) (ty := .boolean) (by decide)
          have F_b477_firstUnreadTimestamp_477 : Fld Z h477 b477 cRR nLT dOL .null := D477 (Or.inr (tw hw 107 rfl)) (ty := (.object cOL)) (by decide)
          have F_b477_newestTimestamp_477 : Fld Z h477 b477 cRR nNT dOL .null := D477 (Or.inr (tw hw 109 rfl)) (ty := (.object cOL)) (by decide)
          have F_b477_lookedAt_477 : Fld Z h477 b477 cRR "lookedAt" "J" (.long (0 : Int64)) := D477 (Or.inr (tw hw 111 rfl)) (ty := .long) (by decide)
          refine gsW T477 (mkF m 144 (lw0 q1 q2 q3 q4 q5 p1 uo ue uf ut 1 0 0 u22 em nw) [(.ref b477)]) st477 ?_
          refine gsW T477 (mkF m 145 (lw0 q1 q2 q3 q4 q5 p1 uo ue uf ut 1 0 0 u22 em nw) [(.ref b477), (.ref b477)]) (fun _ hr => XS.dup X477.here hx rfl (hb hby at_144) rfl rfl hr) ?_
          refine gsW T477 (mkF m 147 (lw0 q1 q2 q3 q4 q5 p1 uo ue uf ut 1 0 0 u22 em nw) [(.int (0 : Int32)), (.ref b477), (.ref b477)]) (fun _ hr => XS.iload X477.here hx rfl (hb hby at_145) rfl  hr) ?_
          refine gsW T477 (mkF m 149 (lw0 q1 q2 q3 q4 q5 p1 uo ue uf ut 1 0 0 u22 em nw) [(.ref em), (.int (0 : Int32)), (.ref b477), (.ref b477)]) (fun _ hr => XS.aload X477.here hx rfl (hb hby at_147) rfl rfl hr) ?_
          refine gsW T477 (mkF m 151 (lw0 q1 q2 q3 q4 q5 p1 uo ue uf ut 1 0 0 u22 em nw) [(.ref nw), (.ref em), (.int (0 : Int32)), (.ref b477), (.ref b477)]) (fun _ hr => XS.aload X477.here hx rfl (hb hby at_149) rfl rfl hr) ?_
          refine gsW T477 (mkF m 153 (lw0 q1 q2 q3 q4 q5 p1 uo ue uf ut 1 0 0 u22 em nw) [(.long ut), (.ref nw), (.ref em), (.int (0 : Int32)), (.ref b477), (.ref b477)]) (fun _ hr => XT.lload X477.here hx rfl (hb hby at_151) rfl hr) ?_
          have Zs478 : n0 ≤ h477.size := Nat.le_trans Z0 K477.1
          obtain ⟨_, _, ⟨T479, L479, k479, n479⟩, -, X479, Sc479, gr479, ⟨Lc479, hQ479, l479, y479, z479⟩, st479⟩ := X477.specialBackS hx (y := Y32) rfl hown (mvT hZ (tw hw 97 rfl)) (mvT hZ (tw hw 98 rfl)) (mvT hZ (tw hw 99 rfl)) (by decide) (backOfS (W := 1) (rm_rinit0 l Z a0 hw [] b477 em nw ut h477 n0 Zs478 (Old.keep O0 K477 hws) A477 F_b477_onlyMarkersLeft_477 F_b477_firstUnreadTimestamp_477 F_b477_newestTimestamp_477 F_b477_lookedAt_477 ge_b477) hZ (tw hw 99 rfl) (tw hw 96 rfl) (by decide) (by decide)) (g := (mkF m 153 (lw0 q1 q2 q3 q4 q5 p1 uo ue uf ut 1 0 0 u22 em nw) [(.long ut), (.ref nw), (.ref em), (.int (0 : Int32)), (.ref b477), (.ref b477)])) rfl (by rw [hml]; rfl) (Steps.refl _) (a := b477) (argsL := [(.int (0 : Int32)), (.ref em), (.ref nw), (.long ut)]) (rest := [(.ref b477)]) (lenOf pd_20 rfl) rfl (wle rfl) (hb hby at_153) (fun _ _ => ⟨rfl, e477, (by decide : 3 + 4 ≤ _), (by decide : 8 + 148 ≤ _)⟩)
          dsimp only [Pt.U, Pt.locs, Pt.cells, Pt.slots] at X479 l479 y479 z479 st479 hQ479 Sc479 gr479
          subst l479 y479 z479
          have Sn479 := Sn0.trans Sc479 (Nat.le_trans (show 0 ≤ T477.heap.size by rw [(e477 : T477.heap = h477)]; exact kle477) gr479)
          have hZ479 : Z.Warmed39 (s.setVm T479.vm).vm := State.Warmed39.trans (t := s.setVm s.vm) hZ Sc479.1
          have hown479 : (s.setVm T479.vm).vm.findClass "com/example/log_lag_gauge/loglaggauge/model/PositionLagAgeMsPinLaw" = some m.cls := by rw [show (s.setVm T479.vm).vm = T479.vm from rfl, Sc479.1.alike.findClass]; exact hown
          have kle479 : T479.heap.size ≤ T479.heap.size := Nat.le_refl _
          obtain ⟨rfl, N479q, Kc479, P479_0, P479_1, P479_2, P479_3⟩ := hQ479
          have N479 := Fr.app Ng N479q
          have E_b477_479 : Exa Z T479.heap b477 cRR := A477.keep Kc479
          have K479 : Keep h0 T479.heap [] := K477.trans Kc479 (allS (Or.inr sz_b477) all0)
          have F_b477_onlyMarkersLeft_479c : Fld Z T479.heap b477 cRR nOM "Z" (.int (0 : Int32)) := P479_0
          have F_b477_firstUnreadTimestamp_479c : Fld Z T479.heap b477 cRR nLT dOL (.ref em) := P479_1
          have F_b477_lookedAt_479c : Fld Z T479.heap b477 cRR "lookedAt" "J" (.long ut) := P479_3
          refine gsW T479 (mkF m 156 (lw0 q1 q2 q3 q4 q5 p1 uo ue uf ut 1 0 0 u22 em nw) [(.ref b477)]) (fun _ hr => st479.trans hr) ?_
          have Zs480 : n0 ≤ T479.heap.size := Nat.le_trans Z0 K479.1
          obtain ⟨_, _, ⟨T481, L481, k481, n481⟩, -, X481, ⟨Lc481, hQ481, l481, y481, z481⟩, st481⟩ := LawKit.callS X479 hx (y := Y15) hown479 (mvT hZ479 (tw hw 112 rfl)) (mvT hZ479 (tw hw 113 rfl)) (mvT hZ479 (tw hw 8 rfl)) (mvT hZ479 (tw hw 114 rfl)) (by decide) (backOf (W := 0) (rm_oof l Z a0 hw [] b477 T479.heap n0 Zs480 (Old.keep O0 K479 hws)) hZ479 (tw hw 114 rfl) (tw hw 8 rfl) (by decide) (by decide)) (g := (mkF m 156 (lw0 q1 q2 q3 q4 q5 p1 uo ue uf ut 1 0 0 u22 em nw) [(.ref b477)])) rfl (by rw [hml]; rfl) (argsL := [(.ref b477)]) (rest := []) (lenOf pd_15 rfl) rfl (wle rfl) (hb hby at_156) (fun _ _ => ⟨rfl, rfl, (by decide : 7 + 1 ≤ _), (by decide : 156 + 1 ≤ _)⟩)
          dsimp only [Pt.U, Pt.locs, Pt.cells, Pt.slots] at X481 l481 y481 z481 st481 hQ481
          subst l481 y481 z481
          obtain ⟨w481, rfl, N481q, Kc481, P481_0, P481_1, P481_2⟩ := hQ481
          have N481 := Fr.app N479 N481q
          have E_b477_481 : Exa Z T481.heap b477 cRR := E_b477_479.keep Kc481
          have F_b477_onlyMarkersLeft_481 : Fld Z T481.heap b477 cRR nOM "Z" (.int (0 : Int32)) := F_b477_onlyMarkersLeft_479c.keep Kc481 nin0
          have F_b477_firstUnreadTimestamp_481 : Fld Z T481.heap b477 cRR nLT dOL (.ref em) := F_b477_firstUnreadTimestamp_479c.keep Kc481 nin0
          have F_b477_lookedAt_481 : Fld Z T481.heap b477 cRR "lookedAt" "J" (.long ut) := F_b477_lookedAt_479c.keep Kc481 nin0
          have K481 : Keep h0 T481.heap [] := K479.trans Kc481 all0
          have kle481 : T479.heap.size ≤ T481.heap.size := Nat.le_trans kle479 Kc481.1
          have E_w481_481c : Exa Z T481.heap w481 cOP := P481_1
          have F_w481_value_481c : Fld Z T481.heap w481 cOP "value" dOB (.ref b477) := P481_2
          refine gsW T481 (mkF m 159 (lw0 q1 q2 q3 q4 q5 p1 uo ue uf ut 1 0 0 u22 em nw) [(.ref w481)]) st481 ?_
          refine gsW T481 (mkF m 165 (lw0 q1 q2 q3 q4 q5 p1 uo ue uf ut 1 0 0 u22 em nw) [(.ref w481)]) (fun _ hr => XS.goto X481.here hx rfl (pc0 := 159) (pc' := 165) rfl (hb hby at_159) (by decide) (by decide) hr) ?_
          refine gsW T481 (mkF m 167 (lw1 q1 q2 q3 q4 q5 p1 uo ue uf ut 1 0 0 u22 em nw w481) []) (fun _ hr => XS.astore X481.here hx rfl (hb hby at_165) rfl rfl (l' := (lw1 q1 q2 q3 q4 q5 p1 uo ue uf ut 1 0 0 u22 em nw w481)) rfl hr) ?_
          obtain ⟨T482, h482, X482, e482, E482, A482, D482, -, st482⟩ := newO X481 hx hZ479 hown479 (tw hw 11 rfl) (tw hw 12 rfl) (tw hw 13 rfl) rfl (g := (mkF m 167 (lw1 q1 q2 q3 q4 q5 p1 uo ue uf ut 1 0 0 u22 em nw w481) [])) rfl (hb hby at_167) (by decide) (by decide)
          obtain ⟨b482, g482⟩ : ∃ z, z = T481.heap.size := ⟨_, rfl⟩
          rw [← g482] at A482 D482 st482
          have sz_b482 : h0.size ≤ b482 := Nat.le_trans K481.1 (Nat.le_of_eq g482.symm)
          have ge_b482 : n0 ≤ b482 := Nat.le_trans Z0 sz_b482
          have E_b477_482 : Exa Z h482 b477 cRR := E_b477_481.ext E482
          have F_b477_onlyMarkersLeft_482 : Fld Z h482 b477 cRR nOM "Z" (.int (0 : Int32)) := F_b477_onlyMarkersLeft_481.ext E482
          have F_b477_firstUnreadTimestamp_482 : Fld Z h482 b477 cRR nLT dOL (.ref em) := F_b477_firstUnreadTimestamp_481.ext E482
          have F_b477_lookedAt_482 : Fld Z h482 b477 cRR "lookedAt" "J" (.long ut) := F_b477_lookedAt_481.ext E482
          have E_w481_482 : Exa Z h482 w481 cOP := E_w481_481c.ext E482
          have F_w481_value_482 : Fld Z h482 w481 cOP "value" dOB (.ref b477) := F_w481_value_481c.ext E482
          have K482 : Keep h0 h482 [] := K481.ext E482
          have kle482 : T479.heap.size ≤ h482.size := Nat.le_trans kle481 E482.1
          have F_b482_offset_482 : Fld Z h482 b482 cPL "offset" "J" (.long (0 : Int64)) := D482 (Or.inr (tw hw 38 rfl)) (ty := .long) (by decide)
          have F_b482_end_482 : Fld Z h482 b482 cPL "end" "J" (.long (0 : Int64)) := D482 (Or.inr (tw hw 40 rfl)) (ty := .long) (by decide)
          have F_b482_records_482 : Fld Z h482 b482 cPL "records" dOP .null := D482 (Or.inr (tw hw 42 rfl)) (ty := (.object cOP)) (by decide)
          refine gsW T482 (mkF m 170 (lw1 q1 q2 q3 q4 q5 p1 uo ue uf ut 1 0 0 u22 em nw w481) [(.ref b482)]) st482 ?_
          refine gsW T482 (mkF m 171 (lw1 q1 q2 q3 q4 q5 p1 uo ue uf ut 1 0 0 u22 em nw w481) [(.ref b482), (.ref b482)]) (fun _ hr => XS.dup X482.here hx rfl (hb hby at_170) rfl rfl hr) ?_
          refine gsW T482 (mkF m 173 (lw1 q1 q2 q3 q4 q5 p1 uo ue uf ut 1 0 0 u22 em nw w481) [(.long uo), (.ref b482), (.ref b482)]) (fun _ hr => XT.lload X482.here hx rfl (hb hby at_171) rfl hr) ?_
          refine gsW T482 (mkF m 175 (lw1 q1 q2 q3 q4 q5 p1 uo ue uf ut 1 0 0 u22 em nw w481) [(.long ue), (.long uo), (.ref b482), (.ref b482)]) (fun _ hr => XT.lload X482.here hx rfl (hb hby at_173) rfl hr) ?_
          refine gsW T482 (mkF m 177 (lw1 q1 q2 q3 q4 q5 p1 uo ue uf ut 1 0 0 u22 em nw w481) [(.ref w481), (.long ue), (.long uo), (.ref b482), (.ref b482)]) (fun _ hr => XS.aload X482.here hx rfl (hb hby at_175) rfl rfl hr) ?_
          have Zs483 : n0 ≤ h482.size := Nat.le_trans Z0 K482.1
          obtain ⟨_, _, ⟨T484, L484, k484, n484⟩, -, X484, Sc484, gr484, ⟨Lc484, hQ484, l484, y484, z484⟩, st484⟩ := X482.specialBackS hx (y := Y31) rfl hown479 (mvT hZ479 (tw hw 14 rfl)) (mvT hZ479 (tw hw 15 rfl)) (mvT hZ479 (tw hw 16 rfl)) (by decide) (backOfS (W := 1) (rm_pinit l Z a0 hw [] b482 uo ue w481 h482 n0 Zs483 (Old.keep O0 K482 hws) A482 F_b482_offset_482 F_b482_end_482 F_b482_records_482 ge_b482) hZ479 (tw hw 16 rfl) (tw hw 13 rfl) (by decide) (by decide)) (g := (mkF m 177 (lw1 q1 q2 q3 q4 q5 p1 uo ue uf ut 1 0 0 u22 em nw w481) [(.ref w481), (.long ue), (.long uo), (.ref b482), (.ref b482)])) rfl (by rw [hml]; rfl) (Steps.refl _) (a := b482) (argsL := [(.long uo), (.long ue), (.ref w481)]) (rest := [(.ref b482)]) (lenOf pd_19 rfl) rfl (wle rfl) (hb hby at_177) (fun _ _ => ⟨rfl, e482, (by decide : 9 + 2 ≤ _), (by decide : 160 + 32 ≤ _)⟩)
          dsimp only [Pt.U, Pt.locs, Pt.cells, Pt.slots] at X484 l484 y484 z484 st484 hQ484 Sc484 gr484
          subst l484 y484 z484
          have Sn484 := Sn479.trans Sc484 (Nat.le_trans (show T479.heap.size ≤ T482.heap.size by rw [(e482 : T482.heap = h482)]; exact kle482) gr484)
          have hZ484 : Z.Warmed39 (s.setVm T484.vm).vm := State.Warmed39.trans (t := s.setVm T479.vm) hZ479 Sc484.1
          have hown484 : (s.setVm T484.vm).vm.findClass "com/example/log_lag_gauge/loglaggauge/model/PositionLagAgeMsPinLaw" = some m.cls := by rw [show (s.setVm T484.vm).vm = T484.vm from rfl, Sc484.1.alike.findClass]; exact hown479
          have kle484 : T484.heap.size ≤ T484.heap.size := Nat.le_refl _
          obtain ⟨rfl, N484q, Kc484, P484_0, P484_1, P484_2⟩ := hQ484
          have N484 := Fr.app N481 N484q
          have E_b477_484 : Exa Z T484.heap b477 cRR := E_b477_482.keep Kc484
          have F_b477_onlyMarkersLeft_484 : Fld Z T484.heap b477 cRR nOM "Z" (.int (0 : Int32)) := F_b477_onlyMarkersLeft_482.keep Kc484 (ninS (Nat.ne_of_lt (Nat.lt_of_lt_of_le E_b477_481.lt (Nat.le_of_eq g482.symm))) nin0)
          have F_b477_firstUnreadTimestamp_484 : Fld Z T484.heap b477 cRR nLT dOL (.ref em) := F_b477_firstUnreadTimestamp_482.keep Kc484 (ninS (Nat.ne_of_lt (Nat.lt_of_lt_of_le E_b477_481.lt (Nat.le_of_eq g482.symm))) nin0)
          have F_b477_lookedAt_484 : Fld Z T484.heap b477 cRR "lookedAt" "J" (.long ut) := F_b477_lookedAt_482.keep Kc484 (ninS (Nat.ne_of_lt (Nat.lt_of_lt_of_le E_b477_481.lt (Nat.le_of_eq g482.symm))) nin0)
          have E_w481_484 : Exa Z T484.heap w481 cOP := E_w481_482.keep Kc484
          have F_w481_value_484 : Fld Z T484.heap w481 cOP "value" dOB (.ref b477) := F_w481_value_482.keep Kc484 (ninS (Nat.ne_of_lt (Nat.lt_of_lt_of_le E_w481_481c.lt (Nat.le_of_eq g482.symm))) nin0)
          have E_b482_484 : Exa Z T484.heap b482 cPL := A482.keep Kc484
          have K484 : Keep h0 T484.heap [] := K482.trans Kc484 (allS (Or.inr sz_b482) all0)
          have F_b482_offset_484c : Fld Z T484.heap b482 cPL "offset" "J" (.long uo) := P484_0
          have F_b482_end_484c : Fld Z T484.heap b482 cPL "end" "J" (.long ue) := P484_1
          have F_b482_records_484c : Fld Z T484.heap b482 cPL "records" dOP (.ref w481) := P484_2
          refine gsW T484 (mkF m 180 (lw1 q1 q2 q3 q4 q5 p1 uo ue uf ut 1 0 0 u22 em nw w481) [(.ref b482)]) (fun _ hr => st484.trans hr) ?_
          refine gsW T484 (mkF m 182 (lw2 q1 q2 q3 q4 q5 p1 uo ue uf ut 1 0 0 u22 em nw w481 b482) []) (fun _ hr => XS.astore X484.here hx rfl (hb hby at_180) rfl rfl (l' := (lw2 q1 q2 q3 q4 q5 p1 uo ue uf ut 1 0 0 u22 em nw w481 b482)) rfl hr) ?_
          refine gsW T484 (mkF m 184 (lw2 q1 q2 q3 q4 q5 p1 uo ue uf ut 1 0 0 u22 em nw w481 b482) [(.ref b482)]) (fun _ hr => XS.aload X484.here hx rfl (hb hby at_182) rfl rfl hr) ?_
          have Zs485 : n0 ≤ T484.heap.size := Nat.le_trans Z0 K484.1
          obtain ⟨cq486, kq486, q486a, q486b, q486c⟩ := isOf hZ484 rfl E_b482_484
          obtain ⟨_, _, ⟨T486, L486, k486, n486⟩, -, X486, ⟨Lc486, hQ486, l486, y486, z486⟩, st486⟩ := X484.virtualBack hx (y := Y30) (z := Y30) hown484 (mvT hZ484 (tw hw 43 rfl)) (mvT hZ484 (tw hw 44 rfl)) (notFace_of_selects (args := #[]) (mvT hZ484 (tw hw 46 rfl))) (mvT hZ484 (tw hw 46 rfl)) (mvT hZ484 (tw hw 45 rfl)) (by decide) (backOf (W := 0) (rm_age_p1em l Z a0 hw [] b482 b477 em uo ue w481 eo ut T484.heap n0 Zs485 (Old.keep O0 K484 hws) E_b482_484 F_b482_offset_484c F_b482_end_484c F_b482_records_484c E_w481_484 F_w481_value_484 E_b477_484 F_b477_onlyMarkersLeft_484 F_b477_firstUnreadTimestamp_484 F_b477_lookedAt_484 S_OptionalLong_EMPTY_old E_em_old F_em_isPresent_old F_em_value_old S_Optional_EMPTY_old E_eo_old F_eo_value_old hle hpp) hZ484 (tw hw 47 rfl) (tw hw 13 rfl) (by decide) (by decide)) q486a q486c (g := (mkF m 184 (lw2 q1 q2 q3 q4 q5 p1 uo ue uf ut 1 0 0 u22 em nw w481 b482) [(.ref b482)])) rfl (by rw [hml]; rfl) (Steps.refl _) (argsL := []) (rest := []) (lenOf pd_6 rfl) rfl (wle rfl) (hb hby at_184) (fun _ _ => ⟨rfl, rfl, (by decide : 11 + 7 ≤ _), (by decide : 192 + 12 ≤ _)⟩)
          dsimp only [Pt.U, Pt.locs, Pt.cells, Pt.slots] at X486 l486 y486 z486 st486 hQ486
          subst l486 y486 z486
          obtain ⟨w486, rfl, N486q, Kc486, P486_0, P486_1, P486_2, P486_3⟩ := hQ486
          have N486 := Fr.app N484 N486q
          have K486 : Keep h0 T486.heap [] := K484.trans Kc486 all0
          have kle486 : T484.heap.size ≤ T486.heap.size := Nat.le_trans kle484 Kc486.1
          have E_w486_486c : Exa Z T486.heap w486 cOL := P486_1
          have F_w486_isPresent_486c : Fld Z T486.heap w486 cOL nIP "Z" (.int (1 : Int32)) := P486_2
          have F_w486_value_486c : Fld Z T486.heap w486 cOL "value" "J" (.long (0 : Int64)) := P486_3
          refine gsW T486 (mkF m 187 (lw2 q1 q2 q3 q4 q5 p1 uo ue uf ut 1 0 0 u22 em nw w481 b482) [(.ref w486)]) (fun _ hr => st486.trans hr) ?_
          refine gsW T486 (mkF m 189 (lw3 q1 q2 q3 q4 q5 p1 uo ue uf ut 1 0 0 u22 em nw w481 b482 w486) []) (fun _ hr => XS.astore X486.here hx rfl (hb hby at_187) rfl rfl (l' := (lw3 q1 q2 q3 q4 q5 p1 uo ue uf ut 1 0 0 u22 em nw w481 b482 w486)) rfl hr) ?_
          refine gsW T486 (mkF m 190 (lw3 q1 q2 q3 q4 q5 p1 uo ue uf ut 1 0 0 u22 em nw w481 b482 w486) [(.long (0 : Int64))]) (fun _ hr => XT.lconst X486.here hx rfl (hb hby at_189) hr) ?_
          refine gsW T486 (mkF m 192 (lw4 q1 q2 q3 q4 q5 p1 uo ue uf ut 1 0 0 u22 em nw w481 b482 w486 (0 : Int64)) []) (fun _ hr => XT.lstore X486.here hx rfl (hb hby at_190) rfl (l' := (lw4 q1 q2 q3 q4 q5 p1 uo ue uf ut 1 0 0 u22 em nw w481 b482 w486 (0 : Int64))) rfl hr) ?_
          refine gsW T486 (mkF m 194 (lw4 q1 q2 q3 q4 q5 p1 uo ue uf ut 1 0 0 u22 em nw w481 b482 w486 (0 : Int64)) [(.int (1 : Int32))]) (fun _ hr => XS.iload X486.here hx rfl (hb hby at_192) rfl  hr) ?_
          refine gsW T486 (mkF m 197 (lw4 q1 q2 q3 q4 q5 p1 uo ue uf ut 1 0 0 u22 em nw w481 b482 w486 (0 : Int64)) []) (fun _ hr => XS.ifNo X486.here hx rfl (hb hby at_194) rfl ((if0 _ _).trans (feq (by decide : ¬ ((1 : Int32) = (0 : Int32)))).1) hr) ?_
          refine gsW T486 (mkF m 199 (lw4 q1 q2 q3 q4 q5 p1 uo ue uf ut 1 0 0 u22 em nw w481 b482 w486 (0 : Int64)) [(.long uo)]) (fun _ hr => XT.lload X486.here hx rfl (hb hby at_197) rfl hr) ?_
          refine gsW T486 (mkF m 201 (lw4 q1 q2 q3 q4 q5 p1 uo ue uf ut 1 0 0 u22 em nw w481 b482 w486 (0 : Int64)) [(.long ue), (.long uo)]) (fun _ hr => XT.lload X486.here hx rfl (hb hby at_199) rfl hr) ?_
          refine gsW T486 (mkF m 202 (lw4 q1 q2 q3 q4 q5 p1 uo ue uf ut 1 0 0 u22 em nw w481 b482 w486 (0 : Int64)) [(.int (XT.cmpL uo ue))]) (fun _ hr => XT.lcmp X486.here hx rfl (hb hby at_201) rfl hr) ?_
          refine gsW T486 (mkF m 211 (lw4 q1 q2 q3 q4 q5 p1 uo ue uf ut 1 0 0 u22 em nw w481 b482 w486 (0 : Int64)) []) (fun _ hr => XS.ifYes X486.here hx rfl (pc0 := 202) (pc' := 211) rfl (hb hby at_202) rfl ((if0 _ _).trans (flt (hle : ¬ ((0 : Int32) < (XT.cmpL uo ue)))).2.2.2) (by decide) (by decide) hr) ?_
          refine gsW T486 (mkF m 213 (lw4 q1 q2 q3 q4 q5 p1 uo ue uf ut 1 0 0 u22 em nw w481 b482 w486 (0 : Int64)) [(.int (0 : Int32))]) (fun _ hr => XS.iload X486.here hx rfl (hb hby at_211) rfl  hr) ?_
          refine gsW T486 (mkF m 216 (lw4 q1 q2 q3 q4 q5 p1 uo ue uf ut 1 0 0 u22 em nw w481 b482 w486 (0 : Int64)) []) (fun _ hr => XS.ifNo X486.here hx rfl (hb hby at_213) rfl ((if0 _ _).trans (teq (by decide : (0 : Int32) = (0 : Int32))).2) hr) ?_
          refine gsW T486 (mkF m 218 (lw4 q1 q2 q3 q4 q5 p1 uo ue uf ut 1 0 0 u22 em nw w481 b482 w486 (0 : Int64)) [(.long uo)]) (fun _ hr => XT.lload X486.here hx rfl (hb hby at_216) rfl hr) ?_
          refine gsW T486 (mkF m 220 (lw4 q1 q2 q3 q4 q5 p1 uo ue uf ut 1 0 0 u22 em nw w481 b482 w486 (0 : Int64)) [(.long ue), (.long uo)]) (fun _ hr => XT.lload X486.here hx rfl (hb hby at_218) rfl hr) ?_
          refine gsW T486 (mkF m 221 (lw4 q1 q2 q3 q4 q5 p1 uo ue uf ut 1 0 0 u22 em nw w481 b482 w486 (0 : Int64)) [(.int (XT.cmpL uo ue))]) (fun _ hr => XT.lcmp X486.here hx rfl (hb hby at_220) rfl hr) ?_
          refine gsW T486 (mkF m 233 (lw4 q1 q2 q3 q4 q5 p1 uo ue uf ut 1 0 0 u22 em nw w481 b482 w486 (0 : Int64)) []) (fun _ hr => XS.ifYes X486.here hx rfl (pc0 := 221) (pc' := 233) rfl (hb hby at_221) rfl ((if0 _ _).trans (feq (hne : ¬ ((XT.cmpL uo ue) = (0 : Int32)))).2) (by decide) (by decide) hr) ?_
          refine gsW T486 (mkF m 235 (lw4 q1 q2 q3 q4 q5 p1 uo ue uf ut 1 0 0 u22 em nw w481 b482 w486 (0 : Int64)) [(.int (0 : Int32))]) (fun _ hr => XS.iload X486.here hx rfl (hb hby at_233) rfl  hr) ?_
          refine gsW T486 (mkF m 238 (lw4 q1 q2 q3 q4 q5 p1 uo ue uf ut 1 0 0 u22 em nw w481 b482 w486 (0 : Int64)) []) (fun _ hr => XS.ifNo X486.here hx rfl (hb hby at_235) rfl ((if0 _ _).trans (teq (by decide : (0 : Int32) = (0 : Int32))).2) hr) ?_
          refine gsW T486 (mkF m 239 (lw4 q1 q2 q3 q4 q5 p1 uo ue uf ut 1 0 0 u22 em nw w481 b482 w486 (0 : Int64)) [(.int (1 : Int32))]) (fun _ hr => XS.iconst X486.here hx rfl (hb hby at_238) hr) ?_
          refine gsW T486 (mkF m 241 (lw5 q1 q2 q3 q4 q5 p1 uo ue uf ut 1 0 0 u22 em nw w481 b482 w486 1 (0 : Int64)) []) (fun _ hr => XS.istore X486.here hx rfl (hb hby at_239) rfl (l' := (lw5 q1 q2 q3 q4 q5 p1 uo ue uf ut 1 0 0 u22 em nw w481 b482 w486 1 (0 : Int64))) rfl hr) ?_
          refine gsW T486 (mkF m 242 (lw5 q1 q2 q3 q4 q5 p1 uo ue uf ut 1 0 0 u22 em nw w481 b482 w486 1 (0 : Int64)) [(.long (0 : Int64))]) (fun _ hr => XT.lconst X486.here hx rfl (hb hby at_241) hr) ?_
          refine gsW T486 (mkF m 244 (lw5 q1 q2 q3 q4 q5 p1 uo ue uf ut 1 0 0 u22 em nw w481 b482 w486 1 (0 : Int64)) []) (fun _ hr => XT.lstore X486.here hx rfl (hb hby at_242) rfl (l' := (lw5 q1 q2 q3 q4 q5 p1 uo ue uf ut 1 0 0 u22 em nw w481 b482 w486 1 (0 : Int64))) rfl hr) ?_
          refine gsW T486 (mkF m 269 (lw5 q1 q2 q3 q4 q5 p1 uo ue uf ut 1 0 0 u22 em nw w481 b482 w486 1 (0 : Int64)) []) (fun _ hr => XS.goto X486.here hx rfl (pc0 := 244) (pc' := 269) rfl (hb hby at_244) (by decide) (by decide) hr) ?_
          refine gsW T486 (mkF m 271 (lw5 q1 q2 q3 q4 q5 p1 uo ue uf ut 1 0 0 u22 em nw w481 b482 w486 1 (0 : Int64)) [(.int (1 : Int32))]) (fun _ hr => XS.iload X486.here hx rfl (hb hby at_269) rfl  hr) ?_
          refine gsW T486 (mkF m 274 (lw5 q1 q2 q3 q4 q5 p1 uo ue uf ut 1 0 0 u22 em nw w481 b482 w486 1 (0 : Int64)) []) (fun _ hr => XS.ifNo X486.here hx rfl (hb hby at_271) rfl ((if0 _ _).trans (feq (by decide : ¬ ((1 : Int32) = (0 : Int32)))).1) hr) ?_
          refine gsW T486 (mkF m 276 (lw5 q1 q2 q3 q4 q5 p1 uo ue uf ut 1 0 0 u22 em nw w481 b482 w486 1 (0 : Int64)) [(.ref w486)]) (fun _ hr => XS.aload X486.here hx rfl (hb hby at_274) rfl rfl hr) ?_
          have Zs487 : n0 ≤ T486.heap.size := Nat.le_trans Z0 K486.1
          obtain ⟨cq488, kq488, q488a, q488b, q488c⟩ := isOf hZ484 rfl E_w486_486c
          obtain ⟨_, _, ⟨T488, L488, k488, n488⟩, -, X488, ⟨Lc488, hQ488, l488, y488, z488⟩, st488⟩ := X486.virtualBack hx (y := Y5) (z := Y5) hown484 (mvT hZ484 (tw hw 184 rfl)) (mvT hZ484 (tw hw 156 rfl)) (notFace_of_selects (args := #[]) (mvT hZ484 (tw hw 158 rfl))) (mvT hZ484 (tw hw 158 rfl)) (mvT hZ484 (tw hw 157 rfl)) (by decide) (backOf (W := 0) (rm_olp1 l Z a0 hw [] w486 T486.heap n0 Zs487 (Old.keep O0 K486 hws) F_w486_isPresent_486c) hZ484 (tw hw 159 rfl) (tw hw 3 rfl) (by decide) (by decide)) q488a q488c (g := (mkF m 276 (lw5 q1 q2 q3 q4 q5 p1 uo ue uf ut 1 0 0 u22 em nw w481 b482 w486 1 (0 : Int64)) [(.ref w486)])) rfl (by rw [hml]; rfl) (Steps.refl _) (argsL := []) (rest := []) (lenOf pd_1 rfl) rfl (wle rfl) (hb hby at_276) (fun _ _ => ⟨rfl, rfl, (by decide : 18 + 0 ≤ _), (by decide : 204 + 0 ≤ _)⟩)
          dsimp only [Pt.U, Pt.locs, Pt.cells, Pt.slots] at X488 l488 y488 z488 st488 hQ488
          subst l488 y488 z488
          obtain ⟨rfl, N488q, e488⟩ := hQ488
          have N488 := Fr.app N486 N488q
          refine gsW T488 (mkF m 279 (lw5 q1 q2 q3 q4 q5 p1 uo ue uf ut 1 0 0 u22 em nw w481 b482 w486 1 (0 : Int64)) [(.int (1 : Int32))]) (fun _ hr => st488.trans hr) ?_
          refine gsW T488 (mkF m 282 (lw5 q1 q2 q3 q4 q5 p1 uo ue uf ut 1 0 0 u22 em nw w481 b482 w486 1 (0 : Int64)) []) (fun _ hr => XS.ifNo X488.here hx rfl (hb hby at_279) rfl ((if0 _ _).trans (feq (by decide : ¬ ((1 : Int32) = (0 : Int32)))).1) hr) ?_
          refine gsW T488 (mkF m 284 (lw5 q1 q2 q3 q4 q5 p1 uo ue uf ut 1 0 0 u22 em nw w481 b482 w486 1 (0 : Int64)) [(.ref w486)]) (fun _ hr => XS.aload X488.here hx rfl (hb hby at_282) rfl rfl hr) ?_
          have Zs489 : n0 ≤ T486.heap.size := Nat.le_trans Z0 K486.1
          obtain ⟨cq490, kq490, q490a, q490b, q490c⟩ := isOf hZ484 e488 E_w486_486c
          obtain ⟨_, _, ⟨T490, L490, k490, n490⟩, -, X490, ⟨Lc490, hQ490, l490, y490, z490⟩, st490⟩ := X488.virtualBack hx (y := Y7) (z := Y7) hown484 (mvT hZ484 (tw hw 185 rfl)) (mvT hZ484 (tw hw 150 rfl)) (notFace_of_selects (args := #[]) (mvT hZ484 (tw hw 152 rfl))) (mvT hZ484 (tw hw 152 rfl)) (mvT hZ484 (tw hw 151 rfl)) (by decide) (backOf (W := 0) (rm_olg l Z a0 hw [] w486 (0 : Int64) T486.heap n0 Zs489 (Old.keep O0 K486 hws) F_w486_isPresent_486c F_w486_value_486c) hZ484 (tw hw 153 rfl) (tw hw 3 rfl) (by decide) (by decide)) q490a q490c (g := (mkF m 284 (lw5 q1 q2 q3 q4 q5 p1 uo ue uf ut 1 0 0 u22 em nw w481 b482 w486 1 (0 : Int64)) [(.ref w486)])) rfl (by rw [hml]; rfl) (Steps.refl _) (argsL := []) (rest := []) (lenOf pd_5 rfl) rfl (wle rfl) (hb hby at_284) (fun _ _ => ⟨rfl, e488, (by decide : 18 + 0 ≤ _), (by decide : 204 + 0 ≤ _)⟩)
          dsimp only [Pt.U, Pt.locs, Pt.cells, Pt.slots] at X490 l490 y490 z490 st490 hQ490
          subst l490 y490 z490
          obtain ⟨rfl, N490q, e490⟩ := hQ490
          have N490 := Fr.app N488 N490q
          refine gsW T490 (mkF m 287 (lw5 q1 q2 q3 q4 q5 p1 uo ue uf ut 1 0 0 u22 em nw w481 b482 w486 1 (0 : Int64)) [(.long (0 : Int64))]) (fun _ hr => st490.trans hr) ?_
          refine gsW T490 (mkF m 289 (lw5 q1 q2 q3 q4 q5 p1 uo ue uf ut 1 0 0 u22 em nw w481 b482 w486 1 (0 : Int64)) [(.long (0 : Int64)), (.long (0 : Int64))]) (fun _ hr => XT.lload X490.here hx rfl (hb hby at_287) rfl hr) ?_
          refine gsW T490 (mkF m 290 (lw5 q1 q2 q3 q4 q5 p1 uo ue uf ut 1 0 0 u22 em nw w481 b482 w486 1 (0 : Int64)) [(.int (XT.cmpL (0 : Int64) (0 : Int64)))]) (fun _ hr => XT.lcmp X490.here hx rfl (hb hby at_289) rfl hr) ?_
          rw [cmpL_self]
          refine gsW T490 (mkF m 293 (lw5 q1 q2 q3 q4 q5 p1 uo ue uf ut 1 0 0 u22 em nw w481 b482 w486 1 (0 : Int64)) []) (fun _ hr => XS.ifNo X490.here hx rfl (hb hby at_290) rfl ((if0 _ _).trans (teq (by decide : (0 : Int32) = (0 : Int32))).2) hr) ?_
          refine gsW T490 (mkF m 294 (lw5 q1 q2 q3 q4 q5 p1 uo ue uf ut 1 0 0 u22 em nw w481 b482 w486 1 (0 : Int64)) [(.int (1 : Int32))]) (fun _ hr => XS.iconst X490.here hx rfl (hb hby at_293) hr) ?_
          refine gsW T490 (mkF m 298 (lw5 q1 q2 q3 q4 q5 p1 uo ue uf ut 1 0 0 u22 em nw w481 b482 w486 1 (0 : Int64)) [(.int (1 : Int32))]) (fun _ hr => XS.goto X490.here hx rfl (pc0 := 294) (pc' := 298) rfl (hb hby at_294) (by decide) (by decide) hr) ?_
          exact GoesW.ret (v := some (.int (1 : Int32))) X490 Sn484 (by rw [e490]; exact kle486) (by decide) (by decide) (fun h => by rw [Bd.returns] at h; cases h) ⟨rfl, N490⟩ (fun fs hr => retN X490 hx (t := .boolean) Bd.returns (by simp) (hb hby at_298) hr)
        · obtain ⟨T491, h491, X491, e491, E491, A491, D491, -, st491⟩ := newO Xg hx hZ hown (tw hw 94 rfl) (tw hw 95 rfl) (tw hw 96 rfl) eg (g := (mkF m 141 (lw0 q1 q2 q3 q4 q5 p1 uo ue uf ut 1 0 1 u22 fu nw) [])) rfl (hb hby at_141) (by decide) (by decide)
          obtain ⟨b491, g491⟩ : ∃ z, z = hg.size := ⟨_, rfl⟩
          rw [← g491] at A491 D491 st491
          have sz_b491 : h0.size ≤ b491 := Nat.le_trans Kg.1 (Nat.le_of_eq g491.symm)
          have ge_b491 : n0 ≤ b491 := Nat.le_trans Z0 sz_b491
          have E_fu_491 : Exa Z h491 fu cOL := E_fu_g.ext E491
          have F_fu_isPresent_491 : Fld Z h491 fu cOL nIP "Z" (.int (1 : Int32)) := F_fu_isPresent_g.ext E491
          have F_fu_value_491 : Fld Z h491 fu cOL "value" "J" (.long uf) := F_fu_value_g.ext E491
          have K491 : Keep h0 h491 [] := Kg.ext E491
          have kle491 : 0 ≤ h491.size := Nat.le_trans kleg E491.1
          have F_b491_onlyMarkersLeft_491 : Fld Z h491 b491 cRR nOM "Z" (.int (0 : Int32)) := D491 (Or.inr (tw hw 105 rfl)) (ty := .boolean) (by decide)
          have F_b491_firstUnreadTimestamp_491 : Fld Z h491 b491 cRR nLT dOL .null := D491 (Or.inr (tw hw 107 rfl)) (ty := (.object cOL)) (by decide)
          have F_b491_newestTimestamp_491 : Fld Z h491 b491 cRR nNT dOL .null := D491 (Or.inr (tw hw 109 rfl)) (ty := (.object cOL)) (by decide)
          have F_b491_lookedAt_491 : Fld Z h491 b491 cRR "lookedAt" "J" (.long (0 : Int64)) := D491 (Or.inr (tw hw 111 rfl)) (ty := .long) (by decide)
          refine gsW T491 (mkF m 144 (lw0 q1 q2 q3 q4 q5 p1 uo ue uf ut 1 0 1 u22 fu nw) [(.ref b491)]) st491 ?_
          refine gsW T491 (mkF m 145 (lw0 q1 q2 q3 q4 q5 p1 uo ue uf ut 1 0 1 u22 fu nw) [(.ref b491), (.ref b491)]) (fun _ hr => XS.dup X491.here hx rfl (hb hby at_144) rfl rfl hr) ?_
          refine gsW T491 (mkF m 147 (lw0 q1 q2 q3 q4 q5 p1 uo ue uf ut 1 0 1 u22 fu nw) [(.int (0 : Int32)), (.ref b491), (.ref b491)]) (fun _ hr => XS.iload X491.here hx rfl (hb hby at_145) rfl  hr) ?_
          refine gsW T491 (mkF m 149 (lw0 q1 q2 q3 q4 q5 p1 uo ue uf ut 1 0 1 u22 fu nw) [(.ref fu), (.int (0 : Int32)), (.ref b491), (.ref b491)]) (fun _ hr => XS.aload X491.here hx rfl (hb hby at_147) rfl rfl hr) ?_
          refine gsW T491 (mkF m 151 (lw0 q1 q2 q3 q4 q5 p1 uo ue uf ut 1 0 1 u22 fu nw) [(.ref nw), (.ref fu), (.int (0 : Int32)), (.ref b491), (.ref b491)]) (fun _ hr => XS.aload X491.here hx rfl (hb hby at_149) rfl rfl hr) ?_
          refine gsW T491 (mkF m 153 (lw0 q1 q2 q3 q4 q5 p1 uo ue uf ut 1 0 1 u22 fu nw) [(.long ut), (.ref nw), (.ref fu), (.int (0 : Int32)), (.ref b491), (.ref b491)]) (fun _ hr => XT.lload X491.here hx rfl (hb hby at_151) rfl hr) ?_
          have Zs492 : n0 ≤ h491.size := Nat.le_trans Z0 K491.1
          obtain ⟨_, _, ⟨T493, L493, k493, n493⟩, -, X493, Sc493, gr493, ⟨Lc493, hQ493, l493, y493, z493⟩, st493⟩ := X491.specialBackS hx (y := Y32) rfl hown (mvT hZ (tw hw 97 rfl)) (mvT hZ (tw hw 98 rfl)) (mvT hZ (tw hw 99 rfl)) (by decide) (backOfS (W := 1) (rm_rinit0 l Z a0 hw [] b491 fu nw ut h491 n0 Zs492 (Old.keep O0 K491 hws) A491 F_b491_onlyMarkersLeft_491 F_b491_firstUnreadTimestamp_491 F_b491_newestTimestamp_491 F_b491_lookedAt_491 ge_b491) hZ (tw hw 99 rfl) (tw hw 96 rfl) (by decide) (by decide)) (g := (mkF m 153 (lw0 q1 q2 q3 q4 q5 p1 uo ue uf ut 1 0 1 u22 fu nw) [(.long ut), (.ref nw), (.ref fu), (.int (0 : Int32)), (.ref b491), (.ref b491)])) rfl (by rw [hml]; rfl) (Steps.refl _) (a := b491) (argsL := [(.int (0 : Int32)), (.ref fu), (.ref nw), (.long ut)]) (rest := [(.ref b491)]) (lenOf pd_20 rfl) rfl (wle rfl) (hb hby at_153) (fun _ _ => ⟨rfl, e491, (by decide : 3 + 4 ≤ _), (by decide : 8 + 148 ≤ _)⟩)
          dsimp only [Pt.U, Pt.locs, Pt.cells, Pt.slots] at X493 l493 y493 z493 st493 hQ493 Sc493 gr493
          subst l493 y493 z493
          have Sn493 := Sn0.trans Sc493 (Nat.le_trans (show 0 ≤ T491.heap.size by rw [(e491 : T491.heap = h491)]; exact kle491) gr493)
          have hZ493 : Z.Warmed39 (s.setVm T493.vm).vm := State.Warmed39.trans (t := s.setVm s.vm) hZ Sc493.1
          have hown493 : (s.setVm T493.vm).vm.findClass "com/example/log_lag_gauge/loglaggauge/model/PositionLagAgeMsPinLaw" = some m.cls := by rw [show (s.setVm T493.vm).vm = T493.vm from rfl, Sc493.1.alike.findClass]; exact hown
          have kle493 : T493.heap.size ≤ T493.heap.size := Nat.le_refl _
          obtain ⟨rfl, N493q, Kc493, P493_0, P493_1, P493_2, P493_3⟩ := hQ493
          have N493 := Fr.app Ng N493q
          have E_fu_493 : Exa Z T493.heap fu cOL := E_fu_491.keep Kc493
          have F_fu_isPresent_493 : Fld Z T493.heap fu cOL nIP "Z" (.int (1 : Int32)) := F_fu_isPresent_491.keep Kc493 (ninS (Nat.ne_of_lt (Nat.lt_of_lt_of_le E_fu_g.lt (Nat.le_of_eq g491.symm))) nin0)
          have F_fu_value_493 : Fld Z T493.heap fu cOL "value" "J" (.long uf) := F_fu_value_491.keep Kc493 (ninS (Nat.ne_of_lt (Nat.lt_of_lt_of_le E_fu_g.lt (Nat.le_of_eq g491.symm))) nin0)
          have E_b491_493 : Exa Z T493.heap b491 cRR := A491.keep Kc493
          have K493 : Keep h0 T493.heap [] := K491.trans Kc493 (allS (Or.inr sz_b491) all0)
          have F_b491_onlyMarkersLeft_493c : Fld Z T493.heap b491 cRR nOM "Z" (.int (0 : Int32)) := P493_0
          have F_b491_firstUnreadTimestamp_493c : Fld Z T493.heap b491 cRR nLT dOL (.ref fu) := P493_1
          have F_b491_lookedAt_493c : Fld Z T493.heap b491 cRR "lookedAt" "J" (.long ut) := P493_3
          refine gsW T493 (mkF m 156 (lw0 q1 q2 q3 q4 q5 p1 uo ue uf ut 1 0 1 u22 fu nw) [(.ref b491)]) (fun _ hr => st493.trans hr) ?_
          have Zs494 : n0 ≤ T493.heap.size := Nat.le_trans Z0 K493.1
          obtain ⟨_, _, ⟨T495, L495, k495, n495⟩, -, X495, ⟨Lc495, hQ495, l495, y495, z495⟩, st495⟩ := LawKit.callS X493 hx (y := Y15) hown493 (mvT hZ493 (tw hw 112 rfl)) (mvT hZ493 (tw hw 113 rfl)) (mvT hZ493 (tw hw 8 rfl)) (mvT hZ493 (tw hw 114 rfl)) (by decide) (backOf (W := 0) (rm_oof l Z a0 hw [] b491 T493.heap n0 Zs494 (Old.keep O0 K493 hws)) hZ493 (tw hw 114 rfl) (tw hw 8 rfl) (by decide) (by decide)) (g := (mkF m 156 (lw0 q1 q2 q3 q4 q5 p1 uo ue uf ut 1 0 1 u22 fu nw) [(.ref b491)])) rfl (by rw [hml]; rfl) (argsL := [(.ref b491)]) (rest := []) (lenOf pd_15 rfl) rfl (wle rfl) (hb hby at_156) (fun _ _ => ⟨rfl, rfl, (by decide : 7 + 1 ≤ _), (by decide : 156 + 1 ≤ _)⟩)
          dsimp only [Pt.U, Pt.locs, Pt.cells, Pt.slots] at X495 l495 y495 z495 st495 hQ495
          subst l495 y495 z495
          obtain ⟨w495, rfl, N495q, Kc495, P495_0, P495_1, P495_2⟩ := hQ495
          have N495 := Fr.app N493 N495q
          have E_fu_495 : Exa Z T495.heap fu cOL := E_fu_493.keep Kc495
          have F_fu_isPresent_495 : Fld Z T495.heap fu cOL nIP "Z" (.int (1 : Int32)) := F_fu_isPresent_493.keep Kc495 nin0
          have F_fu_value_495 : Fld Z T495.heap fu cOL "value" "J" (.long uf) := F_fu_value_493.keep Kc495 nin0
          have E_b491_495 : Exa Z T495.heap b491 cRR := E_b491_493.keep Kc495
          have F_b491_onlyMarkersLeft_495 : Fld Z T495.heap b491 cRR nOM "Z" (.int (0 : Int32)) := F_b491_onlyMarkersLeft_493c.keep Kc495 nin0
          have F_b491_firstUnreadTimestamp_495 : Fld Z T495.heap b491 cRR nLT dOL (.ref fu) := F_b491_firstUnreadTimestamp_493c.keep Kc495 nin0
          have F_b491_lookedAt_495 : Fld Z T495.heap b491 cRR "lookedAt" "J" (.long ut) := F_b491_lookedAt_493c.keep Kc495 nin0
          have K495 : Keep h0 T495.heap [] := K493.trans Kc495 all0
          have kle495 : T493.heap.size ≤ T495.heap.size := Nat.le_trans kle493 Kc495.1
          have E_w495_495c : Exa Z T495.heap w495 cOP := P495_1
          have F_w495_value_495c : Fld Z T495.heap w495 cOP "value" dOB (.ref b491) := P495_2
          refine gsW T495 (mkF m 159 (lw0 q1 q2 q3 q4 q5 p1 uo ue uf ut 1 0 1 u22 fu nw) [(.ref w495)]) st495 ?_
          refine gsW T495 (mkF m 165 (lw0 q1 q2 q3 q4 q5 p1 uo ue uf ut 1 0 1 u22 fu nw) [(.ref w495)]) (fun _ hr => XS.goto X495.here hx rfl (pc0 := 159) (pc' := 165) rfl (hb hby at_159) (by decide) (by decide) hr) ?_
          refine gsW T495 (mkF m 167 (lw1 q1 q2 q3 q4 q5 p1 uo ue uf ut 1 0 1 u22 fu nw w495) []) (fun _ hr => XS.astore X495.here hx rfl (hb hby at_165) rfl rfl (l' := (lw1 q1 q2 q3 q4 q5 p1 uo ue uf ut 1 0 1 u22 fu nw w495)) rfl hr) ?_
          obtain ⟨T496, h496, X496, e496, E496, A496, D496, -, st496⟩ := newO X495 hx hZ493 hown493 (tw hw 11 rfl) (tw hw 12 rfl) (tw hw 13 rfl) rfl (g := (mkF m 167 (lw1 q1 q2 q3 q4 q5 p1 uo ue uf ut 1 0 1 u22 fu nw w495) [])) rfl (hb hby at_167) (by decide) (by decide)
          obtain ⟨b496, g496⟩ : ∃ z, z = T495.heap.size := ⟨_, rfl⟩
          rw [← g496] at A496 D496 st496
          have sz_b496 : h0.size ≤ b496 := Nat.le_trans K495.1 (Nat.le_of_eq g496.symm)
          have ge_b496 : n0 ≤ b496 := Nat.le_trans Z0 sz_b496
          have E_fu_496 : Exa Z h496 fu cOL := E_fu_495.ext E496
          have F_fu_isPresent_496 : Fld Z h496 fu cOL nIP "Z" (.int (1 : Int32)) := F_fu_isPresent_495.ext E496
          have F_fu_value_496 : Fld Z h496 fu cOL "value" "J" (.long uf) := F_fu_value_495.ext E496
          have E_b491_496 : Exa Z h496 b491 cRR := E_b491_495.ext E496
          have F_b491_onlyMarkersLeft_496 : Fld Z h496 b491 cRR nOM "Z" (.int (0 : Int32)) := F_b491_onlyMarkersLeft_495.ext E496
          have F_b491_firstUnreadTimestamp_496 : Fld Z h496 b491 cRR nLT dOL (.ref fu) := F_b491_firstUnreadTimestamp_495.ext E496
          have F_b491_lookedAt_496 : Fld Z h496 b491 cRR "lookedAt" "J" (.long ut) := F_b491_lookedAt_495.ext E496
          have E_w495_496 : Exa Z h496 w495 cOP := E_w495_495c.ext E496
          have F_w495_value_496 : Fld Z h496 w495 cOP "value" dOB (.ref b491) := F_w495_value_495c.ext E496
          have K496 : Keep h0 h496 [] := K495.ext E496
          have kle496 : T493.heap.size ≤ h496.size := Nat.le_trans kle495 E496.1
          have F_b496_offset_496 : Fld Z h496 b496 cPL "offset" "J" (.long (0 : Int64)) := D496 (Or.inr (tw hw 38 rfl)) (ty := .long) (by decide)
          have F_b496_end_496 : Fld Z h496 b496 cPL "end" "J" (.long (0 : Int64)) := D496 (Or.inr (tw hw 40 rfl)) (ty := .long) (by decide)
          have F_b496_records_496 : Fld Z h496 b496 cPL "records" dOP .null := D496 (Or.inr (tw hw 42 rfl)) (ty := (.object cOP)) (by decide)
          refine gsW T496 (mkF m 170 (lw1 q1 q2 q3 q4 q5 p1 uo ue uf ut 1 0 1 u22 fu nw w495) [(.ref b496)]) st496 ?_
          refine gsW T496 (mkF m 171 (lw1 q1 q2 q3 q4 q5 p1 uo ue uf ut 1 0 1 u22 fu nw w495) [(.ref b496), (.ref b496)]) (fun _ hr => XS.dup X496.here hx rfl (hb hby at_170) rfl rfl hr) ?_
          refine gsW T496 (mkF m 173 (lw1 q1 q2 q3 q4 q5 p1 uo ue uf ut 1 0 1 u22 fu nw w495) [(.long uo), (.ref b496), (.ref b496)]) (fun _ hr => XT.lload X496.here hx rfl (hb hby at_171) rfl hr) ?_
          refine gsW T496 (mkF m 175 (lw1 q1 q2 q3 q4 q5 p1 uo ue uf ut 1 0 1 u22 fu nw w495) [(.long ue), (.long uo), (.ref b496), (.ref b496)]) (fun _ hr => XT.lload X496.here hx rfl (hb hby at_173) rfl hr) ?_
          refine gsW T496 (mkF m 177 (lw1 q1 q2 q3 q4 q5 p1 uo ue uf ut 1 0 1 u22 fu nw w495) [(.ref w495), (.long ue), (.long uo), (.ref b496), (.ref b496)]) (fun _ hr => XS.aload X496.here hx rfl (hb hby at_175) rfl rfl hr) ?_
          have Zs497 : n0 ≤ h496.size := Nat.le_trans Z0 K496.1
          obtain ⟨_, _, ⟨T498, L498, k498, n498⟩, -, X498, Sc498, gr498, ⟨Lc498, hQ498, l498, y498, z498⟩, st498⟩ := X496.specialBackS hx (y := Y31) rfl hown493 (mvT hZ493 (tw hw 14 rfl)) (mvT hZ493 (tw hw 15 rfl)) (mvT hZ493 (tw hw 16 rfl)) (by decide) (backOfS (W := 1) (rm_pinit l Z a0 hw [] b496 uo ue w495 h496 n0 Zs497 (Old.keep O0 K496 hws) A496 F_b496_offset_496 F_b496_end_496 F_b496_records_496 ge_b496) hZ493 (tw hw 16 rfl) (tw hw 13 rfl) (by decide) (by decide)) (g := (mkF m 177 (lw1 q1 q2 q3 q4 q5 p1 uo ue uf ut 1 0 1 u22 fu nw w495) [(.ref w495), (.long ue), (.long uo), (.ref b496), (.ref b496)])) rfl (by rw [hml]; rfl) (Steps.refl _) (a := b496) (argsL := [(.long uo), (.long ue), (.ref w495)]) (rest := [(.ref b496)]) (lenOf pd_19 rfl) rfl (wle rfl) (hb hby at_177) (fun _ _ => ⟨rfl, e496, (by decide : 9 + 2 ≤ _), (by decide : 160 + 32 ≤ _)⟩)
          dsimp only [Pt.U, Pt.locs, Pt.cells, Pt.slots] at X498 l498 y498 z498 st498 hQ498 Sc498 gr498
          subst l498 y498 z498
          have Sn498 := Sn493.trans Sc498 (Nat.le_trans (show T493.heap.size ≤ T496.heap.size by rw [(e496 : T496.heap = h496)]; exact kle496) gr498)
          have hZ498 : Z.Warmed39 (s.setVm T498.vm).vm := State.Warmed39.trans (t := s.setVm T493.vm) hZ493 Sc498.1
          have hown498 : (s.setVm T498.vm).vm.findClass "com/example/log_lag_gauge/loglaggauge/model/PositionLagAgeMsPinLaw" = some m.cls := by rw [show (s.setVm T498.vm).vm = T498.vm from rfl, Sc498.1.alike.findClass]; exact hown493
          have kle498 : T498.heap.size ≤ T498.heap.size := Nat.le_refl _
          obtain ⟨rfl, N498q, Kc498, P498_0, P498_1, P498_2⟩ := hQ498
          have N498 := Fr.app N495 N498q
          have E_fu_498 : Exa Z T498.heap fu cOL := E_fu_496.keep Kc498
          have F_fu_isPresent_498 : Fld Z T498.heap fu cOL nIP "Z" (.int (1 : Int32)) := F_fu_isPresent_496.keep Kc498 (ninS (Nat.ne_of_lt (Nat.lt_of_lt_of_le E_fu_495.lt (Nat.le_of_eq g496.symm))) nin0)
          have F_fu_value_498 : Fld Z T498.heap fu cOL "value" "J" (.long uf) := F_fu_value_496.keep Kc498 (ninS (Nat.ne_of_lt (Nat.lt_of_lt_of_le E_fu_495.lt (Nat.le_of_eq g496.symm))) nin0)
          have E_b491_498 : Exa Z T498.heap b491 cRR := E_b491_496.keep Kc498
          have F_b491_onlyMarkersLeft_498 : Fld Z T498.heap b491 cRR nOM "Z" (.int (0 : Int32)) := F_b491_onlyMarkersLeft_496.keep Kc498 (ninS (Nat.ne_of_lt (Nat.lt_of_lt_of_le E_b491_495.lt (Nat.le_of_eq g496.symm))) nin0)
          have F_b491_firstUnreadTimestamp_498 : Fld Z T498.heap b491 cRR nLT dOL (.ref fu) := F_b491_firstUnreadTimestamp_496.keep Kc498 (ninS (Nat.ne_of_lt (Nat.lt_of_lt_of_le E_b491_495.lt (Nat.le_of_eq g496.symm))) nin0)
          have F_b491_lookedAt_498 : Fld Z T498.heap b491 cRR "lookedAt" "J" (.long ut) := F_b491_lookedAt_496.keep Kc498 (ninS (Nat.ne_of_lt (Nat.lt_of_lt_of_le E_b491_495.lt (Nat.le_of_eq g496.symm))) nin0)
          have E_w495_498 : Exa Z T498.heap w495 cOP := E_w495_496.keep Kc498
          have F_w495_value_498 : Fld Z T498.heap w495 cOP "value" dOB (.ref b491) := F_w495_value_496.keep Kc498 (ninS (Nat.ne_of_lt (Nat.lt_of_lt_of_le E_w495_495c.lt (Nat.le_of_eq g496.symm))) nin0)
          have E_b496_498 : Exa Z T498.heap b496 cPL := A496.keep Kc498
          have K498 : Keep h0 T498.heap [] := K496.trans Kc498 (allS (Or.inr sz_b496) all0)
          have F_b496_offset_498c : Fld Z T498.heap b496 cPL "offset" "J" (.long uo) := P498_0
          have F_b496_end_498c : Fld Z T498.heap b496 cPL "end" "J" (.long ue) := P498_1
          have F_b496_records_498c : Fld Z T498.heap b496 cPL "records" dOP (.ref w495) := P498_2
          refine gsW T498 (mkF m 180 (lw1 q1 q2 q3 q4 q5 p1 uo ue uf ut 1 0 1 u22 fu nw w495) [(.ref b496)]) (fun _ hr => st498.trans hr) ?_
          refine gsW T498 (mkF m 182 (lw2 q1 q2 q3 q4 q5 p1 uo ue uf ut 1 0 1 u22 fu nw w495 b496) []) (fun _ hr => XS.astore X498.here hx rfl (hb hby at_180) rfl rfl (l' := (lw2 q1 q2 q3 q4 q5 p1 uo ue uf ut 1 0 1 u22 fu nw w495 b496)) rfl hr) ?_
          refine gsW T498 (mkF m 184 (lw2 q1 q2 q3 q4 q5 p1 uo ue uf ut 1 0 1 u22 fu nw w495 b496) [(.ref b496)]) (fun _ hr => XS.aload X498.here hx rfl (hb hby at_182) rfl rfl hr) ?_
          have hmq := own_max (t := ut) (f := uf) (by have := Int64.toInt_lt uf; omega) (by have := Int64.toInt_lt ut; omega)
          rcases Classical.em ((0 : Int32) < XT.cmpL ut uf) with htf | htf
          · have hmx := hmq.mp htf
            have Zs499 : n0 ≤ T498.heap.size := Nat.le_trans Z0 K498.1
            obtain ⟨cq500, kq500, q500a, q500b, q500c⟩ := isOf hZ498 rfl E_b496_498
            obtain ⟨_, _, ⟨T500, L500, k500, n500⟩, -, X500, ⟨Lc500, hQ500, l500, y500, z500⟩, st500⟩ := X498.virtualBack hx (y := Y30) (z := Y30) hown498 (mvT hZ498 (tw hw 43 rfl)) (mvT hZ498 (tw hw 44 rfl)) (notFace_of_selects (args := #[]) (mvT hZ498 (tw hw 46 rfl))) (mvT hZ498 (tw hw 46 rfl)) (mvT hZ498 (tw hw 45 rfl)) (by decide) (backOf (W := 0) (rm_age_p1 l Z a0 hw [] b496 b491 em uo ue w495 eo fu uf ut T498.heap n0 Zs499 (Old.keep O0 K498 hws) E_b496_498 F_b496_offset_498c F_b496_end_498c F_b496_records_498c E_w495_498 F_w495_value_498 E_b491_498 F_b491_onlyMarkersLeft_498 F_b491_firstUnreadTimestamp_498 E_fu_498 F_fu_isPresent_498 F_fu_value_498 F_b491_lookedAt_498 S_OptionalLong_EMPTY_old E_em_old F_em_isPresent_old F_em_value_old S_Optional_EMPTY_old E_eo_old F_eo_value_old hle hpp hmx) hZ498 (tw hw 47 rfl) (tw hw 13 rfl) (by decide) (by decide)) q500a q500c (g := (mkF m 184 (lw2 q1 q2 q3 q4 q5 p1 uo ue uf ut 1 0 1 u22 fu nw w495 b496) [(.ref b496)])) rfl (by rw [hml]; rfl) (Steps.refl _) (argsL := []) (rest := []) (lenOf pd_6 rfl) rfl (wle rfl) (hb hby at_184) (fun _ _ => ⟨rfl, rfl, (by decide : 11 + 8 ≤ _), (by decide : 192 + 14 ≤ _)⟩)
            dsimp only [Pt.U, Pt.locs, Pt.cells, Pt.slots] at X500 l500 y500 z500 st500 hQ500
            subst l500 y500 z500
            obtain ⟨w500, rfl, N500q, Kc500, P500_0, P500_1, P500_2, P500_3⟩ := hQ500
            have N500 := Fr.app N498 N500q
            have K500 : Keep h0 T500.heap [] := K498.trans Kc500 all0
            have kle500 : T498.heap.size ≤ T500.heap.size := Nat.le_trans kle498 Kc500.1
            have E_w500_500c : Exa Z T500.heap w500 cOL := P500_1
            have F_w500_isPresent_500c : Fld Z T500.heap w500 cOL nIP "Z" (.int (1 : Int32)) := P500_2
            have F_w500_value_500c : Fld Z T500.heap w500 cOL "value" "J" (.long (ut - uf)) := P500_3
            refine gsW T500 (mkF m 187 (lw2 q1 q2 q3 q4 q5 p1 uo ue uf ut 1 0 1 u22 fu nw w495 b496) [(.ref w500)]) (fun _ hr => st500.trans hr) ?_
            refine gsW T500 (mkF m 189 (lw3 q1 q2 q3 q4 q5 p1 uo ue uf ut 1 0 1 u22 fu nw w495 b496 w500) []) (fun _ hr => XS.astore X500.here hx rfl (hb hby at_187) rfl rfl (l' := (lw3 q1 q2 q3 q4 q5 p1 uo ue uf ut 1 0 1 u22 fu nw w495 b496 w500)) rfl hr) ?_
            refine gsW T500 (mkF m 190 (lw3 q1 q2 q3 q4 q5 p1 uo ue uf ut 1 0 1 u22 fu nw w495 b496 w500) [(.long (0 : Int64))]) (fun _ hr => XT.lconst X500.here hx rfl (hb hby at_189) hr) ?_
            refine gsW T500 (mkF m 192 (lw4 q1 q2 q3 q4 q5 p1 uo ue uf ut 1 0 1 u22 fu nw w495 b496 w500 (0 : Int64)) []) (fun _ hr => XT.lstore X500.here hx rfl (hb hby at_190) rfl (l' := (lw4 q1 q2 q3 q4 q5 p1 uo ue uf ut 1 0 1 u22 fu nw w495 b496 w500 (0 : Int64))) rfl hr) ?_
            refine gsW T500 (mkF m 194 (lw4 q1 q2 q3 q4 q5 p1 uo ue uf ut 1 0 1 u22 fu nw w495 b496 w500 (0 : Int64)) [(.int (1 : Int32))]) (fun _ hr => XS.iload X500.here hx rfl (hb hby at_192) rfl  hr) ?_
            refine gsW T500 (mkF m 197 (lw4 q1 q2 q3 q4 q5 p1 uo ue uf ut 1 0 1 u22 fu nw w495 b496 w500 (0 : Int64)) []) (fun _ hr => XS.ifNo X500.here hx rfl (hb hby at_194) rfl ((if0 _ _).trans (feq (by decide : ¬ ((1 : Int32) = (0 : Int32)))).1) hr) ?_
            refine gsW T500 (mkF m 199 (lw4 q1 q2 q3 q4 q5 p1 uo ue uf ut 1 0 1 u22 fu nw w495 b496 w500 (0 : Int64)) [(.long uo)]) (fun _ hr => XT.lload X500.here hx rfl (hb hby at_197) rfl hr) ?_
            refine gsW T500 (mkF m 201 (lw4 q1 q2 q3 q4 q5 p1 uo ue uf ut 1 0 1 u22 fu nw w495 b496 w500 (0 : Int64)) [(.long ue), (.long uo)]) (fun _ hr => XT.lload X500.here hx rfl (hb hby at_199) rfl hr) ?_
            refine gsW T500 (mkF m 202 (lw4 q1 q2 q3 q4 q5 p1 uo ue uf ut 1 0 1 u22 fu nw w495 b496 w500 (0 : Int64)) [(.int (XT.cmpL uo ue))]) (fun _ hr => XT.lcmp X500.here hx rfl (hb hby at_201) rfl hr) ?_
            refine gsW T500 (mkF m 211 (lw4 q1 q2 q3 q4 q5 p1 uo ue uf ut 1 0 1 u22 fu nw w495 b496 w500 (0 : Int64)) []) (fun _ hr => XS.ifYes X500.here hx rfl (pc0 := 202) (pc' := 211) rfl (hb hby at_202) rfl ((if0 _ _).trans (flt (hle : ¬ ((0 : Int32) < (XT.cmpL uo ue)))).2.2.2) (by decide) (by decide) hr) ?_
            refine gsW T500 (mkF m 213 (lw4 q1 q2 q3 q4 q5 p1 uo ue uf ut 1 0 1 u22 fu nw w495 b496 w500 (0 : Int64)) [(.int (0 : Int32))]) (fun _ hr => XS.iload X500.here hx rfl (hb hby at_211) rfl  hr) ?_
            refine gsW T500 (mkF m 216 (lw4 q1 q2 q3 q4 q5 p1 uo ue uf ut 1 0 1 u22 fu nw w495 b496 w500 (0 : Int64)) []) (fun _ hr => XS.ifNo X500.here hx rfl (hb hby at_213) rfl ((if0 _ _).trans (teq (by decide : (0 : Int32) = (0 : Int32))).2) hr) ?_
            refine gsW T500 (mkF m 218 (lw4 q1 q2 q3 q4 q5 p1 uo ue uf ut 1 0 1 u22 fu nw w495 b496 w500 (0 : Int64)) [(.long uo)]) (fun _ hr => XT.lload X500.here hx rfl (hb hby at_216) rfl hr) ?_
            refine gsW T500 (mkF m 220 (lw4 q1 q2 q3 q4 q5 p1 uo ue uf ut 1 0 1 u22 fu nw w495 b496 w500 (0 : Int64)) [(.long ue), (.long uo)]) (fun _ hr => XT.lload X500.here hx rfl (hb hby at_218) rfl hr) ?_
            refine gsW T500 (mkF m 221 (lw4 q1 q2 q3 q4 q5 p1 uo ue uf ut 1 0 1 u22 fu nw w495 b496 w500 (0 : Int64)) [(.int (XT.cmpL uo ue))]) (fun _ hr => XT.lcmp X500.here hx rfl (hb hby at_220) rfl hr) ?_
            refine gsW T500 (mkF m 233 (lw4 q1 q2 q3 q4 q5 p1 uo ue uf ut 1 0 1 u22 fu nw w495 b496 w500 (0 : Int64)) []) (fun _ hr => XS.ifYes X500.here hx rfl (pc0 := 221) (pc' := 233) rfl (hb hby at_221) rfl ((if0 _ _).trans (feq (hne : ¬ ((XT.cmpL uo ue) = (0 : Int32)))).2) (by decide) (by decide) hr) ?_
            refine gsW T500 (mkF m 235 (lw4 q1 q2 q3 q4 q5 p1 uo ue uf ut 1 0 1 u22 fu nw w495 b496 w500 (0 : Int64)) [(.int (1 : Int32))]) (fun _ hr => XS.iload X500.here hx rfl (hb hby at_233) rfl  hr) ?_
            refine gsW T500 (mkF m 247 (lw4 q1 q2 q3 q4 q5 p1 uo ue uf ut 1 0 1 u22 fu nw w495 b496 w500 (0 : Int64)) []) (fun _ hr => XS.ifYes X500.here hx rfl (pc0 := 235) (pc' := 247) rfl (hb hby at_235) rfl ((if0 _ _).trans (feq (by decide : ¬ ((1 : Int32) = (0 : Int32)))).2) (by decide) (by decide) hr) ?_
            refine gsW T500 (mkF m 248 (lw4 q1 q2 q3 q4 q5 p1 uo ue uf ut 1 0 1 u22 fu nw w495 b496 w500 (0 : Int64)) [(.int (1 : Int32))]) (fun _ hr => XS.iconst X500.here hx rfl (hb hby at_247) hr) ?_
            refine gsW T500 (mkF m 250 (lw5 q1 q2 q3 q4 q5 p1 uo ue uf ut 1 0 1 u22 fu nw w495 b496 w500 1 (0 : Int64)) []) (fun _ hr => XS.istore X500.here hx rfl (hb hby at_248) rfl (l' := (lw5 q1 q2 q3 q4 q5 p1 uo ue uf ut 1 0 1 u22 fu nw w495 b496 w500 1 (0 : Int64))) rfl hr) ?_
            refine gsW T500 (mkF m 252 (lw5 q1 q2 q3 q4 q5 p1 uo ue uf ut 1 0 1 u22 fu nw w495 b496 w500 1 (0 : Int64)) [(.long ut)]) (fun _ hr => XT.lload X500.here hx rfl (hb hby at_250) rfl hr) ?_
            refine gsW T500 (mkF m 254 (lw5 q1 q2 q3 q4 q5 p1 uo ue uf ut 1 0 1 u22 fu nw w495 b496 w500 1 (0 : Int64)) [(.long uf), (.long ut)]) (fun _ hr => XT.lload X500.here hx rfl (hb hby at_252) rfl hr) ?_
            refine gsW T500 (mkF m 255 (lw5 q1 q2 q3 q4 q5 p1 uo ue uf ut 1 0 1 u22 fu nw w495 b496 w500 1 (0 : Int64)) [(.int (XT.cmpL ut uf))]) (fun _ hr => XT.lcmp X500.here hx rfl (hb hby at_254) rfl hr) ?_
            refine gsW T500 (mkF m 258 (lw5 q1 q2 q3 q4 q5 p1 uo ue uf ut 1 0 1 u22 fu nw w495 b496 w500 1 (0 : Int64)) []) (fun _ hr => XS.ifNo X500.here hx rfl (hb hby at_255) rfl ((if0 _ _).trans (tlt (htf : (0 : Int32) < (XT.cmpL ut uf))).2.2.2) hr) ?_
            refine gsW T500 (mkF m 260 (lw5 q1 q2 q3 q4 q5 p1 uo ue uf ut 1 0 1 u22 fu nw w495 b496 w500 1 (0 : Int64)) [(.long ut)]) (fun _ hr => XT.lload X500.here hx rfl (hb hby at_258) rfl hr) ?_
            refine gsW T500 (mkF m 262 (lw5 q1 q2 q3 q4 q5 p1 uo ue uf ut 1 0 1 u22 fu nw w495 b496 w500 1 (0 : Int64)) [(.long uf), (.long ut)]) (fun _ hr => XT.lload X500.here hx rfl (hb hby at_260) rfl hr) ?_
            refine gsW T500 (mkF m 263 (lw5 q1 q2 q3 q4 q5 p1 uo ue uf ut 1 0 1 u22 fu nw w495 b496 w500 1 (0 : Int64)) [(.long (ut - uf))]) (fun _ hr => XT.lsub X500.here hx rfl (hb hby at_262) rfl hr) ?_
            refine gsW T500 (mkF m 267 (lw5 q1 q2 q3 q4 q5 p1 uo ue uf ut 1 0 1 u22 fu nw w495 b496 w500 1 (0 : Int64)) [(.long (ut - uf))]) (fun _ hr => XS.goto X500.here hx rfl (pc0 := 263) (pc' := 267) rfl (hb hby at_263) (by decide) (by decide) hr) ?_
            refine gsW T500 (mkF m 269 (lw5 q1 q2 q3 q4 q5 p1 uo ue uf ut 1 0 1 u22 fu nw w495 b496 w500 1 (ut - uf)) []) (fun _ hr => XT.lstore X500.here hx rfl (hb hby at_267) rfl (l' := (lw5 q1 q2 q3 q4 q5 p1 uo ue uf ut 1 0 1 u22 fu nw w495 b496 w500 1 (ut - uf))) rfl hr) ?_
            refine gsW T500 (mkF m 271 (lw5 q1 q2 q3 q4 q5 p1 uo ue uf ut 1 0 1 u22 fu nw w495 b496 w500 1 (ut - uf)) [(.int (1 : Int32))]) (fun _ hr => XS.iload X500.here hx rfl (hb hby at_269) rfl  hr) ?_
            refine gsW T500 (mkF m 274 (lw5 q1 q2 q3 q4 q5 p1 uo ue uf ut 1 0 1 u22 fu nw w495 b496 w500 1 (ut - uf)) []) (fun _ hr => XS.ifNo X500.here hx rfl (hb hby at_271) rfl ((if0 _ _).trans (feq (by decide : ¬ ((1 : Int32) = (0 : Int32)))).1) hr) ?_
            refine gsW T500 (mkF m 276 (lw5 q1 q2 q3 q4 q5 p1 uo ue uf ut 1 0 1 u22 fu nw w495 b496 w500 1 (ut - uf)) [(.ref w500)]) (fun _ hr => XS.aload X500.here hx rfl (hb hby at_274) rfl rfl hr) ?_
            have Zs501 : n0 ≤ T500.heap.size := Nat.le_trans Z0 K500.1
            obtain ⟨cq502, kq502, q502a, q502b, q502c⟩ := isOf hZ498 rfl E_w500_500c
            obtain ⟨_, _, ⟨T502, L502, k502, n502⟩, -, X502, ⟨Lc502, hQ502, l502, y502, z502⟩, st502⟩ := X500.virtualBack hx (y := Y5) (z := Y5) hown498 (mvT hZ498 (tw hw 184 rfl)) (mvT hZ498 (tw hw 156 rfl)) (notFace_of_selects (args := #[]) (mvT hZ498 (tw hw 158 rfl))) (mvT hZ498 (tw hw 158 rfl)) (mvT hZ498 (tw hw 157 rfl)) (by decide) (backOf (W := 0) (rm_olp1 l Z a0 hw [] w500 T500.heap n0 Zs501 (Old.keep O0 K500 hws) F_w500_isPresent_500c) hZ498 (tw hw 159 rfl) (tw hw 3 rfl) (by decide) (by decide)) q502a q502c (g := (mkF m 276 (lw5 q1 q2 q3 q4 q5 p1 uo ue uf ut 1 0 1 u22 fu nw w495 b496 w500 1 (ut - uf)) [(.ref w500)])) rfl (by rw [hml]; rfl) (Steps.refl _) (argsL := []) (rest := []) (lenOf pd_1 rfl) rfl (wle rfl) (hb hby at_276) (fun _ _ => ⟨rfl, rfl, (by decide : 19 + 0 ≤ _), (by decide : 206 + 0 ≤ _)⟩)
            dsimp only [Pt.U, Pt.locs, Pt.cells, Pt.slots] at X502 l502 y502 z502 st502 hQ502
            subst l502 y502 z502
            obtain ⟨rfl, N502q, e502⟩ := hQ502
            have N502 := Fr.app N500 N502q
            refine gsW T502 (mkF m 279 (lw5 q1 q2 q3 q4 q5 p1 uo ue uf ut 1 0 1 u22 fu nw w495 b496 w500 1 (ut - uf)) [(.int (1 : Int32))]) (fun _ hr => st502.trans hr) ?_
            refine gsW T502 (mkF m 282 (lw5 q1 q2 q3 q4 q5 p1 uo ue uf ut 1 0 1 u22 fu nw w495 b496 w500 1 (ut - uf)) []) (fun _ hr => XS.ifNo X502.here hx rfl (hb hby at_279) rfl ((if0 _ _).trans (feq (by decide : ¬ ((1 : Int32) = (0 : Int32)))).1) hr) ?_
            refine gsW T502 (mkF m 284 (lw5 q1 q2 q3 q4 q5 p1 uo ue uf ut 1 0 1 u22 fu nw w495 b496 w500 1 (ut - uf)) [(.ref w500)]) (fun _ hr => XS.aload X502.here hx rfl (hb hby at_282) rfl rfl hr) ?_
            have Zs503 : n0 ≤ T500.heap.size := Nat.le_trans Z0 K500.1
            obtain ⟨cq504, kq504, q504a, q504b, q504c⟩ := isOf hZ498 e502 E_w500_500c
            obtain ⟨_, _, ⟨T504, L504, k504, n504⟩, -, X504, ⟨Lc504, hQ504, l504, y504, z504⟩, st504⟩ := X502.virtualBack hx (y := Y7) (z := Y7) hown498 (mvT hZ498 (tw hw 185 rfl)) (mvT hZ498 (tw hw 150 rfl)) (notFace_of_selects (args := #[]) (mvT hZ498 (tw hw 152 rfl))) (mvT hZ498 (tw hw 152 rfl)) (mvT hZ498 (tw hw 151 rfl)) (by decide) (backOf (W := 0) (rm_olg l Z a0 hw [] w500 (ut - uf) T500.heap n0 Zs503 (Old.keep O0 K500 hws) F_w500_isPresent_500c F_w500_value_500c) hZ498 (tw hw 153 rfl) (tw hw 3 rfl) (by decide) (by decide)) q504a q504c (g := (mkF m 284 (lw5 q1 q2 q3 q4 q5 p1 uo ue uf ut 1 0 1 u22 fu nw w495 b496 w500 1 (ut - uf)) [(.ref w500)])) rfl (by rw [hml]; rfl) (Steps.refl _) (argsL := []) (rest := []) (lenOf pd_5 rfl) rfl (wle rfl) (hb hby at_284) (fun _ _ => ⟨rfl, e502, (by decide : 19 + 0 ≤ _), (by decide : 206 + 0 ≤ _)⟩)
            dsimp only [Pt.U, Pt.locs, Pt.cells, Pt.slots] at X504 l504 y504 z504 st504 hQ504
            subst l504 y504 z504
            obtain ⟨rfl, N504q, e504⟩ := hQ504
            have N504 := Fr.app N502 N504q
            refine gsW T504 (mkF m 287 (lw5 q1 q2 q3 q4 q5 p1 uo ue uf ut 1 0 1 u22 fu nw w495 b496 w500 1 (ut - uf)) [(.long (ut - uf))]) (fun _ hr => st504.trans hr) ?_
            refine gsW T504 (mkF m 289 (lw5 q1 q2 q3 q4 q5 p1 uo ue uf ut 1 0 1 u22 fu nw w495 b496 w500 1 (ut - uf)) [(.long (ut - uf)), (.long (ut - uf))]) (fun _ hr => XT.lload X504.here hx rfl (hb hby at_287) rfl hr) ?_
            refine gsW T504 (mkF m 290 (lw5 q1 q2 q3 q4 q5 p1 uo ue uf ut 1 0 1 u22 fu nw w495 b496 w500 1 (ut - uf)) [(.int (XT.cmpL (ut - uf) (ut - uf)))]) (fun _ hr => XT.lcmp X504.here hx rfl (hb hby at_289) rfl hr) ?_
            rw [cmpL_self]
            refine gsW T504 (mkF m 293 (lw5 q1 q2 q3 q4 q5 p1 uo ue uf ut 1 0 1 u22 fu nw w495 b496 w500 1 (ut - uf)) []) (fun _ hr => XS.ifNo X504.here hx rfl (hb hby at_290) rfl ((if0 _ _).trans (teq (by decide : (0 : Int32) = (0 : Int32))).2) hr) ?_
            refine gsW T504 (mkF m 294 (lw5 q1 q2 q3 q4 q5 p1 uo ue uf ut 1 0 1 u22 fu nw w495 b496 w500 1 (ut - uf)) [(.int (1 : Int32))]) (fun _ hr => XS.iconst X504.here hx rfl (hb hby at_293) hr) ?_
            refine gsW T504 (mkF m 298 (lw5 q1 q2 q3 q4 q5 p1 uo ue uf ut 1 0 1 u22 fu nw w495 b496 w500 1 (ut - uf)) [(.int (1 : Int32))]) (fun _ hr => XS.goto X504.here hx rfl (pc0 := 294) (pc' := 298) rfl (hb hby at_294) (by decide) (by decide) hr) ?_
            exact GoesW.ret (v := some (.int (1 : Int32))) X504 Sn498 (by rw [e504]; exact kle500) (by decide) (by decide) (fun h => by rw [Bd.returns] at h; cases h) ⟨rfl, N504⟩ (fun fs hr => retN X504 hx (t := .boolean) Bd.returns (by simp) (hb hby at_298) hr)
          · have hmn := fun q => htf (hmq.mpr q)
            have Zs505 : n0 ≤ T498.heap.size := Nat.le_trans Z0 K498.1
            obtain ⟨cq506, kq506, q506a, q506b, q506c⟩ := isOf hZ498 rfl E_b496_498
            obtain ⟨_, _, ⟨T506, L506, k506, n506⟩, -, X506, ⟨Lc506, hQ506, l506, y506, z506⟩, st506⟩ := X498.virtualBack hx (y := Y30) (z := Y30) hown498 (mvT hZ498 (tw hw 43 rfl)) (mvT hZ498 (tw hw 44 rfl)) (notFace_of_selects (args := #[]) (mvT hZ498 (tw hw 46 rfl))) (mvT hZ498 (tw hw 46 rfl)) (mvT hZ498 (tw hw 45 rfl)) (by decide) (backOf (W := 0) (rm_age_p0 l Z a0 hw [] b496 b491 em uo ue w495 eo fu uf ut T498.heap n0 Zs505 (Old.keep O0 K498 hws) E_b496_498 F_b496_offset_498c F_b496_end_498c F_b496_records_498c E_w495_498 F_w495_value_498 E_b491_498 F_b491_onlyMarkersLeft_498 F_b491_firstUnreadTimestamp_498 E_fu_498 F_fu_isPresent_498 F_fu_value_498 F_b491_lookedAt_498 S_OptionalLong_EMPTY_old E_em_old F_em_isPresent_old F_em_value_old S_Optional_EMPTY_old E_eo_old F_eo_value_old hle hpp hmn) hZ498 (tw hw 47 rfl) (tw hw 13 rfl) (by decide) (by decide)) q506a q506c (g := (mkF m 184 (lw2 q1 q2 q3 q4 q5 p1 uo ue uf ut 1 0 1 u22 fu nw w495 b496) [(.ref b496)])) rfl (by rw [hml]; rfl) (Steps.refl _) (argsL := []) (rest := []) (lenOf pd_6 rfl) rfl (wle rfl) (hb hby at_184) (fun _ _ => ⟨rfl, rfl, (by decide : 11 + 8 ≤ _), (by decide : 192 + 14 ≤ _)⟩)
            dsimp only [Pt.U, Pt.locs, Pt.cells, Pt.slots] at X506 l506 y506 z506 st506 hQ506
            subst l506 y506 z506
            obtain ⟨w506, rfl, N506q, Kc506, P506_0, P506_1, P506_2, P506_3⟩ := hQ506
            have N506 := Fr.app N498 N506q
            have K506 : Keep h0 T506.heap [] := K498.trans Kc506 all0
            have kle506 : T498.heap.size ≤ T506.heap.size := Nat.le_trans kle498 Kc506.1
            have E_w506_506c : Exa Z T506.heap w506 cOL := P506_1
            have F_w506_isPresent_506c : Fld Z T506.heap w506 cOL nIP "Z" (.int (1 : Int32)) := P506_2
            have F_w506_value_506c : Fld Z T506.heap w506 cOL "value" "J" (.long (0 : Int64)) := P506_3
            refine gsW T506 (mkF m 187 (lw2 q1 q2 q3 q4 q5 p1 uo ue uf ut 1 0 1 u22 fu nw w495 b496) [(.ref w506)]) (fun _ hr => st506.trans hr) ?_
            refine gsW T506 (mkF m 189 (lw3 q1 q2 q3 q4 q5 p1 uo ue uf ut 1 0 1 u22 fu nw w495 b496 w506) []) (fun _ hr => XS.astore X506.here hx rfl (hb hby at_187) rfl rfl (l' := (lw3 q1 q2 q3 q4 q5 p1 uo ue uf ut 1 0 1 u22 fu nw w495 b496 w506)) rfl hr) ?_
            refine gsW T506 (mkF m 190 (lw3 q1 q2 q3 q4 q5 p1 uo ue uf ut 1 0 1 u22 fu nw w495 b496 w506) [(.long (0 : Int64))]) (fun _ hr => XT.lconst X506.here hx rfl (hb hby at_189) hr) ?_
            refine gsW T506 (mkF m 192 (lw4 q1 q2 q3 q4 q5 p1 uo ue uf ut 1 0 1 u22 fu nw w495 b496 w506 (0 : Int64)) []) (fun _ hr => XT.lstore X506.here hx rfl (hb hby at_190) rfl (l' := (lw4 q1 q2 q3 q4 q5 p1 uo ue uf ut 1 0 1 u22 fu nw w495 b496 w506 (0 : Int64))) rfl hr) ?_
            refine gsW T506 (mkF m 194 (lw4 q1 q2 q3 q4 q5 p1 uo ue uf ut 1 0 1 u22 fu nw w495 b496 w506 (0 : Int64)) [(.int (1 : Int32))]) (fun _ hr => XS.iload X506.here hx rfl (hb hby at_192) rfl  hr) ?_
            refine gsW T506 (mkF m 197 (lw4 q1 q2 q3 q4 q5 p1 uo ue uf ut 1 0 1 u22 fu nw w495 b496 w506 (0 : Int64)) []) (fun _ hr => XS.ifNo X506.here hx rfl (hb hby at_194) rfl ((if0 _ _).trans (feq (by decide : ¬ ((1 : Int32) = (0 : Int32)))).1) hr) ?_
            refine gsW T506 (mkF m 199 (lw4 q1 q2 q3 q4 q5 p1 uo ue uf ut 1 0 1 u22 fu nw w495 b496 w506 (0 : Int64)) [(.long uo)]) (fun _ hr => XT.lload X506.here hx rfl (hb hby at_197) rfl hr) ?_
            refine gsW T506 (mkF m 201 (lw4 q1 q2 q3 q4 q5 p1 uo ue uf ut 1 0 1 u22 fu nw w495 b496 w506 (0 : Int64)) [(.long ue), (.long uo)]) (fun _ hr => XT.lload X506.here hx rfl (hb hby at_199) rfl hr) ?_
            refine gsW T506 (mkF m 202 (lw4 q1 q2 q3 q4 q5 p1 uo ue uf ut 1 0 1 u22 fu nw w495 b496 w506 (0 : Int64)) [(.int (XT.cmpL uo ue))]) (fun _ hr => XT.lcmp X506.here hx rfl (hb hby at_201) rfl hr) ?_
            refine gsW T506 (mkF m 211 (lw4 q1 q2 q3 q4 q5 p1 uo ue uf ut 1 0 1 u22 fu nw w495 b496 w506 (0 : Int64)) []) (fun _ hr => XS.ifYes X506.here hx rfl (pc0 := 202) (pc' := 211) rfl (hb hby at_202) rfl ((if0 _ _).trans (flt (hle : ¬ ((0 : Int32) < (XT.cmpL uo ue)))).2.2.2) (by decide) (by decide) hr) ?_
            refine gsW T506 (mkF m 213 (lw4 q1 q2 q3 q4 q5 p1 uo ue uf ut 1 0 1 u22 fu nw w495 b496 w506 (0 : Int64)) [(.int (0 : Int32))]) (fun _ hr => XS.iload X506.here hx rfl (hb hby at_211) rfl  hr) ?_
            refine gsW T506 (mkF m 216 (lw4 q1 q2 q3 q4 q5 p1 uo ue uf ut 1 0 1 u22 fu nw w495 b496 w506 (0 : Int64)) []) (fun _ hr => XS.ifNo X506.here hx rfl (hb hby at_213) rfl ((if0 _ _).trans (teq (by decide : (0 : Int32) = (0 : Int32))).2) hr) ?_
            refine gsW T506 (mkF m 218 (lw4 q1 q2 q3 q4 q5 p1 uo ue uf ut 1 0 1 u22 fu nw w495 b496 w506 (0 : Int64)) [(.long uo)]) (fun _ hr => XT.lload X506.here hx rfl (hb hby at_216) rfl hr) ?_
            refine gsW T506 (mkF m 220 (lw4 q1 q2 q3 q4 q5 p1 uo ue uf ut 1 0 1 u22 fu nw w495 b496 w506 (0 : Int64)) [(.long ue), (.long uo)]) (fun _ hr => XT.lload X506.here hx rfl (hb hby at_218) rfl hr) ?_
            refine gsW T506 (mkF m 221 (lw4 q1 q2 q3 q4 q5 p1 uo ue uf ut 1 0 1 u22 fu nw w495 b496 w506 (0 : Int64)) [(.int (XT.cmpL uo ue))]) (fun _ hr => XT.lcmp X506.here hx rfl (hb hby at_220) rfl hr) ?_
            refine gsW T506 (mkF m 233 (lw4 q1 q2 q3 q4 q5 p1 uo ue uf ut 1 0 1 u22 fu nw w495 b496 w506 (0 : Int64)) []) (fun _ hr => XS.ifYes X506.here hx rfl (pc0 := 221) (pc' := 233) rfl (hb hby at_221) rfl ((if0 _ _).trans (feq (hne : ¬ ((XT.cmpL uo ue) = (0 : Int32)))).2) (by decide) (by decide) hr) ?_
            refine gsW T506 (mkF m 235 (lw4 q1 q2 q3 q4 q5 p1 uo ue uf ut 1 0 1 u22 fu nw w495 b496 w506 (0 : Int64)) [(.int (1 : Int32))]) (fun _ hr => XS.iload X506.here hx rfl (hb hby at_233) rfl  hr) ?_
            refine gsW T506 (mkF m 247 (lw4 q1 q2 q3 q4 q5 p1 uo ue uf ut 1 0 1 u22 fu nw w495 b496 w506 (0 : Int64)) []) (fun _ hr => XS.ifYes X506.here hx rfl (pc0 := 235) (pc' := 247) rfl (hb hby at_235) rfl ((if0 _ _).trans (feq (by decide : ¬ ((1 : Int32) = (0 : Int32)))).2) (by decide) (by decide) hr) ?_
            refine gsW T506 (mkF m 248 (lw4 q1 q2 q3 q4 q5 p1 uo ue uf ut 1 0 1 u22 fu nw w495 b496 w506 (0 : Int64)) [(.int (1 : Int32))]) (fun _ hr => XS.iconst X506.here hx rfl (hb hby at_247) hr) ?_
            refine gsW T506 (mkF m 250 (lw5 q1 q2 q3 q4 q5 p1 uo ue uf ut 1 0 1 u22 fu nw w495 b496 w506 1 (0 : Int64)) []) (fun _ hr => XS.istore X506.here hx rfl (hb hby at_248) rfl (l' := (lw5 q1 q2 q3 q4 q5 p1 uo ue uf ut 1 0 1 u22 fu nw w495 b496 w506 1 (0 : Int64))) rfl hr) ?_
            refine gsW T506 (mkF m 252 (lw5 q1 q2 q3 q4 q5 p1 uo ue uf ut 1 0 1 u22 fu nw w495 b496 w506 1 (0 : Int64)) [(.long ut)]) (fun _ hr => XT.lload X506.here hx rfl (hb hby at_250) rfl hr) ?_
            refine gsW T506 (mkF m 254 (lw5 q1 q2 q3 q4 q5 p1 uo ue uf ut 1 0 1 u22 fu nw w495 b496 w506 1 (0 : Int64)) [(.long uf), (.long ut)]) (fun _ hr => XT.lload X506.here hx rfl (hb hby at_252) rfl hr) ?_
            refine gsW T506 (mkF m 255 (lw5 q1 q2 q3 q4 q5 p1 uo ue uf ut 1 0 1 u22 fu nw w495 b496 w506 1 (0 : Int64)) [(.int (XT.cmpL ut uf))]) (fun _ hr => XT.lcmp X506.here hx rfl (hb hby at_254) rfl hr) ?_
            refine gsW T506 (mkF m 266 (lw5 q1 q2 q3 q4 q5 p1 uo ue uf ut 1 0 1 u22 fu nw w495 b496 w506 1 (0 : Int64)) []) (fun _ hr => XS.ifYes X506.here hx rfl (pc0 := 255) (pc' := 266) rfl (hb hby at_255) rfl ((if0 _ _).trans (flt (htf : ¬ ((0 : Int32) < (XT.cmpL ut uf)))).2.2.2) (by decide) (by decide) hr) ?_
            refine gsW T506 (mkF m 267 (lw5 q1 q2 q3 q4 q5 p1 uo ue uf ut 1 0 1 u22 fu nw w495 b496 w506 1 (0 : Int64)) [(.long (0 : Int64))]) (fun _ hr => XT.lconst X506.here hx rfl (hb hby at_266) hr) ?_
            refine gsW T506 (mkF m 269 (lw5 q1 q2 q3 q4 q5 p1 uo ue uf ut 1 0 1 u22 fu nw w495 b496 w506 1 (0 : Int64)) []) (fun _ hr => XT.lstore X506.here hx rfl (hb hby at_267) rfl (l' := (lw5 q1 q2 q3 q4 q5 p1 uo ue uf ut 1 0 1 u22 fu nw w495 b496 w506 1 (0 : Int64))) rfl hr) ?_
            refine gsW T506 (mkF m 271 (lw5 q1 q2 q3 q4 q5 p1 uo ue uf ut 1 0 1 u22 fu nw w495 b496 w506 1 (0 : Int64)) [(.int (1 : Int32))]) (fun _ hr => XS.iload X506.here hx rfl (hb hby at_269) rfl  hr) ?_
            refine gsW T506 (mkF m 274 (lw5 q1 q2 q3 q4 q5 p1 uo ue uf ut 1 0 1 u22 fu nw w495 b496 w506 1 (0 : Int64)) []) (fun _ hr => XS.ifNo X506.here hx rfl (hb hby at_271) rfl ((if0 _ _).trans (feq (by decide : ¬ ((1 : Int32) = (0 : Int32)))).1) hr) ?_
            refine gsW T506 (mkF m 276 (lw5 q1 q2 q3 q4 q5 p1 uo ue uf ut 1 0 1 u22 fu nw w495 b496 w506 1 (0 : Int64)) [(.ref w506)]) (fun _ hr => XS.aload X506.here hx rfl (hb hby at_274) rfl rfl hr) ?_
            have Zs507 : n0 ≤ T506.heap.size := Nat.le_trans Z0 K506.1
            obtain ⟨cq508, kq508, q508a, q508b, q508c⟩ := isOf hZ498 rfl E_w506_506c
            obtain ⟨_, _, ⟨T508, L508, k508, n508⟩, -, X508, ⟨Lc508, hQ508, l508, y508, z508⟩, st508⟩ := X506.virtualBack hx (y := Y5) (z := Y5) hown498 (mvT hZ498 (tw hw 184 rfl)) (mvT hZ498 (tw hw 156 rfl)) (notFace_of_selects (args := #[]) (mvT hZ498 (tw hw 158 rfl))) (mvT hZ498 (tw hw 158 rfl)) (mvT hZ498 (tw hw 157 rfl)) (by decide) (backOf (W := 0) (rm_olp1 l Z a0 hw [] w506 T506.heap n0 Zs507 (Old.keep O0 K506 hws) F_w506_isPresent_506c) hZ498 (tw hw 159 rfl) (tw hw 3 rfl) (by decide) (by decide)) q508a q508c (g := (mkF m 276 (lw5 q1 q2 q3 q4 q5 p1 uo ue uf ut 1 0 1 u22 fu nw w495 b496 w506 1 (0 : Int64)) [(.ref w506)])) rfl (by rw [hml]; rfl) (Steps.refl _) (argsL := []) (rest := []) (lenOf pd_1 rfl) rfl (wle rfl) (hb hby at_276) (fun _ _ => ⟨rfl, rfl, (by decide : 19 + 0 ≤ _), (by decide : 206 + 0 ≤ _)⟩)
            dsimp only [Pt.U, Pt.locs, Pt.cells, Pt.slots] at X508 l508 y508 z508 st508 hQ508
            subst l508 y508 z508
            obtain ⟨rfl, N508q, e508⟩ := hQ508
            have N508 := Fr.app N506 N508q
            refine gsW T508 (mkF m 279 (lw5 q1 q2 q3 q4 q5 p1 uo ue uf ut 1 0 1 u22 fu nw w495 b496 w506 1 (0 : Int64)) [(.int (1 : Int32))]) (fun _ hr => st508.trans hr) ?_
            refine gsW T508 (mkF m 282 (lw5 q1 q2 q3 q4 q5 p1 uo ue uf ut 1 0 1 u22 fu nw w495 b496 w506 1 (0 : Int64)) []) (fun _ hr => XS.ifNo X508.here hx rfl (hb hby at_279) rfl ((if0 _ _).trans (feq (by decide : ¬ ((1 : Int32) = (0 : Int32)))).1) hr) ?_
            refine gsW T508 (mkF m 284 (lw5 q1 q2 q3 q4 q5 p1 uo ue uf ut 1 0 1 u22 fu nw w495 b496 w506 1 (0 : Int64)) [(.ref w506)]) (fun _ hr => XS.aload X508.here hx rfl (hb hby at_282) rfl rfl hr) ?_
            have Zs509 : n0 ≤ T506.heap.size := Nat.le_trans Z0 K506.1
            obtain ⟨cq510, kq510, q510a, q510b, q510c⟩ := isOf hZ498 e508 E_w506_506c
            obtain ⟨_, _, ⟨T510, L510, k510, n510⟩, -, X510, ⟨Lc510, hQ510, l510, y510, z510⟩, st510⟩ := X508.virtualBack hx (y := Y7) (z := Y7) hown498 (mvT hZ498 (tw hw 185 rfl)) (mvT hZ498 (tw hw 150 rfl)) (notFace_of_selects (args := #[]) (mvT hZ498 (tw hw 152 rfl))) (mvT hZ498 (tw hw 152 rfl)) (mvT hZ498 (tw hw 151 rfl)) (by decide) (backOf (W := 0) (rm_olg l Z a0 hw [] w506 (0 : Int64) T506.heap n0 Zs509 (Old.keep O0 K506 hws) F_w506_isPresent_506c F_w506_value_506c) hZ498 (tw hw 153 rfl) (tw hw 3 rfl) (by decide) (by decide)) q510a q510c (g := (mkF m 284 (lw5 q1 q2 q3 q4 q5 p1 uo ue uf ut 1 0 1 u22 fu nw w495 b496 w506 1 (0 : Int64)) [(.ref w506)])) rfl (by rw [hml]; rfl) (Steps.refl _) (argsL := []) (rest := []) (lenOf pd_5 rfl) rfl (wle rfl) (hb hby at_284) (fun _ _ => ⟨rfl, e508, (by decide : 19 + 0 ≤ _), (by decide : 206 + 0 ≤ _)⟩)
            dsimp only [Pt.U, Pt.locs, Pt.cells, Pt.slots] at X510 l510 y510 z510 st510 hQ510
            subst l510 y510 z510
            obtain ⟨rfl, N510q, e510⟩ := hQ510
            have N510 := Fr.app N508 N510q
            refine gsW T510 (mkF m 287 (lw5 q1 q2 q3 q4 q5 p1 uo ue uf ut 1 0 1 u22 fu nw w495 b496 w506 1 (0 : Int64)) [(.long (0 : Int64))]) (fun _ hr => st510.trans hr) ?_
            refine gsW T510 (mkF m 289 (lw5 q1 q2 q3 q4 q5 p1 uo ue uf ut 1 0 1 u22 fu nw w495 b496 w506 1 (0 : Int64)) [(.long (0 : Int64)), (.long (0 : Int64))]) (fun _ hr => XT.lload X510.here hx rfl (hb hby at_287) rfl hr) ?_
            refine gsW T510 (mkF m 290 (lw5 q1 q2 q3 q4 q5 p1 uo ue uf ut 1 0 1 u22 fu nw w495 b496 w506 1 (0 : Int64)) [(.int (XT.cmpL (0 : Int64) (0 : Int64)))]) (fun _ hr => XT.lcmp X510.here hx rfl (hb hby at_289) rfl hr) ?_
            rw [cmpL_self]
            refine gsW T510 (mkF m 293 (lw5 q1 q2 q3 q4 q5 p1 uo ue uf ut 1 0 1 u22 fu nw w495 b496 w506 1 (0 : Int64)) []) (fun _ hr => XS.ifNo X510.here hx rfl (hb hby at_290) rfl ((if0 _ _).trans (teq (by decide : (0 : Int32) = (0 : Int32))).2) hr) ?_
            refine gsW T510 (mkF m 294 (lw5 q1 q2 q3 q4 q5 p1 uo ue uf ut 1 0 1 u22 fu nw w495 b496 w506 1 (0 : Int64)) [(.int (1 : Int32))]) (fun _ hr => XS.iconst X510.here hx rfl (hb hby at_293) hr) ?_
            refine gsW T510 (mkF m 298 (lw5 q1 q2 q3 q4 q5 p1 uo ue uf ut 1 0 1 u22 fu nw w495 b496 w506 1 (0 : Int64)) [(.int (1 : Int32))]) (fun _ hr => XS.goto X510.here hx rfl (pc0 := 294) (pc' := 298) rfl (hb hby at_294) (by decide) (by decide) hr) ?_
            exact GoesW.ret (v := some (.int (1 : Int32))) X510 Sn498 (by rw [e510]; exact kle506) (by decide) (by decide) (fun h => by rw [Bd.returns] at h; cases h) ⟨rfl, N510⟩ (fun fs hr => retN X510 hx (t := .boolean) Bd.returns (by simp) (hb hby at_298) hr)
  have SEGa : ∀ (Tg : State) (hg : Heap) (Lg : List Loc) (uo : Int64) (ue : Int64) (uf : Int64) (ut : Int64) (u19 : Int32) (u20 : Int32) (u21 : Int32) (u22 : Int32), Stand p l e room_1 s m #[(.long q1), (.long q2), (.long q3), (.long q4), (.long q5), (.int p1)] below meth c Tg Lg 0 0 → Tg.heap = hg → Fr n0 Lg → Keep h0 hg [] → 0 ≤ uo.toInt → 0 ≤ ue.toInt → 0 ≤ uf.toInt → 0 ≤ ut.toInt → u19 = (0 : Int32) ∨ u19 = (1 : Int32) → u20 = (0 : Int32) ∨ u20 = (1 : Int32) → u21 = (0 : Int32) ∨ u21 = (1 : Int32) → u22 = (0 : Int32) ∨ u22 = (1 : Int32) → GoesW p l e room_1 s m #[(.long q1), (.long q2), (.long q3), (.long q4), (.long q5), (.int p1)] below meth c (Q_rm_law Z q1 q2 q3 q4 q5 p1 em eo h0 n0) Tg (mkF m 100 (lw6 q1 q2 q3 q4 q5 p1 uo ue uf ut u19 u20 u21 u22) []) := by
    intro Tg hg Lg uo ue uf ut u19 u20 u21 u22 Xg eg Ng Kg ho he hf ht h19 h20 h21 h22
    rcases h21 with rfl | rfl
    · refine gsW Tg (mkF m 102 (lw6 q1 q2 q3 q4 q5 p1 uo ue uf ut u19 u20 0 u22) [(.int (0 : Int32))]) (fun _ hr => XS.iload Xg.here hx rfl (hb hby at_100) rfl  hr) ?_
      refine gsW Tg (mkF m 113 (lw6 q1 q2 q3 q4 q5 p1 uo ue uf ut u19 u20 0 u22) []) (fun _ hr => XS.ifYes Xg.here hx rfl (pc0 := 102) (pc' := 113) rfl (hb hby at_102) rfl ((if0 _ _).trans (teq (by decide : (0 : Int32) = (0 : Int32))).1) (by decide) (by decide) hr) ?_
      have Zs511 : n0 ≤ hg.size := Nat.le_trans Z0 Kg.1
      obtain ⟨_, _, ⟨T512, L512, k512, n512⟩, -, X512, ⟨Lc512, hQ512, l512, y512, z512⟩, st512⟩ := LawKit.callS Xg hx (y := Y4) hown (mvT hZ (tw hw 1 rfl)) (mvT hZ (tw hw 2 rfl)) (mvT hZ (tw hw 3 rfl)) (mvT hZ (tw hw 4 rfl)) (by decide) (backOf (W := 0) (rm_olem l Z a0 hw [] em hg n0 Zs511 (Old.keep O0 Kg hws) S_OptionalLong_EMPTY_old) hZ (tw hw 4 rfl) (tw hw 3 rfl) (by decide) (by decide)) (g := (mkF m 113 (lw6 q1 q2 q3 q4 q5 p1 uo ue uf ut u19 u20 0 u22) [])) rfl (by rw [hml]; rfl) (argsL := []) (rest := []) (lenOf pd_6 rfl) rfl (wle rfl) (hb hby at_113) (fun _ _ => ⟨rfl, eg, (by decide : 0 + 0 ≤ _), (by decide : 0 + 0 ≤ _)⟩)
      dsimp only [Pt.U, Pt.locs, Pt.cells, Pt.slots] at X512 l512 y512 z512 st512 hQ512
      subst l512 y512 z512
      obtain ⟨rfl, N512q, e512⟩ := hQ512
      have N512 := Fr.app Ng N512q
      refine gsW T512 (mkF m 116 (lw6 q1 q2 q3 q4 q5 p1 uo ue uf ut u19 u20 0 u22) [(.ref em)]) st512 ?_
      refine gsW T512 (mkF m 118 (lw7 q1 q2 q3 q4 q5 p1 uo ue uf ut u19 u20 0 u22 em) []) (fun _ hr => XS.astore X512.here hx rfl (hb hby at_116) rfl rfl (l' := (lw7 q1 q2 q3 q4 q5 p1 uo ue uf ut u19 u20 0 u22 em)) rfl hr) ?_
      rcases h22 with rfl | rfl
      · refine gsW T512 (mkF m 120 (lw7 q1 q2 q3 q4 q5 p1 uo ue uf ut u19 u20 0 0 em) [(.int (0 : Int32))]) (fun _ hr => XS.iload X512.here hx rfl (hb hby at_118) rfl  hr) ?_
        refine gsW T512 (mkF m 131 (lw7 q1 q2 q3 q4 q5 p1 uo ue uf ut u19 u20 0 0 em) []) (fun _ hr => XS.ifYes X512.here hx rfl (pc0 := 120) (pc' := 131) rfl (hb hby at_120) rfl ((if0 _ _).trans (teq (by decide : (0 : Int32) = (0 : Int32))).1) (by decide) (by decide) hr) ?_
        have Zs513 : n0 ≤ hg.size := Nat.le_trans Z0 Kg.1
        obtain ⟨_, _, ⟨T514, L514, k514, n514⟩, -, X514, ⟨Lc514, hQ514, l514, y514, z514⟩, st514⟩ := LawKit.callS X512 hx (y := Y4) hown (mvT hZ (tw hw 1 rfl)) (mvT hZ (tw hw 2 rfl)) (mvT hZ (tw hw 3 rfl)) (mvT hZ (tw hw 4 rfl)) (by decide) (backOf (W := 0) (rm_olem l Z a0 hw [] em hg n0 Zs513 (Old.keep O0 Kg hws) S_OptionalLong_EMPTY_old) hZ (tw hw 4 rfl) (tw hw 3 rfl) (by decide) (by decide)) (g := (mkF m 131 (lw7 q1 q2 q3 q4 q5 p1 uo ue uf ut u19 u20 0 0 em) [])) rfl (by rw [hml]; rfl) (argsL := []) (rest := []) (lenOf pd_6 rfl) rfl (wle rfl) (hb hby at_131) (fun _ _ => ⟨rfl, e512, (by decide : 0 + 0 ≤ _), (by decide : 0 + 0 ≤ _)⟩)
        dsimp only [Pt.U, Pt.locs, Pt.cells, Pt.slots] at X514 l514 y514 z514 st514 hQ514
        subst l514 y514 z514
        obtain ⟨rfl, N514q, e514⟩ := hQ514
        have N514 := Fr.app N512 N514q
        refine gsW T514 (mkF m 134 (lw7 q1 q2 q3 q4 q5 p1 uo ue uf ut u19 u20 0 0 em) [(.ref em)]) st514 ?_
        refine gsW T514 (mkF m 136 (lw0 q1 q2 q3 q4 q5 p1 uo ue uf ut u19 u20 0 0 em em) []) (fun _ hr => XS.astore X514.here hx rfl (hb hby at_134) rfl rfl (l' := (lw0 q1 q2 q3 q4 q5 p1 uo ue uf ut u19 u20 0 0 em em)) rfl hr) ?_
        exact SEGb T514 hg _ uo ue uf ut u19 u20 (0 : Int32) (0 : Int32) em em (X514.more (by decide) (by decide)) e514 N514 Kg h19 h20 ho he hf ht (Or.inl ⟨rfl, rfl⟩)
      · refine gsW T512 (mkF m 120 (lw7 q1 q2 q3 q4 q5 p1 uo ue uf ut u19 u20 0 1 em) [(.int (1 : Int32))]) (fun _ hr => XS.iload X512.here hx rfl (hb hby at_118) rfl  hr) ?_
        refine gsW T512 (mkF m 123 (lw7 q1 q2 q3 q4 q5 p1 uo ue uf ut u19 u20 0 1 em) []) (fun _ hr => XS.ifNo X512.here hx rfl (hb hby at_120) rfl ((if0 _ _).trans (feq (by decide : ¬ ((1 : Int32) = (0 : Int32)))).1) hr) ?_
        refine gsW T512 (mkF m 125 (lw7 q1 q2 q3 q4 q5 p1 uo ue uf ut u19 u20 0 1 em) [(.long q5)]) (fun _ hr => XT.lload X512.here hx rfl (hb hby at_123) rfl hr) ?_
        have Zs515 : n0 ≤ hg.size := Nat.le_trans Z0 Kg.1
        obtain ⟨_, _, ⟨T516, L516, k516, n516⟩, -, X516, ⟨Lc516, hQ516, l516, y516, z516⟩, st516⟩ := LawKit.callS X512 hx (y := Y3) hown (mvT hZ (tw hw 83 rfl)) (mvT hZ (tw hw 84 rfl)) (mvT hZ (tw hw 3 rfl)) (mvT hZ (tw hw 85 rfl)) (by decide) (backOf (W := 0) (rm_olof l Z a0 hw [] q5 hg n0 Zs515 (Old.keep O0 Kg hws)) hZ (tw hw 85 rfl) (tw hw 3 rfl) (by decide) (by decide)) (g := (mkF m 125 (lw7 q1 q2 q3 q4 q5 p1 uo ue uf ut u19 u20 0 1 em) [(.long q5)])) rfl (by rw [hml]; rfl) (argsL := [(.long q5)]) (rest := []) (lenOf pd_7 rfl) rfl (wle rfl) (hb hby at_125) (fun _ _ => ⟨rfl, e512, (by decide : 0 + 1 ≤ _), (by decide : 0 + 2 ≤ _)⟩)
        dsimp only [Pt.U, Pt.locs, Pt.cells, Pt.slots] at X516 l516 y516 z516 st516 hQ516
        subst l516 y516 z516
        obtain ⟨w516, rfl, N516q, Kc516, P516_0, P516_1, P516_2, P516_3⟩ := hQ516
        have N516 := Fr.app N512 N516q
        have K516 : Keep h0 T516.heap [] := Kg.trans Kc516 all0
        refine gsW T516 (mkF m 128 (lw7 q1 q2 q3 q4 q5 p1 uo ue uf ut u19 u20 0 1 em) [(.ref w516)]) st516 ?_
        refine gsW T516 (mkF m 134 (lw7 q1 q2 q3 q4 q5 p1 uo ue uf ut u19 u20 0 1 em) [(.ref w516)]) (fun _ hr => XS.goto X516.here hx rfl (pc0 := 128) (pc' := 134) rfl (hb hby at_128) (by decide) (by decide) hr) ?_
        refine gsW T516 (mkF m 136 (lw0 q1 q2 q3 q4 q5 p1 uo ue uf ut u19 u20 0 1 em w516) []) (fun _ hr => XS.astore X516.here hx rfl (hb hby at_134) rfl rfl (l' := (lw0 q1 q2 q3 q4 q5 p1 uo ue uf ut u19 u20 0 1 em w516)) rfl hr) ?_
        exact SEGb T516 T516.heap _ uo ue uf ut u19 u20 (0 : Int32) (1 : Int32) em w516 (X516.more (by decide) (by decide)) rfl N516 K516 h19 h20 ho he hf ht (Or.inl ⟨rfl, rfl⟩)
    · refine gsW Tg (mkF m 102 (lw6 q1 q2 q3 q4 q5 p1 uo ue uf ut u19 u20 1 u22) [(.int (1 : Int32))]) (fun _ hr => XS.iload Xg.here hx rfl (hb hby at_100) rfl  hr) ?_
      refine gsW Tg (mkF m 105 (lw6 q1 q2 q3 q4 q5 p1 uo ue uf ut u19 u20 1 u22) []) (fun _ hr => XS.ifNo Xg.here hx rfl (hb hby at_102) rfl ((if0 _ _).trans (feq (by decide : ¬ ((1 : Int32) = (0 : Int32)))).1) hr) ?_
      refine gsW Tg (mkF m 107 (lw6 q1 q2 q3 q4 q5 p1 uo ue uf ut u19 u20 1 u22) [(.long uf)]) (fun _ hr => XT.lload Xg.here hx rfl (hb hby at_105) rfl hr) ?_
      have Zs517 : n0 ≤ hg.size := Nat.le_trans Z0 Kg.1
      obtain ⟨_, _, ⟨T518, L518, k518, n518⟩, -, X518, ⟨Lc518, hQ518, l518, y518, z518⟩, st518⟩ := LawKit.callS Xg hx (y := Y3) hown (mvT hZ (tw hw 83 rfl)) (mvT hZ (tw hw 84 rfl)) (mvT hZ (tw hw 3 rfl)) (mvT hZ (tw hw 85 rfl)) (by decide) (backOf (W := 0) (rm_olof l Z a0 hw [] uf hg n0 Zs517 (Old.keep O0 Kg hws)) hZ (tw hw 85 rfl) (tw hw 3 rfl) (by decide) (by decide)) (g := (mkF m 107 (lw6 q1 q2 q3 q4 q5 p1 uo ue uf ut u19 u20 1 u22) [(.long uf)])) rfl (by rw [hml]; rfl) (argsL := [(.long uf)]) (rest := []) (lenOf pd_7 rfl) rfl (wle rfl) (hb hby at_107) (fun _ _ => ⟨rfl, eg, (by decide : 0 + 1 ≤ _), (by decide : 0 + 2 ≤ _)⟩)
      dsimp only [Pt.U, Pt.locs, Pt.cells, Pt.slots] at X518 l518 y518 z518 st518 hQ518
      subst l518 y518 z518
      obtain ⟨w518, rfl, N518q, Kc518, P518_0, P518_1, P518_2, P518_3⟩ := hQ518
      have N518 := Fr.app Ng N518q
      have K518 : Keep h0 T518.heap [] := Kg.trans Kc518 all0
      have E_w518_518c : Exa Z T518.heap w518 cOL := P518_1
      have F_w518_isPresent_518c : Fld Z T518.heap w518 cOL nIP "Z" (.int (1 : Int32)) := P518_2
      have F_w518_value_518c : Fld Z T518.heap w518 cOL "value" "J" (.long uf) := P518_3
      refine gsW T518 (mkF m 110 (lw6 q1 q2 q3 q4 q5 p1 uo ue uf ut u19 u20 1 u22) [(.ref w518)]) st518 ?_
      refine gsW T518 (mkF m 116 (lw6 q1 q2 q3 q4 q5 p1 uo ue uf ut u19 u20 1 u22) [(.ref w518)]) (fun _ hr => XS.goto X518.here hx rfl (pc0 := 110) (pc' := 116) rfl (hb hby at_110) (by decide) (by decide) hr) ?_
      refine gsW T518 (mkF m 118 (lw7 q1 q2 q3 q4 q5 p1 uo ue uf ut u19 u20 1 u22 w518) []) (fun _ hr => XS.astore X518.here hx rfl (hb hby at_116) rfl rfl (l' := (lw7 q1 q2 q3 q4 q5 p1 uo ue uf ut u19 u20 1 u22 w518)) rfl hr) ?_
      rcases h22 with rfl | rfl
      · refine gsW T518 (mkF m 120 (lw7 q1 q2 q3 q4 q5 p1 uo ue uf ut u19 u20 1 0 w518) [(.int (0 : Int32))]) (fun _ hr => XS.iload X518.here hx rfl (hb hby at_118) rfl  hr) ?_
        refine gsW T518 (mkF m 131 (lw7 q1 q2 q3 q4 q5 p1 uo ue uf ut u19 u20 1 0 w518) []) (fun _ hr => XS.ifYes X518.here hx rfl (pc0 := 120) (pc' := 131) rfl (hb hby at_120) rfl ((if0 _ _).trans (teq (by decide : (0 : Int32) = (0 : Int32))).1) (by decide) (by decide) hr) ?_
        have Zs519 : n0 ≤ T518.heap.size := Nat.le_trans Z0 K518.1
        obtain ⟨_, _, ⟨T520, L520, k520, n520⟩, -, X520, ⟨Lc520, hQ520, l520, y520, z520⟩, st520⟩ := LawKit.callS X518 hx (y := Y4) hown (mvT hZ (tw hw 1 rfl)) (mvT hZ (tw hw 2 rfl)) (mvT hZ (tw hw 3 rfl)) (mvT hZ (tw hw 4 rfl)) (by decide) (backOf (W := 0) (rm_olem l Z a0 hw [] em T518.heap n0 Zs519 (Old.keep O0 K518 hws) S_OptionalLong_EMPTY_old) hZ (tw hw 4 rfl) (tw hw 3 rfl) (by decide) (by decide)) (g := (mkF m 131 (lw7 q1 q2 q3 q4 q5 p1 uo ue uf ut u19 u20 1 0 w518) [])) rfl (by rw [hml]; rfl) (argsL := []) (rest := []) (lenOf pd_6 rfl) rfl (wle rfl) (hb hby at_131) (fun _ _ => ⟨rfl, rfl, (by decide : 1 + 0 ≤ _), (by decide : 2 + 0 ≤ _)⟩)
        dsimp only [Pt.U, Pt.locs, Pt.cells, Pt.slots] at X520 l520 y520 z520 st520 hQ520
        subst l520 y520 z520
        obtain ⟨rfl, N520q, e520⟩ := hQ520
        have N520 := Fr.app N518 N520q
        refine gsW T520 (mkF m 134 (lw7 q1 q2 q3 q4 q5 p1 uo ue uf ut u19 u20 1 0 w518) [(.ref em)]) st520 ?_
        refine gsW T520 (mkF m 136 (lw0 q1 q2 q3 q4 q5 p1 uo ue uf ut u19 u20 1 0 w518 em) []) (fun _ hr => XS.astore X520.here hx rfl (hb hby at_134) rfl rfl (l' := (lw0 q1 q2 q3 q4 q5 p1 uo ue uf ut u19 u20 1 0 w518 em)) rfl hr) ?_
        exact SEGb T520 T518.heap _ uo ue uf ut u19 u20 (1 : Int32) (0 : Int32) w518 em (X520.more (by decide) (by decide)) e520 N520 K518 h19 h20 ho he hf ht (Or.inr ⟨rfl, E_w518_518c, F_w518_isPresent_518c, F_w518_value_518c⟩)
      · refine gsW T518 (mkF m 120 (lw7 q1 q2 q3 q4 q5 p1 uo ue uf ut u19 u20 1 1 w518) [(.int (1 : Int32))]) (fun _ hr => XS.iload X518.here hx rfl (hb hby at_118) rfl  hr) ?_
        refine gsW T518 (mkF m 123 (lw7 q1 q2 q3 q4 q5 p1 uo ue uf ut u19 u20 1 1 w518) []) (fun _ hr => XS.ifNo X518.here hx rfl (hb hby at_120) rfl ((if0 _ _).trans (feq (by decide : ¬ ((1 : Int32) = (0 : Int32)))).1) hr) ?_
        refine gsW T518 (mkF m 125 (lw7 q1 q2 q3 q4 q5 p1 uo ue uf ut u19 u20 1 1 w518) [(.long q5)]) (fun _ hr => XT.lload X518.here hx rfl (hb hby at_123) rfl hr) ?_
        have Zs521 : n0 ≤ T518.heap.size := Nat.le_trans Z0 K518.1
        obtain ⟨_, _, ⟨T522, L522, k522, n522⟩, -, X522, ⟨Lc522, hQ522, l522, y522, z522⟩, st522⟩ := LawKit.callS X518 hx (y := Y3) hown (mvT hZ (tw hw 83 rfl)) (mvT hZ (tw hw 84 rfl)) (mvT hZ (tw hw 3 rfl)) (mvT hZ (tw hw 85 rfl)) (by decide) (backOf (W := 0) (rm_olof l Z a0 hw [] q5 T518.heap n0 Zs521 (Old.keep O0 K518 hws)) hZ (tw hw 85 rfl) (tw hw 3 rfl) (by decide) (by decide)) (g := (mkF m 125 (lw7 q1 q2 q3 q4 q5 p1 uo ue uf ut u19 u20 1 1 w518) [(.long q5)])) rfl (by rw [hml]; rfl) (argsL := [(.long q5)]) (rest := []) (lenOf pd_7 rfl) rfl (wle rfl) (hb hby at_125) (fun _ _ => ⟨rfl, rfl, (by decide : 1 + 1 ≤ _), (by decide : 2 + 2 ≤ _)⟩)
        dsimp only [Pt.U, Pt.locs, Pt.cells, Pt.slots] at X522 l522 y522 z522 st522 hQ522
        subst l522 y522 z522
        obtain ⟨w522, rfl, N522q, Kc522, P522_0, P522_1, P522_2, P522_3⟩ := hQ522
        have N522 := Fr.app N518 N522q
        have E_w518_522 : Exa Z T522.heap w518 cOL := E_w518_518c.keep Kc522
        have F_w518_isPresent_522 : Fld Z T522.heap w518 cOL nIP "Z" (.int (1 : Int32)) := F_w518_isPresent_518c.keep Kc522 nin0
        have F_w518_value_522 : Fld Z T522.heap w518 cOL "value" "J" (.long uf) := F_w518_value_518c.keep Kc522 nin0
        have K522 : Keep h0 T522.heap [] := K518.trans Kc522 all0
        refine gsW T522 (mkF m 128 (lw7 q1 q2 q3 q4 q5 p1 uo ue uf ut u19 u20 1 1 w518) [(.ref w522)]) st522 ?_
        refine gsW T522 (mkF m 134 (lw7 q1 q2 q3 q4 q5 p1 uo ue uf ut u19 u20 1 1 w518) [(.ref w522)]) (fun _ hr => XS.goto X522.here hx rfl (pc0 := 128) (pc' := 134) rfl (hb hby at_128) (by decide) (by decide) hr) ?_
        refine gsW T522 (mkF m 136 (lw0 q1 q2 q3 q4 q5 p1 uo ue uf ut u19 u20 1 1 w518 w522) []) (fun _ hr => XS.astore X522.here hx rfl (hb hby at_134) rfl rfl (l' := (lw0 q1 q2 q3 q4 q5 p1 uo ue uf ut u19 u20 1 1 w518 w522)) rfl hr) ?_
        exact SEGb T522 T522.heap _ uo ue uf ut u19 u20 (1 : Int32) (1 : Int32) w518 w522 (X522.more (by decide) (by decide)) rfl N522 K522 h19 h20 ho he hf ht (Or.inr ⟨rfl, E_w518_522, F_w518_isPresent_522, F_w518_value_522⟩)
  have SEG85 : ∀ (Tg : State) (hg : Heap) (Lg : List Loc) (uo : Int64) (ue : Int64) (uf : Int64) (ut : Int64) (u19 : Int32) (u20 : Int32) (u21 : Int32), Stand p l e room_1 s m #[(.long q1), (.long q2), (.long q3), (.long q4), (.long q5), (.int p1)] below meth c Tg Lg 0 0 → Tg.heap = hg → Fr n0 Lg → Keep h0 hg [] → 0 ≤ uo.toInt → 0 ≤ ue.toInt → 0 ≤ uf.toInt → 0 ≤ ut.toInt → u19 = (0 : Int32) ∨ u19 = (1 : Int32) → u20 = (0 : Int32) ∨ u20 = (1 : Int32) → u21 = (0 : Int32) ∨ u21 = (1 : Int32) → GoesW p l e room_1 s m #[(.long q1), (.long q2), (.long q3), (.long q4), (.long q5), (.int p1)] below meth c (Q_rm_law Z q1 q2 q3 q4 q5 p1 em eo h0 n0) Tg (mkF m 85 (lw8 q1 q2 q3 q4 q5 p1 uo ue uf ut u19 u20 u21) []) := by
    intro Tg hg Lg uo ue uf ut u19 u20 u21 Xg eg Ng Kg ho he hf ht h19 h20 h21
    refine gsW Tg (mkF m 87 (lw8 q1 q2 q3 q4 q5 p1 uo ue uf ut u19 u20 u21) [(.int p1)]) (fun _ hr => XS.iload Xg.here hx rfl (hb hby at_85) rfl  hr) ?_
    refine gsW Tg (mkF m 89 (lw8 q1 q2 q3 q4 q5 p1 uo ue uf ut u19 u20 u21) [(.int (16 : Int32)), (.int p1)]) (fun _ hr => XS.bipush Xg.here hx rfl (hb hby at_87) hr) ?_
    refine gsW Tg (mkF m 90 (lw8 q1 q2 q3 q4 q5 p1 uo ue uf ut u19 u20 u21) [(.int (p1 &&& (16 : Int32)))]) (fun _ hr => XS.iand Xg.here hx rfl (hb hby at_89) rfl hr) ?_
    by_cases hc90_523 : (p1 &&& (16 : Int32)) = (0 : Int32)
    · refine gsW Tg (mkF m 97 (lw8 q1 q2 q3 q4 q5 p1 uo ue uf ut u19 u20 u21) []) (fun _ hr => XS.ifYes Xg.here hx rfl (pc0 := 90) (pc' := 97) rfl (hb hby at_90) rfl ((if0 _ _).trans (teq hc90_523).1) (by decide) (by decide) hr) ?_
      refine gsW Tg (mkF m 98 (lw8 q1 q2 q3 q4 q5 p1 uo ue uf ut u19 u20 u21) [(.int (0 : Int32))]) (fun _ hr => XS.iconst Xg.here hx rfl (hb hby at_97) hr) ?_
      refine gsW Tg (mkF m 100 (lw6 q1 q2 q3 q4 q5 p1 uo ue uf ut u19 u20 u21 0) []) (fun _ hr => XS.istore Xg.here hx rfl (hb hby at_98) rfl (l' := (lw6 q1 q2 q3 q4 q5 p1 uo ue uf ut u19 u20 u21 0)) rfl hr) ?_
      exact SEGa Tg hg _ uo ue uf ut u19 u20 u21 (0 : Int32) (Xg.more (by decide) (by decide)) eg Ng Kg ho he hf ht h19 h20 h21 (Or.inl rfl)
    · refine gsW Tg (mkF m 93 (lw8 q1 q2 q3 q4 q5 p1 uo ue uf ut u19 u20 u21) []) (fun _ hr => XS.ifNo Xg.here hx rfl (hb hby at_90) rfl ((if0 _ _).trans (feq hc90_523).1) hr) ?_
      refine gsW Tg (mkF m 94 (lw8 q1 q2 q3 q4 q5 p1 uo ue uf ut u19 u20 u21) [(.int (1 : Int32))]) (fun _ hr => XS.iconst Xg.here hx rfl (hb hby at_93) hr) ?_
      refine gsW Tg (mkF m 98 (lw8 q1 q2 q3 q4 q5 p1 uo ue uf ut u19 u20 u21) [(.int (1 : Int32))]) (fun _ hr => XS.goto Xg.here hx rfl (pc0 := 94) (pc' := 98) rfl (hb hby at_94) (by decide) (by decide) hr) ?_
      refine gsW Tg (mkF m 100 (lw6 q1 q2 q3 q4 q5 p1 uo ue uf ut u19 u20 u21 1) []) (fun _ hr => XS.istore Xg.here hx rfl (hb hby at_98) rfl (l' := (lw6 q1 q2 q3 q4 q5 p1 uo ue uf ut u19 u20 u21 1)) rfl hr) ?_
      exact SEGa Tg hg _ uo ue uf ut u19 u20 u21 (1 : Int32) (Xg.more (by decide) (by decide)) eg Ng Kg ho he hf ht h19 h20 h21 (Or.inr rfl)
  have SEG71 : ∀ (Tg : State) (hg : Heap) (Lg : List Loc) (uo : Int64) (ue : Int64) (uf : Int64) (ut : Int64) (u19 : Int32) (u20 : Int32), Stand p l e room_1 s m #[(.long q1), (.long q2), (.long q3), (.long q4), (.long q5), (.int p1)] below meth c Tg Lg 0 0 → Tg.heap = hg → Fr n0 Lg → Keep h0 hg [] → 0 ≤ uo.toInt → 0 ≤ ue.toInt → 0 ≤ uf.toInt → 0 ≤ ut.toInt → u19 = (0 : Int32) ∨ u19 = (1 : Int32) → u20 = (0 : Int32) ∨ u20 = (1 : Int32) → GoesW p l e room_1 s m #[(.long q1), (.long q2), (.long q3), (.long q4), (.long q5), (.int p1)] below meth c (Q_rm_law Z q1 q2 q3 q4 q5 p1 em eo h0 n0) Tg (mkF m 71 (lw9 q1 q2 q3 q4 q5 p1 uo ue uf ut u19 u20) []) := by
    intro Tg hg Lg uo ue uf ut u19 u20 Xg eg Ng Kg ho he hf ht h19 h20
    refine gsW Tg (mkF m 73 (lw9 q1 q2 q3 q4 q5 p1 uo ue uf ut u19 u20) [(.int p1)]) (fun _ hr => XS.iload Xg.here hx rfl (hb hby at_71) rfl  hr) ?_
    refine gsW Tg (mkF m 74 (lw9 q1 q2 q3 q4 q5 p1 uo ue uf ut u19 u20) [(.int (4 : Int32)), (.int p1)]) (fun _ hr => XS.iconst Xg.here hx rfl (hb hby at_73) hr) ?_
    refine gsW Tg (mkF m 75 (lw9 q1 q2 q3 q4 q5 p1 uo ue uf ut u19 u20) [(.int (p1 &&& (4 : Int32)))]) (fun _ hr => XS.iand Xg.here hx rfl (hb hby at_74) rfl hr) ?_
    by_cases hc75_524 : (p1 &&& (4 : Int32)) = (0 : Int32)
    · refine gsW Tg (mkF m 82 (lw9 q1 q2 q3 q4 q5 p1 uo ue uf ut u19 u20) []) (fun _ hr => XS.ifYes Xg.here hx rfl (pc0 := 75) (pc' := 82) rfl (hb hby at_75) rfl ((if0 _ _).trans (teq hc75_524).1) (by decide) (by decide) hr) ?_
      refine gsW Tg (mkF m 83 (lw9 q1 q2 q3 q4 q5 p1 uo ue uf ut u19 u20) [(.int (0 : Int32))]) (fun _ hr => XS.iconst Xg.here hx rfl (hb hby at_82) hr) ?_
      refine gsW Tg (mkF m 85 (lw8 q1 q2 q3 q4 q5 p1 uo ue uf ut u19 u20 0) []) (fun _ hr => XS.istore Xg.here hx rfl (hb hby at_83) rfl (l' := (lw8 q1 q2 q3 q4 q5 p1 uo ue uf ut u19 u20 0)) rfl hr) ?_
      exact SEG85 Tg hg _ uo ue uf ut u19 u20 (0 : Int32) (Xg.more (by decide) (by decide)) eg Ng Kg ho he hf ht h19 h20 (Or.inl rfl)
    · refine gsW Tg (mkF m 78 (lw9 q1 q2 q3 q4 q5 p1 uo ue uf ut u19 u20) []) (fun _ hr => XS.ifNo Xg.here hx rfl (hb hby at_75) rfl ((if0 _ _).trans (feq hc75_524).1) hr) ?_
      refine gsW Tg (mkF m 79 (lw9 q1 q2 q3 q4 q5 p1 uo ue uf ut u19 u20) [(.int (1 : Int32))]) (fun _ hr => XS.iconst Xg.here hx rfl (hb hby at_78) hr) ?_
      refine gsW Tg (mkF m 83 (lw9 q1 q2 q3 q4 q5 p1 uo ue uf ut u19 u20) [(.int (1 : Int32))]) (fun _ hr => XS.goto Xg.here hx rfl (pc0 := 79) (pc' := 83) rfl (hb hby at_79) (by decide) (by decide) hr) ?_
      refine gsW Tg (mkF m 85 (lw8 q1 q2 q3 q4 q5 p1 uo ue uf ut u19 u20 1) []) (fun _ hr => XS.istore Xg.here hx rfl (hb hby at_83) rfl (l' := (lw8 q1 q2 q3 q4 q5 p1 uo ue uf ut u19 u20 1)) rfl hr) ?_
      exact SEG85 Tg hg _ uo ue uf ut u19 u20 (1 : Int32) (Xg.more (by decide) (by decide)) eg Ng Kg ho he hf ht h19 h20 (Or.inr rfl)
  have SEG57 : ∀ (Tg : State) (hg : Heap) (Lg : List Loc) (uo : Int64) (ue : Int64) (uf : Int64) (ut : Int64) (u19 : Int32), Stand p l e room_1 s m #[(.long q1), (.long q2), (.long q3), (.long q4), (.long q5), (.int p1)] below meth c Tg Lg 0 0 → Tg.heap = hg → Fr n0 Lg → Keep h0 hg [] → 0 ≤ uo.toInt → 0 ≤ ue.toInt → 0 ≤ uf.toInt → 0 ≤ ut.toInt → u19 = (0 : Int32) ∨ u19 = (1 : Int32) → GoesW p l e room_1 s m #[(.long q1), (.long q2), (.long q3), (.long q4), (.long q5), (.int p1)] below meth c (Q_rm_law Z q1 q2 q3 q4 q5 p1 em eo h0 n0) Tg (mkF m 57 (lw10 q1 q2 q3 q4 q5 p1 uo ue uf ut u19) []) := by
    intro Tg hg Lg uo ue uf ut u19 Xg eg Ng Kg ho he hf ht h19
    refine gsW Tg (mkF m 59 (lw10 q1 q2 q3 q4 q5 p1 uo ue uf ut u19) [(.int p1)]) (fun _ hr => XS.iload Xg.here hx rfl (hb hby at_57) rfl  hr) ?_
    refine gsW Tg (mkF m 60 (lw10 q1 q2 q3 q4 q5 p1 uo ue uf ut u19) [(.int (2 : Int32)), (.int p1)]) (fun _ hr => XS.iconst Xg.here hx rfl (hb hby at_59) hr) ?_
    refine gsW Tg (mkF m 61 (lw10 q1 q2 q3 q4 q5 p1 uo ue uf ut u19) [(.int (p1 &&& (2 : Int32)))]) (fun _ hr => XS.iand Xg.here hx rfl (hb hby at_60) rfl hr) ?_
    by_cases hc61_525 : (p1 &&& (2 : Int32)) = (0 : Int32)
    · refine gsW Tg (mkF m 68 (lw10 q1 q2 q3 q4 q5 p1 uo ue uf ut u19) []) (fun _ hr => XS.ifYes Xg.here hx rfl (pc0 := 61) (pc' := 68) rfl (hb hby at_61) rfl ((if0 _ _).trans (teq hc61_525).1) (by decide) (by decide) hr) ?_
      refine gsW Tg (mkF m 69 (lw10 q1 q2 q3 q4 q5 p1 uo ue uf ut u19) [(.int (0 : Int32))]) (fun _ hr => XS.iconst Xg.here hx rfl (hb hby at_68) hr) ?_
      refine gsW Tg (mkF m 71 (lw9 q1 q2 q3 q4 q5 p1 uo ue uf ut u19 0) []) (fun _ hr => XS.istore Xg.here hx rfl (hb hby at_69) rfl (l' := (lw9 q1 q2 q3 q4 q5 p1 uo ue uf ut u19 0)) rfl hr) ?_
      exact SEG71 Tg hg _ uo ue uf ut u19 (0 : Int32) (Xg.more (by decide) (by decide)) eg Ng Kg ho he hf ht h19 (Or.inl rfl)
    · refine gsW Tg (mkF m 64 (lw10 q1 q2 q3 q4 q5 p1 uo ue uf ut u19) []) (fun _ hr => XS.ifNo Xg.here hx rfl (hb hby at_61) rfl ((if0 _ _).trans (feq hc61_525).1) hr) ?_
      refine gsW Tg (mkF m 65 (lw10 q1 q2 q3 q4 q5 p1 uo ue uf ut u19) [(.int (1 : Int32))]) (fun _ hr => XS.iconst Xg.here hx rfl (hb hby at_64) hr) ?_
      refine gsW Tg (mkF m 69 (lw10 q1 q2 q3 q4 q5 p1 uo ue uf ut u19) [(.int (1 : Int32))]) (fun _ hr => XS.goto Xg.here hx rfl (pc0 := 65) (pc' := 69) rfl (hb hby at_65) (by decide) (by decide) hr) ?_
      refine gsW Tg (mkF m 71 (lw9 q1 q2 q3 q4 q5 p1 uo ue uf ut u19 1) []) (fun _ hr => XS.istore Xg.here hx rfl (hb hby at_69) rfl (l' := (lw9 q1 q2 q3 q4 q5 p1 uo ue uf ut u19 1)) rfl hr) ?_
      exact SEG71 Tg hg _ uo ue uf ut u19 (1 : Int32) (Xg.more (by decide) (by decide)) eg Ng Kg ho he hf ht h19 (Or.inr rfl)
  have SEG27 : ∀ (Tg : State) (hg : Heap) (Lg : List Loc) (uo : Int64) (ue : Int64), Stand p l e room_1 s m #[(.long q1), (.long q2), (.long q3), (.long q4), (.long q5), (.int p1)] below meth c Tg Lg 0 0 → Tg.heap = hg → Fr n0 Lg → Keep h0 hg [] → 0 ≤ uo.toInt → 0 ≤ ue.toInt → GoesW p l e room_1 s m #[(.long q1), (.long q2), (.long q3), (.long q4), (.long q5), (.int p1)] below meth c (Q_rm_law Z q1 q2 q3 q4 q5 p1 em eo h0 n0) Tg (mkF m 27 (lw11 q1 q2 q3 q4 q5 p1 uo ue) []) := by
    intro Tg hg Lg uo ue Xg eg Ng Kg ho he
    refine gsW Tg (mkF m 29 (lw11 q1 q2 q3 q4 q5 p1 uo ue) [(.long q3)]) (fun _ hr => XT.lload Xg.here hx rfl (hb hby at_27) rfl hr) ?_
    refine gsW Tg (mkF m 32 (lw11 q1 q2 q3 q4 q5 p1 uo ue) [(.long cMX), (.long q3)]) (Xg.ldc2Long hx hown (mvT hZ (tw hw 0 rfl)) (g := (mkF m 29 (lw11 q1 q2 q3 q4 q5 p1 uo ue) [(.long q3)])) rfl (hb hby at_29)) ?_
    refine gsW Tg (mkF m 33 (lw11 q1 q2 q3 q4 q5 p1 uo ue) [(.long (q3 &&& cMX))]) (fun _ hr => XT.land Xg.here hx rfl (hb hby at_32) rfl hr) ?_
    refine gsW Tg (mkF m 35 (lw12 q1 q2 q3 q4 q5 p1 uo ue (q3 &&& cMX)) []) (fun _ hr => XT.lstore Xg.here hx rfl (hb hby at_33) rfl (l' := (lw12 q1 q2 q3 q4 q5 p1 uo ue (q3 &&& cMX))) rfl hr) ?_
    refine gsW Tg (mkF m 37 (lw12 q1 q2 q3 q4 q5 p1 uo ue (q3 &&& cMX)) [(.long q4)]) (fun _ hr => XT.lload Xg.here hx rfl (hb hby at_35) rfl hr) ?_
    refine gsW Tg (mkF m 40 (lw12 q1 q2 q3 q4 q5 p1 uo ue (q3 &&& cMX)) [(.long cMX), (.long q4)]) (Xg.ldc2Long hx hown (mvT hZ (tw hw 0 rfl)) (g := (mkF m 37 (lw12 q1 q2 q3 q4 q5 p1 uo ue (q3 &&& cMX)) [(.long q4)])) rfl (hb hby at_37)) ?_
    refine gsW Tg (mkF m 41 (lw12 q1 q2 q3 q4 q5 p1 uo ue (q3 &&& cMX)) [(.long (q4 &&& cMX))]) (fun _ hr => XT.land Xg.here hx rfl (hb hby at_40) rfl hr) ?_
    refine gsW Tg (mkF m 43 (lw13 q1 q2 q3 q4 q5 p1 uo ue (q3 &&& cMX) (q4 &&& cMX)) []) (fun _ hr => XT.lstore Xg.here hx rfl (hb hby at_41) rfl (l' := (lw13 q1 q2 q3 q4 q5 p1 uo ue (q3 &&& cMX) (q4 &&& cMX))) rfl hr) ?_
    refine gsW Tg (mkF m 45 (lw13 q1 q2 q3 q4 q5 p1 uo ue (q3 &&& cMX) (q4 &&& cMX)) [(.int p1)]) (fun _ hr => XS.iload Xg.here hx rfl (hb hby at_43) rfl  hr) ?_
    refine gsW Tg (mkF m 46 (lw13 q1 q2 q3 q4 q5 p1 uo ue (q3 &&& cMX) (q4 &&& cMX)) [(.int (1 : Int32)), (.int p1)]) (fun _ hr => XS.iconst Xg.here hx rfl (hb hby at_45) hr) ?_
    refine gsW Tg (mkF m 47 (lw13 q1 q2 q3 q4 q5 p1 uo ue (q3 &&& cMX) (q4 &&& cMX)) [(.int (p1 &&& (1 : Int32)))]) (fun _ hr => XS.iand Xg.here hx rfl (hb hby at_46) rfl hr) ?_
    by_cases hc47_526 : (p1 &&& (1 : Int32)) = (0 : Int32)
    · refine gsW Tg (mkF m 54 (lw13 q1 q2 q3 q4 q5 p1 uo ue (q3 &&& cMX) (q4 &&& cMX)) []) (fun _ hr => XS.ifYes Xg.here hx rfl (pc0 := 47) (pc' := 54) rfl (hb hby at_47) rfl ((if0 _ _).trans (teq hc47_526).1) (by decide) (by decide) hr) ?_
      refine gsW Tg (mkF m 55 (lw13 q1 q2 q3 q4 q5 p1 uo ue (q3 &&& cMX) (q4 &&& cMX)) [(.int (0 : Int32))]) (fun _ hr => XS.iconst Xg.here hx rfl (hb hby at_54) hr) ?_
      refine gsW Tg (mkF m 57 (lw10 q1 q2 q3 q4 q5 p1 uo ue (q3 &&& cMX) (q4 &&& cMX) 0) []) (fun _ hr => XS.istore Xg.here hx rfl (hb hby at_55) rfl (l' := (lw10 q1 q2 q3 q4 q5 p1 uo ue (q3 &&& cMX) (q4 &&& cMX) 0)) rfl hr) ?_
      exact SEG57 Tg hg _ uo ue (q3 &&& cMX) (q4 &&& cMX) (0 : Int32) (Xg.more (by decide) (by decide)) eg Ng Kg ho he (own_pos q3) (own_pos q4) (Or.inl rfl)
    · refine gsW Tg (mkF m 50 (lw13 q1 q2 q3 q4 q5 p1 uo ue (q3 &&& cMX) (q4 &&& cMX)) []) (fun _ hr => XS.ifNo Xg.here hx rfl (hb hby at_47) rfl ((if0 _ _).trans (feq hc47_526).1) hr) ?_
      refine gsW Tg (mkF m 51 (lw13 q1 q2 q3 q4 q5 p1 uo ue (q3 &&& cMX) (q4 &&& cMX)) [(.int (1 : Int32))]) (fun _ hr => XS.iconst Xg.here hx rfl (hb hby at_50) hr) ?_
      refine gsW Tg (mkF m 55 (lw13 q1 q2 q3 q4 q5 p1 uo ue (q3 &&& cMX) (q4 &&& cMX)) [(.int (1 : Int32))]) (fun _ hr => XS.goto Xg.here hx rfl (pc0 := 51) (pc' := 55) rfl (hb hby at_51) (by decide) (by decide) hr) ?_
      refine gsW Tg (mkF m 57 (lw10 q1 q2 q3 q4 q5 p1 uo ue (q3 &&& cMX) (q4 &&& cMX) 1) []) (fun _ hr => XS.istore Xg.here hx rfl (hb hby at_55) rfl (l' := (lw10 q1 q2 q3 q4 q5 p1 uo ue (q3 &&& cMX) (q4 &&& cMX) 1)) rfl hr) ?_
      exact SEG57 Tg hg _ uo ue (q3 &&& cMX) (q4 &&& cMX) (1 : Int32) (Xg.more (by decide) (by decide)) eg Ng Kg ho he (own_pos q3) (own_pos q4) (Or.inr rfl)
  refine gsW s₁ (mkF m 1 (lw14 q1 q2 q3 q4 q5 p1) [(.long q1)]) (fun _ hr => XT.lloadN X0.here hx rfl (hb hby at_0) rfl hr) ?_
  refine gsW s₁ (mkF m 4 (lw14 q1 q2 q3 q4 q5 p1) [(.long cMX), (.long q1)]) (X0.ldc2Long hx hown (mvT hZ (tw hw 0 rfl)) (g := (mkF m 1 (lw14 q1 q2 q3 q4 q5 p1) [(.long q1)])) rfl (hb hby at_1)) ?_
  refine gsW s₁ (mkF m 5 (lw14 q1 q2 q3 q4 q5 p1) [(.long (q1 &&& cMX))]) (fun _ hr => XT.land X0.here hx rfl (hb hby at_4) rfl hr) ?_
  refine gsW s₁ (mkF m 7 (lw15 q1 q2 q3 q4 q5 p1 (q1 &&& cMX)) []) (fun _ hr => XT.lstore X0.here hx rfl (hb hby at_5) rfl (l' := (lw15 q1 q2 q3 q4 q5 p1 (q1 &&& cMX))) rfl hr) ?_
  refine gsW s₁ (mkF m 9 (lw15 q1 q2 q3 q4 q5 p1 (q1 &&& cMX)) [(.int p1)]) (fun _ hr => XS.iload X0.here hx rfl (hb hby at_7) rfl  hr) ?_
  refine gsW s₁ (mkF m 11 (lw15 q1 q2 q3 q4 q5 p1 (q1 &&& cMX)) [(.int (8 : Int32)), (.int p1)]) (fun _ hr => XS.bipush X0.here hx rfl (hb hby at_9) hr) ?_
  refine gsW s₁ (mkF m 12 (lw15 q1 q2 q3 q4 q5 p1 (q1 &&& cMX)) [(.int (p1 &&& (8 : Int32)))]) (fun _ hr => XS.iand X0.here hx rfl (hb hby at_11) rfl hr) ?_
  by_cases hc12_527 : (p1 &&& (8 : Int32)) = (0 : Int32)
  · refine gsW s₁ (mkF m 20 (lw15 q1 q2 q3 q4 q5 p1 (q1 &&& cMX)) []) (fun _ hr => XS.ifYes X0.here hx rfl (pc0 := 12) (pc' := 20) rfl (hb hby at_12) rfl ((if0 _ _).trans (teq hc12_527).1) (by decide) (by decide) hr) ?_
    refine gsW s₁ (mkF m 21 (lw15 q1 q2 q3 q4 q5 p1 (q1 &&& cMX)) [(.long q2)]) (fun _ hr => XT.lloadN X0.here hx rfl (hb hby at_20) rfl hr) ?_
    refine gsW s₁ (mkF m 24 (lw15 q1 q2 q3 q4 q5 p1 (q1 &&& cMX)) [(.long cMX), (.long q2)]) (X0.ldc2Long hx hown (mvT hZ (tw hw 0 rfl)) (g := (mkF m 21 (lw15 q1 q2 q3 q4 q5 p1 (q1 &&& cMX)) [(.long q2)])) rfl (hb hby at_21)) ?_
    refine gsW s₁ (mkF m 25 (lw15 q1 q2 q3 q4 q5 p1 (q1 &&& cMX)) [(.long (q2 &&& cMX))]) (fun _ hr => XT.land X0.here hx rfl (hb hby at_24) rfl hr) ?_
    refine gsW s₁ (mkF m 27 (lw11 q1 q2 q3 q4 q5 p1 (q1 &&& cMX) (q2 &&& cMX)) []) (fun _ hr => XT.lstore X0.here hx rfl (hb hby at_25) rfl (l' := (lw11 q1 q2 q3 q4 q5 p1 (q1 &&& cMX) (q2 &&& cMX))) rfl hr) ?_
    exact SEG27 s₁ h0 _ (q1 &&& cMX) (q2 &&& cMX) (X0.more (by decide) (by decide)) e0 N0 K0 (own_pos q1) (own_pos q2)
  · refine gsW s₁ (mkF m 15 (lw15 q1 q2 q3 q4 q5 p1 (q1 &&& cMX)) []) (fun _ hr => XS.ifNo X0.here hx rfl (hb hby at_12) rfl ((if0 _ _).trans (feq hc12_527).1) hr) ?_
    refine gsW s₁ (mkF m 17 (lw15 q1 q2 q3 q4 q5 p1 (q1 &&& cMX)) [(.long (q1 &&& cMX))]) (fun _ hr => XT.lload X0.here hx rfl (hb hby at_15) rfl hr) ?_
    refine gsW s₁ (mkF m 25 (lw15 q1 q2 q3 q4 q5 p1 (q1 &&& cMX)) [(.long (q1 &&& cMX))]) (fun _ hr => XS.goto X0.here hx rfl (pc0 := 17) (pc' := 25) rfl (hb hby at_17) (by decide) (by decide) hr) ?_
    refine gsW s₁ (mkF m 27 (lw11 q1 q2 q3 q4 q5 p1 (q1 &&& cMX) (q1 &&& cMX)) []) (fun _ hr => XT.lstore X0.here hx rfl (hb hby at_25) rfl (l' := (lw11 q1 q2 q3 q4 q5 p1 (q1 &&& cMX) (q1 &&& cMX))) rfl hr) ?_
    exact SEG27 s₁ h0 _ (q1 &&& cMX) (q1 &&& cMX) (X0.more (by decide) (by decide)) e0 N0 K0 (own_pos q1) (own_pos q1)
set_option maxRecDepth 65536 in
set_option maxHeartbeats 40000000 in
theorem comes_1 {Post : Tables → Env → Array Value → State → Outcome → State → Prop} (hpost : ∀ tb e args s v u, (limb_1_1.after args s (.returned v) u = true ∧ limb_1_2.after args s (.returned v) u = true ∧ True) → FramedW s (.returned v) u (Jvm.fieldLocs frame_1_writes args s ++ Jvm.arrayLocs frame_1_arrays args s ++ Jvm.staticLocs frame_1_statics s) 40 3200 → Post tb e args s (.returned v) u) :
    ArmFor flags0 classFile x code maxLocals ret World_1 tables_1 room_1 Calls_1 rest_1 Pre_1 Post := by
  intro l hfl _ _ p e ha hc hk s m args below hf hA hF happ hP
  obtain ⟨hcalls, hrest, hpre⟩ := hP
  obtain ⟨-, -, -, hnamed, -, -, -, hat⟩ := (Spec.applies_iff hf).mp happ
  obtain ⟨hg, hn⟩ := and_e (Cond.before_iff.mp (show (Jvm.Cond.and given_1 narrow_1).before args s = true from hpre))
  obtain ⟨g1, g2⟩ := and_e hg
  obtain ⟨g3, g4⟩ := and_e g2
  obtain ⟨g5, g6⟩ := and_e g4
  obtain ⟨g7, g8⟩ := and_e g6
  obtain ⟨g9, g10⟩ := and_e g8
  obtain ⟨g11, g12⟩ := and_e g10
  obtain ⟨w0, w1, w2, w3, w4, w5, rfl⟩ : ∃ w0 w1 w2 w3 w4 w5 : Value, args = #[w0, w1, w2, w3, w4, w5] := by
    have hs : args.size = 6 := by simpa [Cond.value, given_1] using g1
    obtain ⟨L⟩ := args
    match L, hs with
    | [w0, w1, w2, w3, w4, w5], _ => exact ⟨w0, w1, w2, w3, w4, w5, rfl⟩
  have hw := fun d (hd : d ∈ tables_1) => atoms_spec (ws := Cond.code x code maxLocals ret :: tables_1) hat d (List.mem_cons_of_mem _ hd)
  have hfit : Fit s := fun {y c} hc i hi => by
    obtain ⟨ha, rfl⟩ := Array.getElem?_eq_some_iff.mp hc
    have q := List.all_eq_true.mp ((Array.all_eq_true_iff_forall_mem.mp hF) _ (Array.getElem_mem ha)) i (List.mem_range.mpr hi)
    simpa [Array.getElem?_eq_getElem hi] using q
  obtain ⟨hsets, hown0⟩ := atoms_of _ (rest_1_c_eq ▸ (show rest_1_c.before _ s = true from hrest))
  have hr0 := Cond.before_iff.mp hown0
  obtain ⟨i0, ei0⟩ := isL_v g3
  obtain rfl : w0 = (.long i0) := Option.some.inj ei0
  obtain ⟨i1, ei1⟩ := isL_v g5
  obtain rfl : w1 = (.long i1) := Option.some.inj ei1
  obtain ⟨i2, ei2⟩ := isL_v g7
  obtain rfl : w2 = (.long i2) := Option.some.inj ei2
  obtain ⟨i3, ei3⟩ := isL_v g9
  obtain rfl : w3 = (.long i3) := Option.some.inj ei3
  obtain ⟨i4, ei4⟩ := isL_v g11
  obtain rfl : w4 = (.long i4) := Option.some.inj ei4
  obtain ⟨i5, ei5⟩ := is_v g12
  obtain rfl : w5 = (.int i5) := Option.some.inj ei5
  obtain ⟨em, ev_em⟩ := exa_v (Cond.before_iff.mp (hsets _ (List.mem_of_getElem? (i := 2) rfl)))
  have S_em := Sta.start ev_em (Or.inl (hsets _ (List.mem_of_getElem? (i := 1) rfl)))
  have E_em := Exa.start ev_em (Cond.before_iff.mp (hsets _ (List.mem_of_getElem? (i := 2) rfl)))
  have Fp_em := own_fint ev_em (Cond.before_iff.mp (hsets _ (List.mem_of_getElem? (i := 3) rfl)))
  have Fv_em := own_flong ev_em (Cond.before_iff.mp (hsets _ (List.mem_of_getElem? (i := 4) rfl)))
  obtain ⟨eo, ev_eo⟩ := exa_v (Cond.before_iff.mp (hsets _ (List.mem_of_getElem? (i := 7) rfl)))
  have S_eo := Sta.start ev_eo (Or.inl (hsets _ (List.mem_of_getElem? (i := 6) rfl)))
  have E_eo := Exa.start ev_eo (Cond.before_iff.mp (hsets _ (List.mem_of_getElem? (i := 7) rfl)))
  have Fv_eo := own_fnull ev_eo (Cond.before_iff.mp (hsets _ (List.mem_of_getElem? (i := 8) rfl)))
  obtain ⟨n, o, h1, h2, h3, _, L, rfl, ⟨rfl, N⟩, hq⟩ := rm_law l s _ hw tables_1 i0 i1 i2 i3 i4 i5 em eo s.heap s.heap.size (Nat.le_refl _) (Old.start s) S_em E_em Fp_em Fv_em S_eo E_eo Fv_eo p e ha hc hk s m _ below hf ((Spec.applies_iff_loose hf).mp happ).1 ⟨rfl, State.Warmed39.refl s, rfl⟩ trivial
  refine ⟨n, _, h1, h2, h3, hpost _ _ _ _ _ _ ⟨Cond.after_iff.mpr rfl, Cond.after_iff.mpr (eq_i res_at (Term.int_eval (1)) rfl), trivial⟩ ⟨hq.1, hq.2.1, hq.2.2.1, (hq.2.2.2.sift fun y hy => Or.inr (N y hy)).mono (by decide) (by decide)⟩⟩
theorem main_1_1 : Claimed_1_1 := comes_1 fun _ _ _ _ _ _ h hF => ⟨h.1, hF⟩
theorem main_1_2 : Claimed_1_2 := comes_1 fun _ _ _ _ _ _ h hF => ⟨h.2.1, hF⟩
end Jvm.Pilot.@@N@@
namespace Jvm.Pilot.@@N@@
open Jvm Jvm.ClassFile Sem Op Lib Jvm.Free Jvm.Stand Jvm.Pilot.@@N@@.Jvm.D
/-! MADE BY PROGRAM (witnessworld.py) out of the Statement's table words and the real class files: 25 classes; the members and pool entries that the words name. The judged class is class 1, her method 1. -/
namespace start1
open Jvm.ClassFile
def u (s : String) : CpInfo := .utf8 (stringToUtf16 s)
/-- a pool by its gaps: so many unusable entries, then the entry; so many at the end -/
def gap : Nat → List CpInfo → List CpInfo
  | 0, r => r
  | n + 1, r => .unusable :: gap n r
def poolList (es : List (Nat × CpInfo)) (last : Nat) : List CpInfo := es.foldr (fun e r => gap e.1 (e.2 :: r)) (gap last [])
def pool (es : List (Nat × CpInfo)) (last : Nat) : Array CpInfo := ⟨poolList es last⟩
def fileOf (pool : Array CpInfo) (this : Nat) (attrs : Array Attribute := #[]) (ms : Array MethodInfo := #[]) (fl : Nat := 33) (sup : Nat := 0) (ifs : Array Nat := #[]) (fds : Array FieldInfo := #[]) : ClassFile where
  minorVersion := 0
  majorVersion := 65
  constantPool := pool
  accessFlags := fl
  thisClass := this
  superClass := sup
  interfaces := ifs
  fields := fds
  methods := ms
  attributes := attrs
def plain (name : String) (sup : Option ClassId) : Class where
  name := name
  kind := .ordinary
  loader := none
  accessFlags := 33
  super := sup
  interfaces := #[]
  cf := none
  fields := #[]
  methods := #[]
  instanceTypes := #[]
  staticTypes := #[]
  resolved := #[]
  callSites := []
  init := .initialized
  statics := none
  mirror := none

def pool0 : Array CpInfo := pool [(5, u "<init>"), (0, u "()V"), (1, .class_ 10), (1, u "java/lang/Object")] 113

def k0c0 : Code := { maxStack := 0, maxLocals := 1, code := object_method_1_code, exceptionTable := #[], attributes := #[] }
def k0m0 : Method := { name := "<init>", desc := "()V", sig := { parameters := [], returnType := none }, accessFlags := 1, code := some k0c0 }
/-- java/lang/Object -/
def k0 : Class := { plain "java/lang/Object" none with
  accessFlags := 33
  interfaces := #[]
  cf := some (fileOf pool0 8 #[] #[{ accessFlags := 1, nameIndex := 5, descriptorIndex := 6, attributes := #[] }] 33 0 #[] #[])
  fields := #[]
  methods := #[k0m0]
  instanceTypes := #[]
  staticTypes := #[]
  resolved := Array.replicate 124 none
  statics := none }

def pool1 : Array CpInfo := pool [(2, .class_ 4), (1, u "java/lang/Object"), (0, u "<init>"), (0, u "()V"), (2, .long 9223372036854775807), (1, .methodref 12 13), (0, .class_ 14), (0, .nameAndType 15 16), (0, u "java/util/OptionalLong"), (0, u "of"), (0, u "(J)Ljava/util/OptionalLong;"), (0, .methodref 12 18), (0, .nameAndType 19 20), (0, u "empty"), (0, u "()Ljava/util/OptionalLong;"), (0, .class_ 22), (0, u "com/example/log_lag_gauge/loglaggauge/model/PositionLag$RecordsRead"), (0, .methodref 21 24), (0, .nameAndType 5 25), (0, u "(ZLjava/util/OptionalLong;Ljava/util/OptionalLong;J)V"), (0, .methodref 27 28), (0, .class_ 29), (0, .nameAndType 15 30), (0, u "java/util/Optional"), (0, u "(Ljava/lang/Object;)Ljava/util/Optional;"), (0, .methodref 27 32), (0, .nameAndType 19 33), (0, u "()Ljava/util/Optional;"), (0, .class_ 35), (0, u "com/example/log_lag_gauge/loglaggauge/model/PositionLag"), (0, .methodref 34 37), (0, .nameAndType 5 38), (0, u "(JJLjava/util/Optional;)V"), (0, .methodref 34 40), (0, .nameAndType 41 20), (0, u "ageMs"), (0, .methodref 12 43), (0, .nameAndType 44 45), (0, u "isPresent"), (0, u "()Z"), (0, .methodref 12 47), (0, .nameAndType 48 49), (0, u "getAsLong"), (0, u "()J"), (0, .methodref 12 51), (0, .nameAndType 52 45), (0, u "isEmpty"), (0, .class_ 54), (0, u "com/example/log_lag_gauge/loglaggauge/model/PositionLagAgeMsPinLaw"), (2, u "law"), (0, u "(JJJJJI)Z")] 5

def k1m0 : Method := { name := "<init>", desc := "()V", sig := { parameters := [], returnType := none }, accessFlags := 2, code := none }
def k1c1 : Code := { maxStack := 7, maxLocals := 31, code := code, exceptionTable := #[], attributes := #[] }
def k1m1 : Method := { name := "law", desc := "(JJJJJI)Z", sig := { parameters := [.long, .long, .long, .long, .long, .int], returnType := some .boolean }, accessFlags := 9, code := some k1c1 }
/-- com/example/log_lag_gauge/loglaggauge/model/PositionLagAgeMsPinLaw -/
def k1 : Class := { plain "com/example/log_lag_gauge/loglaggauge/model/PositionLagAgeMsPinLaw" (some 0) with
  accessFlags := 49
  interfaces := #[]
  cf := some (fileOf pool1 53 #[] #[{ accessFlags := 2, nameIndex := 5, descriptorIndex := 6, attributes := #[] }, { accessFlags := 9, nameIndex := 57, descriptorIndex := 58, attributes := #[] }] 49 2 #[] #[])
  fields := #[]
  methods := #[k1m0, k1m1]
  instanceTypes := #[]
  staticTypes := #[]
  resolved := Array.replicate 64 none
  statics := none }

def pool2 : Array CpInfo := pool [(1, .methodref 2 3), (0, .class_ 4), (0, .nameAndType 5 6), (0, u "java/lang/Object"), (0, u "<init>"), (0, u "()V"), (0, .fieldref 8 9), (0, .class_ 10), (0, .nameAndType 11 12), (0, u "java/util/OptionalLong"), (0, u "isPresent"), (0, u "Z"), (0, .fieldref 8 14), (0, .nameAndType 15 16), (0, u "value"), (0, u "J"), (0, .fieldref 8 18), (0, .nameAndType 19 20), (0, u "EMPTY"), (0, u "Ljava/util/OptionalLong;"), (0, .methodref 8 22), (0, .nameAndType 5 23), (0, u "(J)V"), (21, u "of"), (3, u "empty"), (5, u "getAsLong"), (0, u "()J"), (39, u "()Ljava/util/OptionalLong;"), (0, u "(J)Ljava/util/OptionalLong;"), (1, u "()Z"), (0, u "isEmpty"), (9, u "orElse"), (0, u "(J)J")] 26

def k2m0 : Method := { name := "<init>", desc := "()V", sig := { parameters := [], returnType := none }, accessFlags := 2, code := none }
def k2c1 : Code := { maxStack := 1, maxLocals := 0, code := jdk_2650_method_2_code, exceptionTable := #[], attributes := #[] }
def k2m1 : Method := { name := "empty", desc := "()Ljava/util/OptionalLong;", sig := { parameters := [], returnType := some (.object "java/util/OptionalLong") }, accessFlags := 9, code := some k2c1 }
def k2c2 : Code := { maxStack := 3, maxLocals := 3, code := jdk_2650_method_3_code, exceptionTable := #[], attributes := #[] }
def k2m2 : Method := { name := "<init>", desc := "(J)V", sig := { parameters := [.long], returnType := none }, accessFlags := 2, code := some k2c2 }
def k2c3 : Code := { maxStack := 4, maxLocals := 2, code := jdk_2650_method_4_code, exceptionTable := #[], attributes := #[] }
def k2m3 : Method := { name := "of", desc := "(J)Ljava/util/OptionalLong;", sig := { parameters := [.long], returnType := some (.object "java/util/OptionalLong") }, accessFlags := 9, code := some k2c3 }
def k2c4 : Code := { maxStack := 3, maxLocals := 1, code := jdk_2650_method_5_code, exceptionTable := #[], attributes := #[] }
def k2m4 : Method := { name := "getAsLong", desc := "()J", sig := { parameters := [], returnType := some .long }, accessFlags := 1, code := some k2c4 }
def k2c5 : Code := { maxStack := 1, maxLocals := 1, code := jdk_2650_method_6_code, exceptionTable := #[], attributes := #[] }
def k2m5 : Method := { name := "isPresent", desc := "()Z", sig := { parameters := [], returnType := some .boolean }, accessFlags := 1, code := some k2c5 }
def k2c6 : Code := { maxStack := 1, maxLocals := 1, code := jdk_2650_method_7_code, exceptionTable := #[], attributes := #[] }
def k2m6 : Method := { name := "isEmpty", desc := "()Z", sig := { parameters := [], returnType := some .boolean }, accessFlags := 1, code := some k2c6 }
def k2c7 : Code := { maxStack := 2, maxLocals := 3, code := jdk_2650_method_11_code, exceptionTable := #[], attributes := #[] }
def k2m7 : Method := { name := "orElse", desc := "(J)J", sig := { parameters := [.long], returnType := some .long }, accessFlags := 1, code := some k2c7 }
/-- java/util/OptionalLong -/
def k2 : Class := { plain "java/util/OptionalLong" (some 0) with
  accessFlags := 49
  interfaces := #[]
  cf := some (fileOf pool2 8 #[] #[{ accessFlags := 2, nameIndex := 5, descriptorIndex := 6, attributes := #[] }, { accessFlags := 9, nameIndex := 49, descriptorIndex := 96, attributes := #[] }, { accessFlags := 2, nameIndex := 5, descriptorIndex := 23, attributes := #[] }, { accessFlags := 9, nameIndex := 45, descriptorIndex := 97, attributes := #[] }, { accessFlags := 1, nameIndex := 55, descriptorIndex := 56, attributes := #[] }, { accessFlags := 1, nameIndex := 11, descriptorIndex := 99, attributes := #[] }, { accessFlags := 1, nameIndex := 100, descriptorIndex := 99, attributes := #[] }, { accessFlags := 1, nameIndex := 110, descriptorIndex := 111, attributes := #[] }] 49 2 #[] #[{ accessFlags := 26, nameIndex := 19, descriptorIndex := 20, attributes := #[] }, { accessFlags := 18, nameIndex := 11, descriptorIndex := 12, attributes := #[] }, { accessFlags := 18, nameIndex := 15, descriptorIndex := 16, attributes := #[] }])
  fields := #[{ name := "EMPTY", type := (.object "java/util/OptionalLong"), accessFlags := 26, slot := 0, constantValue := 0 }, { name := "isPresent", type := .boolean, accessFlags := 18, slot := 0, constantValue := 0 }, { name := "value", type := .long, accessFlags := 18, slot := 1, constantValue := 0 }]
  methods := #[k2m0, k2m1, k2m2, k2m3, k2m4, k2m5, k2m6, k2m7]
  instanceTypes := #[.boolean, .long]
  staticTypes := #[(.object "java/util/OptionalLong")]
  resolved := Array.replicate 138 none
  statics := some 0 }

def pool3 : Array CpInfo := pool [(1, .fieldref 2 3), (0, .class_ 4), (0, .nameAndType 5 6), (0, u "java/util/Optional"), (0, u "EMPTY"), (0, u "Ljava/util/Optional;"), (0, .methodref 8 9), (0, .class_ 10), (0, .nameAndType 11 12), (0, u "java/lang/Object"), (0, u "<init>"), (0, u "()V"), (0, .fieldref 2 14), (0, .nameAndType 15 16), (0, u "value"), (0, u "Ljava/lang/Object;"), (0, .methodref 18 19), (0, .class_ 20), (0, .nameAndType 21 22), (0, u "java/util/Objects"), (0, u "requireNonNull"), (0, u "(Ljava/lang/Object;)Ljava/lang/Object;"), (0, .methodref 2 24), (0, .nameAndType 11 25), (0, u "(Ljava/lang/Object;)V"), (17, .methodref 2 44), (0, .nameAndType 45 46), (0, u "isEmpty"), (0, u "()Z"), (0, .interfaceMethodref 48 49), (0, .class_ 50), (0, .nameAndType 51 52), (0, u "java/util/function/Predicate"), (0, u "test"), (0, u "(Ljava/lang/Object;)Z"), (0, .methodref 2 54), (0, .nameAndType 55 56), (0, u "empty"), (0, u "()Ljava/util/Optional;"), (0, .interfaceMethodref 58 59), (0, .class_ 60), (0, .nameAndType 61 22), (0, u "java/util/function/Function"), (0, u "apply"), (0, .methodref 2 63), (0, .nameAndType 64 65), (0, u "ofNullable"), (0, u "(Ljava/lang/Object;)Ljava/util/Optional;"), (2, u "isPresent"), (13, u "of"), (57, u "filter"), (0, u "(Ljava/util/function/Predicate;)Ljava/util/Optional;"), (4, u "map"), (0, u "(Ljava/util/function/Function;)Ljava/util/Optional;"), (17, u "orElse")] 21

def k3c0 : Code := { maxStack := 1, maxLocals := 1, code := jdk_32_method_1_code, exceptionTable := #[], attributes := #[] }
def k3m0 : Method := { name := "empty", desc := "()Ljava/util/Optional;", sig := { parameters := [], returnType := some (.object "java/util/Optional") }, accessFlags := 9, code := some k3c0 }
def k3c1 : Code := { maxStack := 2, maxLocals := 2, code := jdk_32_method_2_code, exceptionTable := #[], attributes := #[] }
def k3m1 : Method := { name := "<init>", desc := "(Ljava/lang/Object;)V", sig := { parameters := [(.object "java/lang/Object")], returnType := none }, accessFlags := 2, code := some k3c1 }
def k3c2 : Code := { maxStack := 3, maxLocals := 1, code := jdk_32_method_3_code, exceptionTable := #[], attributes := #[] }
def k3m2 : Method := { name := "of", desc := "(Ljava/lang/Object;)Ljava/util/Optional;", sig := { parameters := [(.object "java/lang/Object")], returnType := some (.object "java/util/Optional") }, accessFlags := 9, code := some k3c2 }
def k3c3 : Code := { maxStack := 3, maxLocals := 1, code := jdk_32_method_4_code, exceptionTable := #[], attributes := #[] }
def k3m3 : Method := { name := "ofNullable", desc := "(Ljava/lang/Object;)Ljava/util/Optional;", sig := { parameters := [(.object "java/lang/Object")], returnType := some (.object "java/util/Optional") }, accessFlags := 9, code := some k3c3 }
def k3c4 : Code := { maxStack := 1, maxLocals := 1, code := jdk_32_method_6_code, exceptionTable := #[], attributes := #[] }
def k3m4 : Method := { name := "isPresent", desc := "()Z", sig := { parameters := [], returnType := some .boolean }, accessFlags := 1, code := some k3c4 }
def k3c5 : Code := { maxStack := 1, maxLocals := 1, code := jdk_32_method_7_code, exceptionTable := #[], attributes := #[] }
def k3m5 : Method := { name := "isEmpty", desc := "()Z", sig := { parameters := [], returnType := some .boolean }, accessFlags := 1, code := some k3c5 }
def k3c6 : Code := { maxStack := 2, maxLocals := 2, code := jdk_32_method_10_code, exceptionTable := #[], attributes := #[] }
def k3m6 : Method := { name := "filter", desc := "(Ljava/util/function/Predicate;)Ljava/util/Optional;", sig := { parameters := [(.object "java/util/function/Predicate")], returnType := some (.object "java/util/Optional") }, accessFlags := 1, code := some k3c6 }
def k3c7 : Code := { maxStack := 2, maxLocals := 2, code := jdk_32_method_11_code, exceptionTable := #[], attributes := #[] }
def k3m7 : Method := { name := "map", desc := "(Ljava/util/function/Function;)Ljava/util/Optional;", sig := { parameters := [(.object "java/util/function/Function")], returnType := some (.object "java/util/Optional") }, accessFlags := 1, code := some k3c7 }
def k3c8 : Code := { maxStack := 1, maxLocals := 2, code := jdk_32_method_15_code, exceptionTable := #[], attributes := #[] }
def k3m8 : Method := { name := "orElse", desc := "(Ljava/lang/Object;)Ljava/lang/Object;", sig := { parameters := [(.object "java/lang/Object")], returnType := some (.object "java/lang/Object") }, accessFlags := 1, code := some k3c8 }
/-- java/util/Optional -/
def k3 : Class := { plain "java/util/Optional" (some 0) with
  accessFlags := 49
  interfaces := #[]
  cf := some (fileOf pool3 2 #[] #[{ accessFlags := 9, nameIndex := 55, descriptorIndex := 56, attributes := #[] }, { accessFlags := 2, nameIndex := 11, descriptorIndex := 25, attributes := #[] }, { accessFlags := 9, nameIndex := 82, descriptorIndex := 65, attributes := #[] }, { accessFlags := 9, nameIndex := 64, descriptorIndex := 65, attributes := #[] }, { accessFlags := 1, nameIndex := 68, descriptorIndex := 46, attributes := #[] }, { accessFlags := 1, nameIndex := 45, descriptorIndex := 46, attributes := #[] }, { accessFlags := 1, nameIndex := 140, descriptorIndex := 141, attributes := #[] }, { accessFlags := 1, nameIndex := 146, descriptorIndex := 147, attributes := #[] }, { accessFlags := 1, nameIndex := 165, descriptorIndex := 22, attributes := #[] }] 49 8 #[] #[{ accessFlags := 26, nameIndex := 5, descriptorIndex := 6, attributes := #[] }, { accessFlags := 18, nameIndex := 15, descriptorIndex := 16, attributes := #[] }])
  fields := #[{ name := "EMPTY", type := (.object "java/util/Optional"), accessFlags := 26, slot := 0, constantValue := 0 }, { name := "value", type := (.object "java/lang/Object"), accessFlags := 18, slot := 0, constantValue := 0 }]
  methods := #[k3m0, k3m1, k3m2, k3m3, k3m4, k3m5, k3m6, k3m7, k3m8]
  instanceTypes := #[(.object "java/lang/Object")]
  staticTypes := #[(.object "java/util/Optional")]
  resolved := Array.replicate 187 none
  statics := some 1 }

def pool4 : Array CpInfo := pool [(1, .methodref 2 3), (0, .class_ 4), (0, .nameAndType 5 6), (0, u "java/lang/Object"), (0, u "<init>"), (0, u "()V"), (0, .class_ 8), (0, u "java/lang/Record")] 13

def k4c0 : Code := { maxStack := 1, maxLocals := 1, code := jdk_30_method_1_code, exceptionTable := #[], attributes := #[] }
def k4m0 : Method := { name := "<init>", desc := "()V", sig := { parameters := [], returnType := none }, accessFlags := 4, code := some k4c0 }
/-- java/lang/Record -/
def k4 : Class := { plain "java/lang/Record" (some 0) with
  accessFlags := 1057
  interfaces := #[]
  cf := some (fileOf pool4 7 #[] #[{ accessFlags := 4, nameIndex := 5, descriptorIndex := 6, attributes := #[] }] 1057 2 #[] #[])
  fields := #[]
  methods := #[k4m0]
  instanceTypes := #[]
  staticTypes := #[]
  resolved := Array.replicate 22 none
  statics := none }

def pool5 : Array CpInfo := pool [(1, .methodref 2 3), (0, .class_ 4), (0, .nameAndType 5 6), (0, u "java/lang/Record"), (0, u "<init>"), (0, u "()V"), (0, .string 8), (0, u "records"), (0, .methodref 10 11), (0, .class_ 12), (0, .nameAndType 13 14), (0, u "java/util/Objects"), (0, u "requireNonNull"), (0, u "(Ljava/lang/Object;Ljava/lang/String;)Ljava/lang/Object;"), (0, .fieldref 16 17), (0, .class_ 18), (0, .nameAndType 19 20), (0, u "com/example/log_lag_gauge/loglaggauge/model/PositionLag"), (0, u "offset"), (0, u "J"), (0, .fieldref 16 22), (0, .nameAndType 23 20), (0, u "end"), (0, .fieldref 16 25), (0, .nameAndType 8 26), (0, u "Ljava/util/Optional;"), (0, .class_ 28), (0, u "com/example/log_lag_gauge/loglaggauge/model/PositionLag$RecordsRead"), (4, .class_ 35), (1, u "java/util/Optional"), (0, u "of"), (3, u "(JJLjava/util/Optional;)V"), (0, .methodref 42 43), (0, .class_ 44), (0, .nameAndType 36 45), (0, u "java/util/OptionalLong"), (0, u "(J)Ljava/util/OptionalLong;"), (0, .methodref 47 48), (0, .class_ 49), (0, .nameAndType 50 51), (0, u "com/example/log_lag_gauge/loglaggauge/model/Trailing"), (0, u "offsets"), (0, u "(Ljava/util/OptionalLong;Ljava/util/OptionalLong;)Ljava/util/OptionalLong;"), (0, .methodref 42 53), (0, .nameAndType 54 55), (0, u "isPresent"), (0, u "()Z"), (0, .invokeDynamic 0 57), (0, .nameAndType 58 59), (0, u "test"), (0, u "()Ljava/util/function/Predicate;"), (0, .methodref 33 61), (0, .nameAndType 62 63), (0, u "filter"), (0, u "(Ljava/util/function/Predicate;)Ljava/util/Optional;"), (0, .methodref 33 53), (1, .nameAndType 67 68), (0, u "apply"), (0, u "(Lcom/example/log_lag_gauge/loglaggauge/model/PositionLag;)Ljava/util/function/Function;"), (0, .methodref 33 70), (0, .nameAndType 71 72), (0, u "map"), (0, u "(Ljava/util/function/Function;)Ljava/util/Optional;"), (0, .methodref 42 74), (0, .nameAndType 75 76), (0, u "empty"), (0, u "()Ljava/util/OptionalLong;"), (0, .methodref 33 78), (0, .nameAndType 79 80), (0, u "orElse"), (0, u "(Ljava/lang/Object;)Ljava/lang/Object;"), (0, .invokeDynamic 2 66), (0, .methodref 16 83), (0, .nameAndType 84 76), (0, u "lag"), (0, .methodref 42 86), (0, .nameAndType 87 55), (0, u "isEmpty"), (0, .methodref 42 89), (0, .nameAndType 90 91), (0, u "getAsLong"), (0, u "()J"), (0, .methodref 27 93), (0, .nameAndType 94 76), (0, u "firstUnreadTimestamp"), (0, .methodref 47 96), (0, .nameAndType 97 51), (0, u "ms"), (0, .methodref 42 99), (0, .nameAndType 79 100), (0, u "(J)J"), (0, .methodref 27 102), (0, .nameAndType 103 91), (0, u "lookedAt"), (0, .methodref 16 105), (0, .nameAndType 106 107), (0, u "behindFirstUnread"), (0, u "(Lcom/example/log_lag_gauge/loglaggauge/model/PositionLag$RecordsRead;Ljava/util/OptionalLong;)Ljava/util/OptionalLong;"), (24, u "ageMs"), (2, u "(Ljava/lang/Object;)Z"), (2, u "lambda$ageMs$1"), (0, u "(Lcom/example/log_lag_gauge/loglaggauge/model/PositionLag$RecordsRead;)Ljava/util/OptionalLong;"), (6, .methodType 135), (0, .methodHandle 5 148), (0, .methodref 27 149), (0, .nameAndType 150 55), (0, u "onlyMarkersLeft"), (0, .methodType 152), (0, u "(Lcom/example/log_lag_gauge/loglaggauge/model/PositionLag$RecordsRead;)Z"), (0, .methodType 80), (3, .methodType 139), (0, .methodHandle 5 159), (0, .methodref 16 160), (0, .nameAndType 138 139), (5, .methodHandle 6 167), (0, .methodref 168 169), (0, .class_ 170), (0, .nameAndType 171 172), (0, u "java/lang/invoke/LambdaMetafactory"), (0, u "metafactory"), (0, u "(Ljava/lang/invoke/MethodHandles$Lookup;Ljava/lang/String;Ljava/lang/invoke/MethodType;Ljava/lang/invoke/MethodType;Ljava/lang/invoke/MethodHandle;Ljava/lang/invoke/MethodType;)Ljava/lang/invoke/CallSite;")] 14

def k5c0 : Code := { maxStack := 3, maxLocals := 6, code := prog_13_method_1_code, exceptionTable := #[], attributes := #[] }
def k5m0 : Method := { name := "<init>", desc := "(JJLjava/util/Optional;)V", sig := { parameters := [.long, .long, (.object "java/util/Optional")], returnType := none }, accessFlags := 1, code := some k5c0 }
def k5c1 : Code := { maxStack := 3, maxLocals := 3, code := prog_13_method_3_code, exceptionTable := #[], attributes := #[] }
def k5m1 : Method := { name := "lag", desc := "()Ljava/util/OptionalLong;", sig := { parameters := [], returnType := some (.object "java/util/OptionalLong") }, accessFlags := 1, code := some k5c1 }
def k5c2 : Code := { maxStack := 2, maxLocals := 1, code := prog_13_method_5_code, exceptionTable := #[], attributes := #[] }
def k5m2 : Method := { name := "ageMs", desc := "()Ljava/util/OptionalLong;", sig := { parameters := [], returnType := some (.object "java/util/OptionalLong") }, accessFlags := 1, code := some k5c2 }
def k5c3 : Code := { maxStack := 4, maxLocals := 5, code := prog_13_method_6_code, exceptionTable := #[], attributes := #[] }
def k5m3 : Method := { name := "behindFirstUnread", desc := "(Lcom/example/log_lag_gauge/loglaggauge/model/PositionLag$RecordsRead;Ljava/util/OptionalLong;)Ljava/util/OptionalLong;", sig := { parameters := [(.object "com/example/log_lag_gauge/loglaggauge/model/PositionLag$RecordsRead"), (.object "java/util/OptionalLong")], returnType := some (.object "java/util/OptionalLong") }, accessFlags := 2, code := some k5c3 }
def k5c4 : Code := { maxStack := 4, maxLocals := 2, code := prog_13_method_13_code, exceptionTable := #[], attributes := #[] }
def k5m4 : Method := { name := "lambda$ageMs$1", desc := "(Lcom/example/log_lag_gauge/loglaggauge/model/PositionLag$RecordsRead;)Ljava/util/OptionalLong;", sig := { parameters := [(.object "com/example/log_lag_gauge/loglaggauge/model/PositionLag$RecordsRead")], returnType := some (.object "java/util/OptionalLong") }, accessFlags := 4098, code := some k5c4 }
/-- com/example/log_lag_gauge/loglaggauge/model/PositionLag -/
def k5 : Class := { plain "com/example/log_lag_gauge/loglaggauge/model/PositionLag" (some 4) with
  accessFlags := 49
  interfaces := #[]
  cf := some (fileOf pool5 16 #[.nestMembers #[27], .bootstrapMethods #[⟨166, #[146, 147, 151]⟩, ⟨0, #[]⟩, ⟨166, #[153, 158, 157]⟩, ⟨0, #[]⟩]] #[{ accessFlags := 1, nameIndex := 5, descriptorIndex := 40, attributes := #[] }, { accessFlags := 1, nameIndex := 84, descriptorIndex := 76, attributes := #[] }, { accessFlags := 1, nameIndex := 132, descriptorIndex := 76, attributes := #[] }, { accessFlags := 2, nameIndex := 106, descriptorIndex := 107, attributes := #[] }, { accessFlags := 4098, nameIndex := 138, descriptorIndex := 139, attributes := #[] }] 49 2 #[] #[{ accessFlags := 18, nameIndex := 19, descriptorIndex := 20, attributes := #[] }, { accessFlags := 18, nameIndex := 23, descriptorIndex := 20, attributes := #[] }, { accessFlags := 18, nameIndex := 8, descriptorIndex := 26, attributes := #[] }])
  fields := #[{ name := "offset", type := .long, accessFlags := 18, slot := 0, constantValue := 0 }, { name := "end", type := .long, accessFlags := 18, slot := 1, constantValue := 0 }, { name := "records", type := (.object "java/util/Optional"), accessFlags := 18, slot := 2, constantValue := 0 }]
  methods := #[k5m0, k5m1, k5m2, k5m3, k5m4]
  instanceTypes := #[.long, .long, (.object "java/util/Optional")]
  staticTypes := #[]
  resolved := Array.replicate 187 none
  callSites := [(2, 5, .makes 23), (1, 29, .constant 2)]
  statics := none }

def pool6 : Array CpInfo := pool [(1, .class_ 2), (0, u "java/io/Serializable"), (0, .class_ 4), (0, u "java/lang/Object")] 2

/-- java/io/Serializable -/
def k6 : Class := { plain "java/io/Serializable" (some 0) with
  accessFlags := 1537
  interfaces := #[]
  cf := some (fileOf pool6 1 #[] #[] 1537 3 #[] #[])
  fields := #[]
  methods := #[]
  instanceTypes := #[]
  staticTypes := #[]
  resolved := Array.replicate 7 none
  statics := none }

def pool7 : Array CpInfo := pool [(1, .class_ 2), (0, u "java/lang/Comparable"), (0, .class_ 4), (0, u "java/lang/Object")] 7

/-- java/lang/Comparable -/
def k7 : Class := { plain "java/lang/Comparable" (some 0) with
  accessFlags := 1537
  interfaces := #[]
  cf := some (fileOf pool7 1 #[] #[] 1537 3 #[] #[])
  fields := #[]
  methods := #[]
  instanceTypes := #[]
  staticTypes := #[]
  resolved := Array.replicate 12 none
  statics := none }

def pool8 : Array CpInfo := pool [(2, .class_ 4), (1, u "java/lang/CharSequence"), (42, .class_ 48), (0, u "java/lang/CharSequence$1CodePointIterator"), (10, .class_ 60), (0, u "java/lang/CharSequence$1CharIterator"), (5, .class_ 67), (0, u "java/lang/Object")] 63

/-- java/lang/CharSequence -/
def k8 : Class := { plain "java/lang/CharSequence" (some 0) with
  accessFlags := 1537
  interfaces := #[]
  cf := some (fileOf pool8 2 #[.nestMembers #[47, 59]] #[] 1537 66 #[] #[])
  fields := #[]
  methods := #[]
  instanceTypes := #[]
  staticTypes := #[]
  resolved := Array.replicate 131 none
  statics := none }

def pool9 : Array CpInfo := pool [(1, .class_ 2), (0, u "java/lang/constant/Constable"), (0, .class_ 4), (0, u "java/lang/Object")] 6

/-- java/lang/constant/Constable -/
def k9 : Class := { plain "java/lang/constant/Constable" (some 0) with
  accessFlags := 1537
  interfaces := #[]
  cf := some (fileOf pool9 1 #[] #[] 1537 3 #[] #[])
  fields := #[]
  methods := #[]
  instanceTypes := #[]
  staticTypes := #[]
  resolved := Array.replicate 11 none
  statics := none }

def pool10 : Array CpInfo := pool [(1, .class_ 2), (0, u "java/lang/constant/ConstantDesc"), (0, .class_ 4), (0, u "java/lang/Object")] 32

/-- java/lang/constant/ConstantDesc -/
def k10 : Class := { plain "java/lang/constant/ConstantDesc" (some 0) with
  accessFlags := 1537
  interfaces := #[]
  cf := some (fileOf pool10 1 #[] #[] 1537 3 #[] #[])
  fields := #[]
  methods := #[]
  instanceTypes := #[]
  staticTypes := #[]
  resolved := Array.replicate 37 none
  statics := none }

def pool11 : Array CpInfo := pool [(2, .class_ 4), (1, u "java/lang/Object"), (0, u "<init>"), (0, u "()V"), (3, .class_ 12), (1, u "java/lang/String"), (0, u "value"), (0, u "[B"), (2, u "coder"), (0, u "B"), (2, u "hash"), (0, u "I"), (2, u "hashIsZero"), (0, u "Z"), (13, u "COMPACT_STRINGS"), (534, .class_ 576), (0, u "java/lang/CharSequence"), (22, u "CASE_INSENSITIVE_ORDER"), (0, u "Ljava/util/Comparator;"), (500, u "serialPersistentFields"), (0, u "[Ljava/io/ObjectStreamField;"), (0, .class_ 1104), (0, u "java/lang/String$CaseInsensitiveComparator"), (1, .class_ 1107), (0, u "java/io/Serializable"), (0, .class_ 1109), (0, u "java/lang/Comparable"), (0, .class_ 1111), (0, u "java/lang/constant/Constable"), (0, .class_ 1113), (0, u "java/lang/constant/ConstantDesc"), (2, u "serialVersionUID"), (0, u "J"), (3, u "REPL"), (0, u "C"), (2, u "LATIN1"), (1, u "UTF16")] 323

def k11m0 : Method := { name := "<init>", desc := "()V", sig := { parameters := [], returnType := none }, accessFlags := 1, code := none }
/-- java/lang/String -/
def k11 : Class := { plain "java/lang/String" (some 0) with
  accessFlags := 49
  interfaces := #[6, 7, 8, 9, 10]
  cf := some (fileOf pool11 10 #[.nestMembers #[1103]] #[{ accessFlags := 1, nameIndex := 5, descriptorIndex := 6, attributes := #[] }] 49 2 #[1106, 1108, 575, 1110, 1112] #[{ accessFlags := 18, nameIndex := 13, descriptorIndex := 14, attributes := #[] }, { accessFlags := 18, nameIndex := 17, descriptorIndex := 18, attributes := #[] }, { accessFlags := 2, nameIndex := 21, descriptorIndex := 22, attributes := #[] }, { accessFlags := 2, nameIndex := 25, descriptorIndex := 26, attributes := #[] }, { accessFlags := 26, nameIndex := 1116, descriptorIndex := 1117, attributes := #[] }, { accessFlags := 24, nameIndex := 40, descriptorIndex := 26, attributes := #[] }, { accessFlags := 26, nameIndex := 1101, descriptorIndex := 1102, attributes := #[] }, { accessFlags := 26, nameIndex := 1121, descriptorIndex := 1122, attributes := #[] }, { accessFlags := 25, nameIndex := 599, descriptorIndex := 600, attributes := #[] }, { accessFlags := 24, nameIndex := 1125, descriptorIndex := 18, attributes := #[] }, { accessFlags := 24, nameIndex := 1127, descriptorIndex := 18, attributes := #[] }])
  fields := #[{ name := "value", type := (.array .byte), accessFlags := 18, slot := 0, constantValue := 0 }, { name := "coder", type := .byte, accessFlags := 18, slot := 1, constantValue := 0 }, { name := "hash", type := .int, accessFlags := 2, slot := 2, constantValue := 0 }, { name := "hashIsZero", type := .boolean, accessFlags := 2, slot := 3, constantValue := 0 }, { name := "serialVersionUID", type := .long, accessFlags := 26, slot := 0, constantValue := 0 }, { name := "COMPACT_STRINGS", type := .boolean, accessFlags := 24, slot := 1, constantValue := 0 }, { name := "serialPersistentFields", type := (.array (.object "java/io/ObjectStreamField")), accessFlags := 26, slot := 2, constantValue := 0 }, { name := "REPL", type := .char, accessFlags := 26, slot := 3, constantValue := 0 }, { name := "CASE_INSENSITIVE_ORDER", type := (.object "java/util/Comparator"), accessFlags := 25, slot := 4, constantValue := 0 }, { name := "LATIN1", type := .byte, accessFlags := 24, slot := 5, constantValue := 0 }, { name := "UTF16", type := .byte, accessFlags := 24, slot := 6, constantValue := 0 }]
  methods := #[k11m0]
  instanceTypes := #[(.array .byte), .byte, .int, .boolean]
  staticTypes := #[.long, .boolean, (.array (.object "java/io/ObjectStreamField")), .char, (.object "java/util/Comparator"), .byte, .byte]
  resolved := Array.replicate 1451 none
  statics := none }

def pool12 : Array CpInfo := pool [(2, .class_ 4), (1, u "java/lang/Object"), (0, u "<init>"), (0, u "()V"), (35, .class_ 44), (1, u "java/util/Objects"), (0, u "requireNonNull"), (0, u "(Ljava/lang/Object;)Ljava/lang/Object;"), (47, u "(Ljava/lang/Object;Ljava/lang/String;)Ljava/lang/Object;")] 89

def k12m0 : Method := { name := "<init>", desc := "()V", sig := { parameters := [], returnType := none }, accessFlags := 2, code := none }
def k12c1 : Code := { maxStack := 2, maxLocals := 1, code := jdk_31_method_10_code, exceptionTable := #[], attributes := #[] }
def k12m1 : Method := { name := "requireNonNull", desc := "(Ljava/lang/Object;)Ljava/lang/Object;", sig := { parameters := [(.object "java/lang/Object")], returnType := some (.object "java/lang/Object") }, accessFlags := 9, code := some k12c1 }
def k12c2 : Code := { maxStack := 3, maxLocals := 2, code := jdk_31_method_11_code, exceptionTable := #[], attributes := #[] }
def k12m2 : Method := { name := "requireNonNull", desc := "(Ljava/lang/Object;Ljava/lang/String;)Ljava/lang/Object;", sig := { parameters := [(.object "java/lang/Object"), (.object "java/lang/String")], returnType := some (.object "java/lang/Object") }, accessFlags := 9, code := some k12c2 }
/-- java/util/Objects -/
def k12 : Class := { plain "java/util/Objects" (some 0) with
  accessFlags := 49
  interfaces := #[]
  cf := some (fileOf pool12 42 #[] #[{ accessFlags := 2, nameIndex := 5, descriptorIndex := 6, attributes := #[] }, { accessFlags := 9, nameIndex := 45, descriptorIndex := 46, attributes := #[] }, { accessFlags := 9, nameIndex := 45, descriptorIndex := 94, attributes := #[] }] 49 2 #[] #[])
  fields := #[]
  methods := #[k12m0, k12m1, k12m2]
  instanceTypes := #[]
  staticTypes := #[]
  resolved := Array.replicate 184 none
  statics := none }

def pool13 : Array CpInfo := pool [(6, u "(Ljava/lang/Object;)Ljava/lang/Object;"), (2, u "apply"), (6, .class_ 18), (1, u "java/util/function/Function"), (0, .class_ 20), (0, u "java/lang/Object")] 56

def k13m0 : Method := { name := "apply", desc := "(Ljava/lang/Object;)Ljava/lang/Object;", sig := { parameters := [(.object "java/lang/Object")], returnType := some (.object "java/lang/Object") }, accessFlags := 1025, code := none }
/-- java/util/function/Function -/
def k13 : Class := { plain "java/util/function/Function" (some 0) with
  accessFlags := 1537
  interfaces := #[]
  cf := some (fileOf pool13 16 #[] #[{ accessFlags := 1025, nameIndex := 9, descriptorIndex := 6, attributes := #[] }] 1537 19 #[] #[])
  fields := #[]
  methods := #[k13m0]
  instanceTypes := #[]
  staticTypes := #[]
  resolved := Array.replicate 77 none
  statics := none }

def pool14 : Array CpInfo := pool [(1, .methodref 2 3), (0, .class_ 4), (0, .nameAndType 5 6), (0, u "java/lang/Record"), (0, u "<init>"), (0, u "()V"), (0, .string 8), (0, u "firstUnreadTimestamp"), (0, .methodref 10 11), (0, .class_ 12), (0, .nameAndType 13 14), (0, u "java/util/Objects"), (0, u "requireNonNull"), (0, u "(Ljava/lang/Object;Ljava/lang/String;)Ljava/lang/Object;"), (0, .string 16), (0, u "newestTimestamp"), (0, .fieldref 18 19), (0, .class_ 20), (0, .nameAndType 21 22), (0, u "com/example/log_lag_gauge/loglaggauge/model/PositionLag$RecordsRead"), (0, u "onlyMarkersLeft"), (0, u "Z"), (0, .fieldref 18 24), (0, .nameAndType 8 25), (0, u "Ljava/util/OptionalLong;"), (0, .fieldref 18 27), (0, .nameAndType 16 25), (0, .fieldref 18 29), (0, .nameAndType 30 31), (0, u "lookedAt"), (0, u "J"), (12, u "(ZLjava/util/OptionalLong;Ljava/util/OptionalLong;J)V"), (6, u "()Z"), (0, u "()Ljava/util/OptionalLong;"), (0, u "()J"), (3, .class_ 58), (0, u "com/example/log_lag_gauge/loglaggauge/model/PositionLag")] 22

def k14c0 : Code := { maxStack := 3, maxLocals := 6, code := prog_14_method_1_code, exceptionTable := #[], attributes := #[] }
def k14m0 : Method := { name := "<init>", desc := "(ZLjava/util/OptionalLong;Ljava/util/OptionalLong;J)V", sig := { parameters := [.boolean, (.object "java/util/OptionalLong"), (.object "java/util/OptionalLong"), .long], returnType := none }, accessFlags := 1, code := some k14c0 }
def k14c1 : Code := { maxStack := 1, maxLocals := 1, code := prog_14_method_5_code, exceptionTable := #[], attributes := #[] }
def k14m1 : Method := { name := "onlyMarkersLeft", desc := "()Z", sig := { parameters := [], returnType := some .boolean }, accessFlags := 1, code := some k14c1 }
def k14c2 : Code := { maxStack := 1, maxLocals := 1, code := prog_14_method_6_code, exceptionTable := #[], attributes := #[] }
def k14m2 : Method := { name := "firstUnreadTimestamp", desc := "()Ljava/util/OptionalLong;", sig := { parameters := [], returnType := some (.object "java/util/OptionalLong") }, accessFlags := 1, code := some k14c2 }
def k14c3 : Code := { maxStack := 2, maxLocals := 1, code := prog_14_method_8_code, exceptionTable := #[], attributes := #[] }
def k14m3 : Method := { name := "lookedAt", desc := "()J", sig := { parameters := [], returnType := some .long }, accessFlags := 1, code := some k14c3 }
/-- com/example/log_lag_gauge/loglaggauge/model/PositionLag$RecordsRead -/
def k14 : Class := { plain "com/example/log_lag_gauge/loglaggauge/model/PositionLag$RecordsRead" (some 4) with
  accessFlags := 49
  interfaces := #[]
  cf := some (fileOf pool14 18 #[.nestHost 57] #[{ accessFlags := 1, nameIndex := 5, descriptorIndex := 44, attributes := #[] }, { accessFlags := 1, nameIndex := 21, descriptorIndex := 51, attributes := #[] }, { accessFlags := 1, nameIndex := 8, descriptorIndex := 52, attributes := #[] }, { accessFlags := 1, nameIndex := 30, descriptorIndex := 53, attributes := #[] }] 49 2 #[] #[{ accessFlags := 18, nameIndex := 21, descriptorIndex := 22, attributes := #[] }, { accessFlags := 18, nameIndex := 8, descriptorIndex := 25, attributes := #[] }, { accessFlags := 18, nameIndex := 16, descriptorIndex := 25, attributes := #[] }, { accessFlags := 18, nameIndex := 30, descriptorIndex := 31, attributes := #[] }])
  fields := #[{ name := "onlyMarkersLeft", type := .boolean, accessFlags := 18, slot := 0, constantValue := 0 }, { name := "firstUnreadTimestamp", type := (.object "java/util/OptionalLong"), accessFlags := 18, slot := 1, constantValue := 0 }, { name := "newestTimestamp", type := (.object "java/util/OptionalLong"), accessFlags := 18, slot := 2, constantValue := 0 }, { name := "lookedAt", type := .long, accessFlags := 18, slot := 3, constantValue := 0 }]
  methods := #[k14m0, k14m1, k14m2, k14m3]
  instanceTypes := #[.boolean, (.object "java/util/OptionalLong"), (.object "java/util/OptionalLong"), .long]
  staticTypes := #[]
  resolved := Array.replicate 81 none
  statics := none }

def pool15 : Array CpInfo := pool [(2, .class_ 4), (1, u "java/lang/Object"), (0, u "<init>"), (0, u "()V"), (0, .methodref 8 9), (0, .class_ 10), (0, .nameAndType 11 12), (0, u "java/util/OptionalLong"), (0, u "isEmpty"), (0, u "()Z"), (0, .methodref 8 14), (0, .nameAndType 15 16), (0, u "getAsLong"), (0, u "()J"), (0, .methodref 8 18), (0, .nameAndType 19 20), (0, u "empty"), (0, u "()Ljava/util/OptionalLong;"), (0, .methodref 8 22), (0, .nameAndType 23 24), (0, u "of"), (0, u "(J)Ljava/util/OptionalLong;"), (0, .methodref 26 27), (0, .class_ 28), (0, .nameAndType 29 30), (0, u "java/lang/Math"), (0, u "max"), (0, u "(JJ)J"), (0, .class_ 32), (0, u "com/example/log_lag_gauge/loglaggauge/model/Trailing"), (2, u "offsets"), (0, u "(Ljava/util/OptionalLong;Ljava/util/OptionalLong;)Ljava/util/OptionalLong;"), (1, u "ms")] 2

def k15m0 : Method := { name := "<init>", desc := "()V", sig := { parameters := [], returnType := none }, accessFlags := 2, code := none }
def k15c1 : Code := { maxStack := 4, maxLocals := 3, code := prog_18_method_2_code, exceptionTable := #[], attributes := #[] }
def k15m1 : Method := { name := "offsets", desc := "(Ljava/util/OptionalLong;Ljava/util/OptionalLong;)Ljava/util/OptionalLong;", sig := { parameters := [(.object "java/util/OptionalLong"), (.object "java/util/OptionalLong")], returnType := some (.object "java/util/OptionalLong") }, accessFlags := 9, code := some k15c1 }
def k15c2 : Code := { maxStack := 6, maxLocals := 3, code := prog_18_method_3_code, exceptionTable := #[], attributes := #[] }
def k15m2 : Method := { name := "ms", desc := "(Ljava/util/OptionalLong;Ljava/util/OptionalLong;)Ljava/util/OptionalLong;", sig := { parameters := [(.object "java/util/OptionalLong"), (.object "java/util/OptionalLong")], returnType := some (.object "java/util/OptionalLong") }, accessFlags := 9, code := some k15c2 }
/-- com/example/log_lag_gauge/loglaggauge/model/Trailing -/
def k15 : Class := { plain "com/example/log_lag_gauge/loglaggauge/model/Trailing" (some 0) with
  accessFlags := 33
  interfaces := #[]
  cf := some (fileOf pool15 31 #[] #[{ accessFlags := 2, nameIndex := 5, descriptorIndex := 6, attributes := #[] }, { accessFlags := 9, nameIndex := 35, descriptorIndex := 36, attributes := #[] }, { accessFlags := 9, nameIndex := 38, descriptorIndex := 36, attributes := #[] }] 33 2 #[] #[])
  fields := #[]
  methods := #[k15m0, k15m1, k15m2]
  instanceTypes := #[]
  staticTypes := #[]
  resolved := Array.replicate 41 none
  statics := none }

def pool16 : Array CpInfo := pool [(9, u "test"), (12, .class_ 24), (1, u "java/util/function/Predicate"), (2, .class_ 29), (1, u "java/lang/Object"), (1, u "(Ljava/lang/Object;)Z")] 69

def k16m0 : Method := { name := "test", desc := "(Ljava/lang/Object;)Z", sig := { parameters := [(.object "java/lang/Object")], returnType := some .boolean }, accessFlags := 1025, code := none }
/-- java/util/function/Predicate -/
def k16 : Class := { plain "java/util/function/Predicate" (some 0) with
  accessFlags := 1537
  interfaces := #[]
  cf := some (fileOf pool16 22 #[] #[{ accessFlags := 1025, nameIndex := 9, descriptorIndex := 31, attributes := #[] }] 1537 27 #[] #[])
  fields := #[]
  methods := #[k16m0]
  instanceTypes := #[]
  staticTypes := #[]
  resolved := Array.replicate 101 none
  statics := none }

def pool17 : Array CpInfo := pool [(1, .class_ 2), (0, u "java/lang/Math"), (1, .class_ 6), (1, u "java/lang/Object"), (0, u "<init>"), (0, u "()V"), (89, .class_ 100), (1, u "java/lang/Math$RandomNumberGeneratorHolder"), (20, u "(JJ)J"), (50, u "negativeZeroFloatBits"), (0, u "J"), (2, u "negativeZeroDoubleBits"), (21, u "max"), (46, u "$assertionsDisabled"), (0, u "Z"), (91, u "twoToTheDoubleScaleDown"), (0, u "D"), (4, u "twoToTheDoubleScaleUp"), (9, u "E"), (3, u "PI"), (2, u "TAU"), (2, u "DEGREES_TO_RADIANS"), (0, u "RADIANS_TO_DEGREES")] 94

def k17m0 : Method := { name := "<init>", desc := "()V", sig := { parameters := [], returnType := none }, accessFlags := 2, code := none }
def k17c1 : Code := { maxStack := 4, maxLocals := 4, code := jdk_29_method_66_code, exceptionTable := #[], attributes := #[] }
def k17m1 : Method := { name := "max", desc := "(JJ)J", sig := { parameters := [.long, .long], returnType := some .long }, accessFlags := 9, code := some k17c1 }
/-- java/lang/Math -/
def k17 : Class := { plain "java/lang/Math" (some 0) with
  accessFlags := 49
  interfaces := #[]
  cf := some (fileOf pool17 1 #[.nestMembers #[98]] #[{ accessFlags := 2, nameIndex := 7, descriptorIndex := 8, attributes := #[] }, { accessFlags := 9, nameIndex := 198, descriptorIndex := 121, attributes := #[] }] 49 4 #[] #[{ accessFlags := 25, nameIndex := 354, descriptorIndex := 339, attributes := #[] }, { accessFlags := 25, nameIndex := 358, descriptorIndex := 339, attributes := #[] }, { accessFlags := 25, nameIndex := 361, descriptorIndex := 339, attributes := #[] }, { accessFlags := 26, nameIndex := 364, descriptorIndex := 339, attributes := #[] }, { accessFlags := 26, nameIndex := 365, descriptorIndex := 339, attributes := #[] }, { accessFlags := 26, nameIndex := 172, descriptorIndex := 173, attributes := #[] }, { accessFlags := 26, nameIndex := 176, descriptorIndex := 173, attributes := #[] }, { accessFlags := 8, nameIndex := 344, descriptorIndex := 339, attributes := #[] }, { accessFlags := 8, nameIndex := 338, descriptorIndex := 339, attributes := #[] }, { accessFlags := 4120, nameIndex := 245, descriptorIndex := 246, attributes := #[] }])
  fields := #[{ name := "E", type := .double, accessFlags := 25, slot := 0, constantValue := 0 }, { name := "PI", type := .double, accessFlags := 25, slot := 1, constantValue := 0 }, { name := "TAU", type := .double, accessFlags := 25, slot := 2, constantValue := 0 }, { name := "DEGREES_TO_RADIANS", type := .double, accessFlags := 26, slot := 3, constantValue := 0 }, { name := "RADIANS_TO_DEGREES", type := .double, accessFlags := 26, slot := 4, constantValue := 0 }, { name := "negativeZeroFloatBits", type := .long, accessFlags := 26, slot := 5, constantValue := 0 }, { name := "negativeZeroDoubleBits", type := .long, accessFlags := 26, slot := 6, constantValue := 0 }, { name := "twoToTheDoubleScaleUp", type := .double, accessFlags := 8, slot := 7, constantValue := 0 }, { name := "twoToTheDoubleScaleDown", type := .double, accessFlags := 8, slot := 8, constantValue := 0 }, { name := "$assertionsDisabled", type := .boolean, accessFlags := 4120, slot := 9, constantValue := 0 }]
  methods := #[k17m0, k17m1]
  instanceTypes := #[]
  staticTypes := #[.double, .double, .double, .double, .double, .long, .long, .double, .double, .boolean]
  resolved := Array.replicate 460 none
  statics := none }

def pool18 : Array CpInfo := pool [(1, u "java/lang/Cloneable"), (0, .class_ 1), (0, u "java/lang/Object"), (0, .class_ 3)] 3

/-- java/lang/Cloneable -/
def k18 : Class := { plain "java/lang/Cloneable" (some 0) with
  accessFlags := 1537
  interfaces := #[]
  cf := some (fileOf pool18 2 #[] #[] 1537 4 #[] #[])
  fields := #[]
  methods := #[]
  instanceTypes := #[]
  staticTypes := #[]
  resolved := Array.replicate 8 none
  statics := none }

/-- the primitive byte -/
def k19 : Class := { plain "byte" none with kind := .primitive 'B', accessFlags := 0x411 }
/-- [B -/
def k20 : Class := { plain "[B" (some 0) with kind := .array 19 .byte, interfaces := #[18, 6], accessFlags := 1041 }

/-- the primitive int -/
def k21 : Class := { plain "int" none with kind := .primitive 'I', accessFlags := 0x411 }
/-- [I -/
def k22 : Class := { plain "[I" (some 0) with kind := .array 21 .int, interfaces := #[18, 6], accessFlags := 1041 }

def classes0 : Array Class := #[k0, k1, k2, k3, k4, k5, k6, k7, k8, k9, k10, k11, k12, k13, k14, k15, k16, k17, k18, k19, k20, k21, k22]
/-- the class that the rule has made for the site at 5 of com/example/log_lag_gauge/loglaggauge/model/PositionLag.ageMs -/
def k23 : Class := Jvm.LamKit.madeRec { classes := classes0 } "com/example/log_lag_gauge/loglaggauge/model/PositionLag" (Jvm.Lambda.Shape.mk "java/util/function/Function" "apply" (Jvm.ClassFile.MethodDescriptor.mk ([(Jvm.ClassFile.FieldType.object "java/lang/Object")] : List Jvm.ClassFile.FieldType) (Option.some (Jvm.ClassFile.FieldType.object "java/lang/Object"))) ([(Jvm.ClassFile.FieldType.object "com/example/log_lag_gauge/loglaggauge/model/PositionLag")] : List Jvm.ClassFile.FieldType) (5 : Nat) "com/example/log_lag_gauge/loglaggauge/model/PositionLag" "lambda$ageMs$1" (Jvm.ClassFile.MethodDescriptor.mk ([(Jvm.ClassFile.FieldType.object "com/example/log_lag_gauge/loglaggauge/model/PositionLag$RecordsRead")] : List Jvm.ClassFile.FieldType) (Option.some (Jvm.ClassFile.FieldType.object "java/util/OptionalLong"))) false (Jvm.ClassFile.MethodDescriptor.mk ([(Jvm.ClassFile.FieldType.object "com/example/log_lag_gauge/loglaggauge/model/PositionLag$RecordsRead")] : List Jvm.ClassFile.FieldType) (Option.some (Jvm.ClassFile.FieldType.object "java/util/OptionalLong")))) 23

/-- the class that the rule has made for the site at 29 of com/example/log_lag_gauge/loglaggauge/model/PositionLag.lag -/
def k24 : Class := Jvm.LamKit.madeRec { classes := classes0 } "com/example/log_lag_gauge/loglaggauge/model/PositionLag" (Jvm.Lambda.Shape.mk "java/util/function/Predicate" "test" (Jvm.ClassFile.MethodDescriptor.mk ([(Jvm.ClassFile.FieldType.object "java/lang/Object")] : List Jvm.ClassFile.FieldType) (Option.some Jvm.ClassFile.FieldType.boolean)) ([] : List Jvm.ClassFile.FieldType) (5 : Nat) "com/example/log_lag_gauge/loglaggauge/model/PositionLag$RecordsRead" "onlyMarkersLeft" (Jvm.ClassFile.MethodDescriptor.mk ([] : List Jvm.ClassFile.FieldType) (Option.some Jvm.ClassFile.FieldType.boolean)) false (Jvm.ClassFile.MethodDescriptor.mk ([(Jvm.ClassFile.FieldType.object "com/example/log_lag_gauge/loglaggauge/model/PositionLag$RecordsRead")] : List Jvm.ClassFile.FieldType) (Option.some Jvm.ClassFile.FieldType.boolean))) 24

def heap : Heap := #[{ cls := 2, slots := #[.ref 3], vm := .statics 2 },
  { cls := 3, slots := #[.ref 4], vm := .statics 3 },
  { cls := 24, slots := #[], vm := .none },
  { cls := 2, slots := #[.int 0, .long 0], vm := .none },
  { cls := 3, slots := #[.null], vm := .none }]
def classes : Array Class := #[k0, k1, k2, k3, k4, k5, k6, k7, k8, k9, k10, k11, k12, k13, k14, k15, k16, k17, k18, k19, k20, k21, k22, k23, k24]
def interned : List (Array UInt16 × Addr) := []
def slotsUsed : Nat := 5
def theMethod : MethodId := ⟨1, 1⟩
def args0 : Array Value := #[.long 7, .long 9, .long 3, .long 4, .long 5, .int 5]
def aboutOver (below : List Frame) : State where
  vm := { classes := classes, interned := interned.toArray }
  heap := heap
  slotsUsed := slotsUsed
  threads := #[{ frames := .invoking theMethod args0 :: below }]
def below0 : List Frame := [.native { method := ⟨0, 0⟩, args := #[] }]
def about1 : State := aboutOver below0
def p0 : Program := .bare "" "" ""
def e0 : Env := launch0.env 0 0 0
theorem w_frames : about1.frames = Frame.invoking theMethod args0 :: below0 := rfl
set_option maxRecDepth 65536 in
theorem w_args : argsFit about1.vm theMethod args0 = true := by decide +kernel
set_option maxRecDepth 65536 in
theorem w_heap : heapFits about1 = true := by decide +kernel
set_option maxRecDepth 65536 in
theorem w_runnable : about1.curStatus? = some .runnable := by decide +kernel
set_option maxRecDepth 65536 in
theorem w_alone : about1.alone = true := by decide +kernel
set_option maxRecDepth 65536 in
theorem w_named : about1.methodNamed? x = some theMethod := by decide +kernel
set_option maxRecDepth 65536 in
theorem w_hears : about1.hears theMethod below0 = true := by decide +kernel
set_option maxRecDepth 65536 in
theorem w_ripe : about1.ripe theMethod args0 below0 = true := by decide +kernel
theorem w_running : about1.status = .running := rfl
set_option maxRecDepth 65536 in
theorem w_room : about1.hasRoom e0.platform room_1 = true :=
  launch0.hasRoom_least _ room_1 (by decide +kernel) (by decide +kernel) (by decide +kernel) (by decide +kernel) (by decide +kernel) (by decide +kernel)
theorem allAtoms_all (ts : List Jvm.Cond) (a : Array Jvm.Value) (st : Jvm.State) : (allAtoms ts).before a st = ts.all (fun c => c.before a st) := by
  induction ts with
  | nil => rfl
  | cons c t ih =>
    show (Jvm.Cond.and c (allAtoms t)).before a st = _
    rw [Jvm.Cond.before_and, ih, List.all_cons]
def words1 : List Jvm.Cond := Jvm.Cond.code x code maxLocals ret :: tables_1
/-- a 'code' word, met by the world's own term for the bytes: nothing is compared byte by byte -/
theorem code_word {y : MethodName} {bytes : ByteArray} {mx : Nat} {rt : Option FieldType} {a : Array Value} {s : State} {m : MethodId} {meth : Method} {c : Code} (h1 : s.methodNamed? y = some m) (h2 : s.vm.method? m = some meth) (h3 : meth.code = some c) (h4 : c.code = bytes)
    (h5 : (c.maxLocals == mx && c.exceptionTable.isEmpty && decide (c.maxStack ≤ mostOperands) && decide (meth.sig.returnType = rt) && !meth.locks && decide (parseMethodDescriptor y.desc = some meth.sig)) = true) : (Jvm.Cond.code y bytes mx rt).before a s = true := by
  simp only [Bool.and_eq_true, beq_iff_eq, Bool.not_eq_true', decide_eq_true_eq] at h5
  obtain ⟨⟨⟨⟨⟨g1, g2⟩, g3⟩, g4⟩, g5⟩, g6⟩ := h5
  simp [Cond.before, Cond.holds, Cond.value, h1, h2, h3, h4, g1, g2, g3, g4, g5, g6]
def isCode : Jvm.Cond → Bool
  | .code _ _ _ _ => true
  | _ => false
theorem all_split {L : List Jvm.Cond} {P : Jvm.Cond → Bool} (h1 : L.all (fun c => isCode c || P c) = true) (h2 : ∀ c ∈ L.filter isCode, P c = true) : L.all P = true := by
  refine List.all_eq_true.mpr fun c hc => ?_
  have h := List.all_eq_true.mp h1 c hc
  rcases Bool.eq_false_or_eq_true (isCode c) with hi | hi
  · exact h2 c (List.mem_filter.mpr ⟨hc, hi⟩)
  · simpa [hi] using h
set_option maxRecDepth 65536 in
theorem w_c0 : (Jvm.Cond.code x code maxLocals ret).before args0 about1 = true := code_word (m := ⟨1, 1⟩) (meth := k1m1) (c := k1c1) (by decide +kernel) rfl rfl rfl (by decide +kernel)
set_option maxRecDepth 65536 in
theorem w_c1 : (Jvm.Cond.code ({ cls := "java/util/OptionalLong", name := "empty", desc := "()Ljava/util/OptionalLong;" } : Jvm.MethodName) jdk_2650_method_2_code (0 : Nat) (Option.some (Jvm.ClassFile.FieldType.object "java/util/OptionalLong"))).before args0 about1 = true := code_word (m := ⟨2, 1⟩) (meth := k2m1) (c := k2c1) (by decide +kernel) rfl rfl rfl (by decide +kernel)
set_option maxRecDepth 65536 in
theorem w_c2 : (Jvm.Cond.code ({ cls := "java/util/Optional", name := "empty", desc := "()Ljava/util/Optional;" } : Jvm.MethodName) jdk_32_method_1_code (1 : Nat) (Option.some (Jvm.ClassFile.FieldType.object "java/util/Optional"))).before args0 about1 = true := code_word (m := ⟨3, 0⟩) (meth := k3m0) (c := k3c0) (by decide +kernel) rfl rfl rfl (by decide +kernel)
set_option maxRecDepth 65536 in
theorem w_c3 : (Jvm.Cond.code ({ cls := "com/example/log_lag_gauge/loglaggauge/model/PositionLag", name := "<init>", desc := "(JJLjava/util/Optional;)V" } : Jvm.MethodName) prog_13_method_1_code (6 : Nat) (Option.none : Option Jvm.ClassFile.FieldType)).before args0 about1 = true := code_word (m := ⟨5, 0⟩) (meth := k5m0) (c := k5c0) (by decide +kernel) rfl rfl rfl (by decide +kernel)
set_option maxRecDepth 65536 in
theorem w_c4 : (Jvm.Cond.code ({ cls := "java/lang/Record", name := "<init>", desc := "()V" } : Jvm.MethodName) jdk_30_method_1_code (1 : Nat) (Option.none : Option Jvm.ClassFile.FieldType)).before args0 about1 = true := code_word (m := ⟨4, 0⟩) (meth := k4m0) (c := k4c0) (by decide +kernel) rfl rfl rfl (by decide +kernel)
set_option maxRecDepth 65536 in
theorem w_c5 : (Jvm.Cond.code ({ cls := "java/lang/Object", name := "<init>", desc := "()V" } : Jvm.MethodName) object_method_1_code (1 : Nat) (Option.none : Option Jvm.ClassFile.FieldType)).before args0 about1 = true := code_word (m := ⟨0, 0⟩) (meth := k0m0) (c := k0c0) (by decide +kernel) rfl rfl rfl (by decide +kernel)
set_option maxRecDepth 65536 in
theorem w_c6 : (Jvm.Cond.code ({ cls := "java/util/Objects", name := "requireNonNull", desc := "(Ljava/lang/Object;Ljava/lang/String;)Ljava/lang/Object;" } : Jvm.MethodName) jdk_31_method_11_code (2 : Nat) (Option.some (Jvm.ClassFile.FieldType.object "java/lang/Object"))).before args0 about1 = true := code_word (m := ⟨12, 2⟩) (meth := k12m2) (c := k12c2) (by decide +kernel) rfl rfl rfl (by decide +kernel)
set_option maxRecDepth 65536 in
theorem w_c7 : (Jvm.Cond.code ({ cls := "com/example/log_lag_gauge/loglaggauge/model/PositionLag", name := "ageMs", desc := "()Ljava/util/OptionalLong;" } : Jvm.MethodName) prog_13_method_5_code (1 : Nat) (Option.some (Jvm.ClassFile.FieldType.object "java/util/OptionalLong"))).before args0 about1 = true := code_word (m := ⟨5, 2⟩) (meth := k5m2) (c := k5c2) (by decide +kernel) rfl rfl rfl (by decide +kernel)
set_option maxRecDepth 65536 in
theorem w_c8 : (Jvm.Cond.code ({ cls := "java/util/Optional", name := "map", desc := "(Ljava/util/function/Function;)Ljava/util/Optional;" } : Jvm.MethodName) jdk_32_method_11_code (2 : Nat) (Option.some (Jvm.ClassFile.FieldType.object "java/util/Optional"))).before args0 about1 = true := code_word (m := ⟨3, 7⟩) (meth := k3m7) (c := k3c7) (by decide +kernel) rfl rfl rfl (by decide +kernel)
set_option maxRecDepth 65536 in
theorem w_c9 : (Jvm.Cond.code ({ cls := "java/util/Objects", name := "requireNonNull", desc := "(Ljava/lang/Object;)Ljava/lang/Object;" } : Jvm.MethodName) jdk_31_method_10_code (1 : Nat) (Option.some (Jvm.ClassFile.FieldType.object "java/lang/Object"))).before args0 about1 = true := code_word (m := ⟨12, 1⟩) (meth := k12m1) (c := k12c1) (by decide +kernel) rfl rfl rfl (by decide +kernel)
set_option maxRecDepth 65536 in
theorem w_c10 : (Jvm.Cond.code ({ cls := "java/util/Optional", name := "isEmpty", desc := "()Z" } : Jvm.MethodName) jdk_32_method_7_code (1 : Nat) (Option.some Jvm.ClassFile.FieldType.boolean)).before args0 about1 = true := code_word (m := ⟨3, 5⟩) (meth := k3m5) (c := k3c5) (by decide +kernel) rfl rfl rfl (by decide +kernel)
set_option maxRecDepth 65536 in
theorem w_c11 : (Jvm.Cond.code ({ cls := "java/util/Optional", name := "orElse", desc := "(Ljava/lang/Object;)Ljava/lang/Object;" } : Jvm.MethodName) jdk_32_method_15_code (2 : Nat) (Option.some (Jvm.ClassFile.FieldType.object "java/lang/Object"))).before args0 about1 = true := code_word (m := ⟨3, 8⟩) (meth := k3m8) (c := k3c8) (by decide +kernel) rfl rfl rfl (by decide +kernel)
set_option maxRecDepth 65536 in
theorem w_c12 : (Jvm.Cond.code ({ cls := "java/util/OptionalLong", name := "isEmpty", desc := "()Z" } : Jvm.MethodName) jdk_2650_method_7_code (1 : Nat) (Option.some Jvm.ClassFile.FieldType.boolean)).before args0 about1 = true := code_word (m := ⟨2, 6⟩) (meth := k2m6) (c := k2c6) (by decide +kernel) rfl rfl rfl (by decide +kernel)
set_option maxRecDepth 65536 in
theorem w_c13 : (Jvm.Cond.code ({ cls := "java/util/OptionalLong", name := "of", desc := "(J)Ljava/util/OptionalLong;" } : Jvm.MethodName) jdk_2650_method_4_code (2 : Nat) (Option.some (Jvm.ClassFile.FieldType.object "java/util/OptionalLong"))).before args0 about1 = true := code_word (m := ⟨2, 3⟩) (meth := k2m3) (c := k2c3) (by decide +kernel) rfl rfl rfl (by decide +kernel)
set_option maxRecDepth 65536 in
theorem w_c14 : (Jvm.Cond.code ({ cls := "java/util/OptionalLong", name := "<init>", desc := "(J)V" } : Jvm.MethodName) jdk_2650_method_3_code (3 : Nat) (Option.none : Option Jvm.ClassFile.FieldType)).before args0 about1 = true := code_word (m := ⟨2, 2⟩) (meth := k2m2) (c := k2c2) (by decide +kernel) rfl rfl rfl (by decide +kernel)
set_option maxRecDepth 65536 in
theorem w_c15 : (Jvm.Cond.code ({ cls := "com/example/log_lag_gauge/loglaggauge/model/PositionLag$RecordsRead", name := "<init>", desc := "(ZLjava/util/OptionalLong;Ljava/util/OptionalLong;J)V" } : Jvm.MethodName) prog_14_method_1_code (6 : Nat) (Option.none : Option Jvm.ClassFile.FieldType)).before args0 about1 = true := code_word (m := ⟨14, 0⟩) (meth := k14m0) (c := k14c0) (by decide +kernel) rfl rfl rfl (by decide +kernel)
set_option maxRecDepth 65536 in
theorem w_c16 : (Jvm.Cond.code ({ cls := "java/util/Optional", name := "of", desc := "(Ljava/lang/Object;)Ljava/util/Optional;" } : Jvm.MethodName) jdk_32_method_3_code (1 : Nat) (Option.some (Jvm.ClassFile.FieldType.object "java/util/Optional"))).before args0 about1 = true := code_word (m := ⟨3, 2⟩) (meth := k3m2) (c := k3c2) (by decide +kernel) rfl rfl rfl (by decide +kernel)
set_option maxRecDepth 65536 in
theorem w_c17 : (Jvm.Cond.code ({ cls := "java/util/Optional", name := "<init>", desc := "(Ljava/lang/Object;)V" } : Jvm.MethodName) jdk_32_method_2_code (2 : Nat) (Option.none : Option Jvm.ClassFile.FieldType)).before args0 about1 = true := code_word (m := ⟨3, 1⟩) (meth := k3m1) (c := k3c1) (by decide +kernel) rfl rfl rfl (by decide +kernel)
set_option maxRecDepth 65536 in
theorem w_c18 : (Jvm.Cond.code ({ cls := "com/example/log_lag_gauge/loglaggauge/model/PositionLag", name := "lambda$ageMs$1", desc := "(Lcom/example/log_lag_gauge/loglaggauge/model/PositionLag$RecordsRead;)Ljava/util/OptionalLong;" } : Jvm.MethodName) prog_13_method_13_code (2 : Nat) (Option.some (Jvm.ClassFile.FieldType.object "java/util/OptionalLong"))).before args0 about1 = true := code_word (m := ⟨5, 4⟩) (meth := k5m4) (c := k5c4) (by decide +kernel) rfl rfl rfl (by decide +kernel)
set_option maxRecDepth 65536 in
theorem w_c19 : (Jvm.Cond.code ({ cls := "com/example/log_lag_gauge/loglaggauge/model/PositionLag$RecordsRead", name := "lookedAt", desc := "()J" } : Jvm.MethodName) prog_14_method_8_code (1 : Nat) (Option.some Jvm.ClassFile.FieldType.long)).before args0 about1 = true := code_word (m := ⟨14, 3⟩) (meth := k14m3) (c := k14c3) (by decide +kernel) rfl rfl rfl (by decide +kernel)
set_option maxRecDepth 65536 in
theorem w_c20 : (Jvm.Cond.code ({ cls := "com/example/log_lag_gauge/loglaggauge/model/PositionLag", name := "behindFirstUnread", desc := "(Lcom/example/log_lag_gauge/loglaggauge/model/PositionLag$RecordsRead;Ljava/util/OptionalLong;)Ljava/util/OptionalLong;" } : Jvm.MethodName) prog_13_method_6_code (5 : Nat) (Option.some (Jvm.ClassFile.FieldType.object "java/util/OptionalLong"))).before args0 about1 = true := code_word (m := ⟨5, 3⟩) (meth := k5m3) (c := k5c3) (by decide +kernel) rfl rfl rfl (by decide +kernel)
set_option maxRecDepth 65536 in
theorem w_c21 : (Jvm.Cond.code ({ cls := "com/example/log_lag_gauge/loglaggauge/model/PositionLag", name := "lag", desc := "()Ljava/util/OptionalLong;" } : Jvm.MethodName) prog_13_method_3_code (3 : Nat) (Option.some (Jvm.ClassFile.FieldType.object "java/util/OptionalLong"))).before args0 about1 = true := code_word (m := ⟨5, 1⟩) (meth := k5m1) (c := k5c1) (by decide +kernel) rfl rfl rfl (by decide +kernel)
set_option maxRecDepth 65536 in
theorem w_c22 : (Jvm.Cond.code ({ cls := "com/example/log_lag_gauge/loglaggauge/model/Trailing", name := "offsets", desc := "(Ljava/util/OptionalLong;Ljava/util/OptionalLong;)Ljava/util/OptionalLong;" } : Jvm.MethodName) prog_18_method_2_code (3 : Nat) (Option.some (Jvm.ClassFile.FieldType.object "java/util/OptionalLong"))).before args0 about1 = true := code_word (m := ⟨15, 1⟩) (meth := k15m1) (c := k15c1) (by decide +kernel) rfl rfl rfl (by decide +kernel)
set_option maxRecDepth 65536 in
theorem w_c23 : (Jvm.Cond.code ({ cls := "java/util/OptionalLong", name := "getAsLong", desc := "()J" } : Jvm.MethodName) jdk_2650_method_5_code (1 : Nat) (Option.some Jvm.ClassFile.FieldType.long)).before args0 about1 = true := code_word (m := ⟨2, 4⟩) (meth := k2m4) (c := k2c4) (by decide +kernel) rfl rfl rfl (by decide +kernel)
set_option maxRecDepth 65536 in
theorem w_c24 : (Jvm.Cond.code ({ cls := "java/util/OptionalLong", name := "isPresent", desc := "()Z" } : Jvm.MethodName) jdk_2650_method_6_code (1 : Nat) (Option.some Jvm.ClassFile.FieldType.boolean)).before args0 about1 = true := code_word (m := ⟨2, 5⟩) (meth := k2m5) (c := k2c5) (by decide +kernel) rfl rfl rfl (by decide +kernel)
set_option maxRecDepth 65536 in
theorem w_c25 : (Jvm.Cond.code ({ cls := "java/util/Optional", name := "filter", desc := "(Ljava/util/function/Predicate;)Ljava/util/Optional;" } : Jvm.MethodName) jdk_32_method_10_code (2 : Nat) (Option.some (Jvm.ClassFile.FieldType.object "java/util/Optional"))).before args0 about1 = true := code_word (m := ⟨3, 6⟩) (meth := k3m6) (c := k3c6) (by decide +kernel) rfl rfl rfl (by decide +kernel)
set_option maxRecDepth 65536 in
theorem w_c26 : (Jvm.Cond.code ({ cls := "com/example/log_lag_gauge/loglaggauge/model/PositionLag$RecordsRead", name := "onlyMarkersLeft", desc := "()Z" } : Jvm.MethodName) prog_14_method_5_code (1 : Nat) (Option.some Jvm.ClassFile.FieldType.boolean)).before args0 about1 = true := code_word (m := ⟨14, 1⟩) (meth := k14m1) (c := k14c1) (by decide +kernel) rfl rfl rfl (by decide +kernel)
set_option maxRecDepth 65536 in
theorem w_c27 : (Jvm.Cond.code ({ cls := "java/util/Optional", name := "isPresent", desc := "()Z" } : Jvm.MethodName) jdk_32_method_6_code (1 : Nat) (Option.some Jvm.ClassFile.FieldType.boolean)).before args0 about1 = true := code_word (m := ⟨3, 4⟩) (meth := k3m4) (c := k3c4) (by decide +kernel) rfl rfl rfl (by decide +kernel)
set_option maxRecDepth 65536 in
theorem w_c28 : (Jvm.Cond.code ({ cls := "java/util/Optional", name := "ofNullable", desc := "(Ljava/lang/Object;)Ljava/util/Optional;" } : Jvm.MethodName) jdk_32_method_4_code (1 : Nat) (Option.some (Jvm.ClassFile.FieldType.object "java/util/Optional"))).before args0 about1 = true := code_word (m := ⟨3, 3⟩) (meth := k3m3) (c := k3c3) (by decide +kernel) rfl rfl rfl (by decide +kernel)
set_option maxRecDepth 65536 in
theorem w_c29 : (Jvm.Cond.code ({ cls := "com/example/log_lag_gauge/loglaggauge/model/PositionLag$RecordsRead", name := "firstUnreadTimestamp", desc := "()Ljava/util/OptionalLong;" } : Jvm.MethodName) prog_14_method_6_code (1 : Nat) (Option.some (Jvm.ClassFile.FieldType.object "java/util/OptionalLong"))).before args0 about1 = true := code_word (m := ⟨14, 2⟩) (meth := k14m2) (c := k14c2) (by decide +kernel) rfl rfl rfl (by decide +kernel)
set_option maxRecDepth 65536 in
theorem w_c30 : (Jvm.Cond.code ({ cls := "com/example/log_lag_gauge/loglaggauge/model/Trailing", name := "ms", desc := "(Ljava/util/OptionalLong;Ljava/util/OptionalLong;)Ljava/util/OptionalLong;" } : Jvm.MethodName) prog_18_method_3_code (3 : Nat) (Option.some (Jvm.ClassFile.FieldType.object "java/util/OptionalLong"))).before args0 about1 = true := code_word (m := ⟨15, 2⟩) (meth := k15m2) (c := k15c2) (by decide +kernel) rfl rfl rfl (by decide +kernel)
set_option maxRecDepth 65536 in
theorem w_c31 : (Jvm.Cond.code ({ cls := "java/lang/Math", name := "max", desc := "(JJ)J" } : Jvm.MethodName) jdk_29_method_66_code (4 : Nat) (Option.some Jvm.ClassFile.FieldType.long)).before args0 about1 = true := code_word (m := ⟨17, 1⟩) (meth := k17m1) (c := k17c1) (by decide +kernel) rfl rfl rfl (by decide +kernel)
set_option maxRecDepth 65536 in
theorem w_c32 : (Jvm.Cond.code ({ cls := "java/util/OptionalLong", name := "orElse", desc := "(J)J" } : Jvm.MethodName) jdk_2650_method_11_code (3 : Nat) (Option.some Jvm.ClassFile.FieldType.long)).before args0 about1 = true := code_word (m := ⟨2, 7⟩) (meth := k2m7) (c := k2c7) (by decide +kernel) rfl rfl rfl (by decide +kernel)
def codes1 : List Jvm.Cond := [Jvm.Cond.code x code maxLocals ret, Jvm.Cond.code ({ cls := "java/util/OptionalLong", name := "empty", desc := "()Ljava/util/OptionalLong;" } : Jvm.MethodName) jdk_2650_method_2_code (0 : Nat) (Option.some (Jvm.ClassFile.FieldType.object "java/util/OptionalLong")), Jvm.Cond.code ({ cls := "java/util/Optional", name := "empty", desc := "()Ljava/util/Optional;" } : Jvm.MethodName) jdk_32_method_1_code (1 : Nat) (Option.some (Jvm.ClassFile.FieldType.object "java/util/Optional")), Jvm.Cond.code ({ cls := "com/example/log_lag_gauge/loglaggauge/model/PositionLag", name := "<init>", desc := "(JJLjava/util/Optional;)V" } : Jvm.MethodName) prog_13_method_1_code (6 : Nat) (Option.none : Option Jvm.ClassFile.FieldType), Jvm.Cond.code ({ cls := "java/lang/Record", name := "<init>", desc := "()V" } : Jvm.MethodName) jdk_30_method_1_code (1 : Nat) (Option.none : Option Jvm.ClassFile.FieldType), Jvm.Cond.code ({ cls := "java/lang/Object", name := "<init>", desc := "()V" } : Jvm.MethodName) object_method_1_code (1 : Nat) (Option.none : Option Jvm.ClassFile.FieldType), Jvm.Cond.code ({ cls := "java/util/Objects", name := "requireNonNull", desc := "(Ljava/lang/Object;Ljava/lang/String;)Ljava/lang/Object;" } : Jvm.MethodName) jdk_31_method_11_code (2 : Nat) (Option.some (Jvm.ClassFile.FieldType.object "java/lang/Object")), Jvm.Cond.code ({ cls := "com/example/log_lag_gauge/loglaggauge/model/PositionLag", name := "ageMs", desc := "()Ljava/util/OptionalLong;" } : Jvm.MethodName) prog_13_method_5_code (1 : Nat) (Option.some (Jvm.ClassFile.FieldType.object "java/util/OptionalLong")), Jvm.Cond.code ({ cls := "java/util/Optional", name := "map", desc := "(Ljava/util/function/Function;)Ljava/util/Optional;" } : Jvm.MethodName) jdk_32_method_11_code (2 : Nat) (Option.some (Jvm.ClassFile.FieldType.object "java/util/Optional")), Jvm.Cond.code ({ cls := "java/util/Objects", name := "requireNonNull", desc := "(Ljava/lang/Object;)Ljava/lang/Object;" } : Jvm.MethodName) jdk_31_method_10_code (1 : Nat) (Option.some (Jvm.ClassFile.FieldType.object "java/lang/Object")), Jvm.Cond.code ({ cls := "java/util/Optional", name := "isEmpty", desc := "()Z" } : Jvm.MethodName) jdk_32_method_7_code (1 : Nat) (Option.some Jvm.ClassFile.FieldType.boolean), Jvm.Cond.code ({ cls := "java/util/Optional", name := "orElse", desc := "(Ljava/lang/Object;)Ljava/lang/Object;" } : Jvm.MethodName) jdk_32_method_15_code (2 : Nat) (Option.some (Jvm.ClassFile.FieldType.object "java/lang/Object")), Jvm.Cond.code ({ cls := "java/util/OptionalLong", name := "isEmpty", desc := "()Z" } : Jvm.MethodName) jdk_2650_method_7_code (1 : Nat) (Option.some Jvm.ClassFile.FieldType.boolean), Jvm.Cond.code ({ cls := "java/util/OptionalLong", name := "of", desc := "(J)Ljava/util/OptionalLong;" } : Jvm.MethodName) jdk_2650_method_4_code (2 : Nat) (Option.some (Jvm.ClassFile.FieldType.object "java/util/OptionalLong")), Jvm.Cond.code ({ cls := "java/util/OptionalLong", name := "<init>", desc := "(J)V" } : Jvm.MethodName) jdk_2650_method_3_code (3 : Nat) (Option.none : Option Jvm.ClassFile.FieldType), Jvm.Cond.code ({ cls := "com/example/log_lag_gauge/loglaggauge/model/PositionLag$RecordsRead", name := "<init>", desc := "(ZLjava/util/OptionalLong;Ljava/util/OptionalLong;J)V" } : Jvm.MethodName) prog_14_method_1_code (6 : Nat) (Option.none : Option Jvm.ClassFile.FieldType), Jvm.Cond.code ({ cls := "java/util/Optional", name := "of", desc := "(Ljava/lang/Object;)Ljava/util/Optional;" } : Jvm.MethodName) jdk_32_method_3_code (1 : Nat) (Option.some (Jvm.ClassFile.FieldType.object "java/util/Optional")), Jvm.Cond.code ({ cls := "java/util/Optional", name := "<init>", desc := "(Ljava/lang/Object;)V" } : Jvm.MethodName) jdk_32_method_2_code (2 : Nat) (Option.none : Option Jvm.ClassFile.FieldType), Jvm.Cond.code ({ cls := "com/example/log_lag_gauge/loglaggauge/model/PositionLag", name := "lambda$ageMs$1", desc := "(Lcom/example/log_lag_gauge/loglaggauge/model/PositionLag$RecordsRead;)Ljava/util/OptionalLong;" } : Jvm.MethodName) prog_13_method_13_code (2 : Nat) (Option.some (Jvm.ClassFile.FieldType.object "java/util/OptionalLong")), Jvm.Cond.code ({ cls := "com/example/log_lag_gauge/loglaggauge/model/PositionLag$RecordsRead", name := "lookedAt", desc := "()J" } : Jvm.MethodName) prog_14_method_8_code (1 : Nat) (Option.some Jvm.ClassFile.FieldType.long), Jvm.Cond.code ({ cls := "com/example/log_lag_gauge/loglaggauge/model/PositionLag", name := "behindFirstUnread", desc := "(Lcom/example/log_lag_gauge/loglaggauge/model/PositionLag$RecordsRead;Ljava/util/OptionalLong;)Ljava/util/OptionalLong;" } : Jvm.MethodName) prog_13_method_6_code (5 : Nat) (Option.some (Jvm.ClassFile.FieldType.object "java/util/OptionalLong")), Jvm.Cond.code ({ cls := "com/example/log_lag_gauge/loglaggauge/model/PositionLag", name := "lag", desc := "()Ljava/util/OptionalLong;" } : Jvm.MethodName) prog_13_method_3_code (3 : Nat) (Option.some (Jvm.ClassFile.FieldType.object "java/util/OptionalLong")), Jvm.Cond.code ({ cls := "com/example/log_lag_gauge/loglaggauge/model/Trailing", name := "offsets", desc := "(Ljava/util/OptionalLong;Ljava/util/OptionalLong;)Ljava/util/OptionalLong;" } : Jvm.MethodName) prog_18_method_2_code (3 : Nat) (Option.some (Jvm.ClassFile.FieldType.object "java/util/OptionalLong")), Jvm.Cond.code ({ cls := "java/util/OptionalLong", name := "getAsLong", desc := "()J" } : Jvm.MethodName) jdk_2650_method_5_code (1 : Nat) (Option.some Jvm.ClassFile.FieldType.long), Jvm.Cond.code ({ cls := "java/util/OptionalLong", name := "isPresent", desc := "()Z" } : Jvm.MethodName) jdk_2650_method_6_code (1 : Nat) (Option.some Jvm.ClassFile.FieldType.boolean), Jvm.Cond.code ({ cls := "java/util/Optional", name := "filter", desc := "(Ljava/util/function/Predicate;)Ljava/util/Optional;" } : Jvm.MethodName) jdk_32_method_10_code (2 : Nat) (Option.some (Jvm.ClassFile.FieldType.object "java/util/Optional")), Jvm.Cond.code ({ cls := "com/example/log_lag_gauge/loglaggauge/model/PositionLag$RecordsRead", name := "onlyMarkersLeft", desc := "()Z" } : Jvm.MethodName) prog_14_method_5_code (1 : Nat) (Option.some Jvm.ClassFile.FieldType.boolean), Jvm.Cond.code ({ cls := "java/util/Optional", name := "isPresent", desc := "()Z" } : Jvm.MethodName) jdk_32_method_6_code (1 : Nat) (Option.some Jvm.ClassFile.FieldType.boolean), Jvm.Cond.code ({ cls := "java/util/Optional", name := "ofNullable", desc := "(Ljava/lang/Object;)Ljava/util/Optional;" } : Jvm.MethodName) jdk_32_method_4_code (1 : Nat) (Option.some (Jvm.ClassFile.FieldType.object "java/util/Optional")), Jvm.Cond.code ({ cls := "com/example/log_lag_gauge/loglaggauge/model/PositionLag$RecordsRead", name := "firstUnreadTimestamp", desc := "()Ljava/util/OptionalLong;" } : Jvm.MethodName) prog_14_method_6_code (1 : Nat) (Option.some (Jvm.ClassFile.FieldType.object "java/util/OptionalLong")), Jvm.Cond.code ({ cls := "com/example/log_lag_gauge/loglaggauge/model/Trailing", name := "ms", desc := "(Ljava/util/OptionalLong;Ljava/util/OptionalLong;)Ljava/util/OptionalLong;" } : Jvm.MethodName) prog_18_method_3_code (3 : Nat) (Option.some (Jvm.ClassFile.FieldType.object "java/util/OptionalLong")), Jvm.Cond.code ({ cls := "java/lang/Math", name := "max", desc := "(JJ)J" } : Jvm.MethodName) jdk_29_method_66_code (4 : Nat) (Option.some Jvm.ClassFile.FieldType.long), Jvm.Cond.code ({ cls := "java/util/OptionalLong", name := "orElse", desc := "(J)J" } : Jvm.MethodName) jdk_2650_method_11_code (3 : Nat) (Option.some Jvm.ClassFile.FieldType.long)]
set_option maxRecDepth 65536 in
theorem codes_eq : words1.filter isCode = codes1 := rfl
theorem w_codes : ∀ c ∈ words1.filter isCode, c.before args0 about1 = true := by
  rw [codes_eq]
  intro c hc
  simp only [codes1, List.mem_cons, List.not_mem_nil, or_false] at hc
  rcases hc with rfl | rfl | rfl | rfl | rfl | rfl | rfl | rfl | rfl | rfl | rfl | rfl | rfl | rfl | rfl | rfl | rfl | rfl | rfl | rfl | rfl | rfl | rfl | rfl | rfl | rfl | rfl | rfl | rfl | rfl | rfl | rfl | rfl
  · exact w_c0
  · exact w_c1
  · exact w_c2
  · exact w_c3
  · exact w_c4
  · exact w_c5
  · exact w_c6
  · exact w_c7
  · exact w_c8
  · exact w_c9
  · exact w_c10
  · exact w_c11
  · exact w_c12
  · exact w_c13
  · exact w_c14
  · exact w_c15
  · exact w_c16
  · exact w_c17
  · exact w_c18
  · exact w_c19
  · exact w_c20
  · exact w_c21
  · exact w_c22
  · exact w_c23
  · exact w_c24
  · exact w_c25
  · exact w_c26
  · exact w_c27
  · exact w_c28
  · exact w_c29
  · exact w_c30
  · exact w_c31
  · exact w_c32
set_option maxRecDepth 65536 in
theorem w_t1 : (words1.take 24).all (fun c => isCode c || c.before args0 about1) = true := by decide +kernel
set_option maxRecDepth 65536 in
theorem w_t2 : ((words1.drop 24).take 24).all (fun c => isCode c || c.before args0 about1) = true := by decide +kernel
set_option maxRecDepth 65536 in
theorem w_t3 : (((words1.drop 24).drop 24).take 24).all (fun c => isCode c || c.before args0 about1) = true := by decide +kernel
set_option maxRecDepth 65536 in
theorem w_t4 : ((((words1.drop 24).drop 24).drop 24).take 24).all (fun c => isCode c || c.before args0 about1) = true := by decide +kernel
set_option maxRecDepth 65536 in
theorem w_t5 : (((((words1.drop 24).drop 24).drop 24).drop 24).take 24).all (fun c => isCode c || c.before args0 about1) = true := by decide +kernel
set_option maxRecDepth 65536 in
theorem w_t6 : ((((((words1.drop 24).drop 24).drop 24).drop 24).drop 24).take 24).all (fun c => isCode c || c.before args0 about1) = true := by decide +kernel
set_option maxRecDepth 65536 in
theorem w_t7 : (((((((words1.drop 24).drop 24).drop 24).drop 24).drop 24).drop 24).take 24).all (fun c => isCode c || c.before args0 about1) = true := by decide +kernel
set_option maxRecDepth 65536 in
theorem w_t8 : ((((((((words1.drop 24).drop 24).drop 24).drop 24).drop 24).drop 24).drop 24).take 24).all (fun c => isCode c || c.before args0 about1) = true := by decide +kernel
set_option maxRecDepth 65536 in
theorem w_t9 : ((((((((words1.drop 24).drop 24).drop 24).drop 24).drop 24).drop 24).drop 24).drop 24).all (fun c => isCode c || c.before args0 about1) = true := by decide +kernel
theorem w_tables : (allAtoms (Jvm.Cond.code x code maxLocals ret :: tables_1)).before args0 about1 = true := by
  rw [allAtoms_all]
  show words1.all (fun c => c.before args0 about1) = true
  refine all_split ?_ w_codes
  rw [← List.take_append_drop 24 words1, List.all_append, w_t1, ← List.take_append_drop 24 (words1.drop 24), List.all_append, w_t2, ← List.take_append_drop 24 ((words1.drop 24).drop 24), List.all_append, w_t3, ← List.take_append_drop 24 (((words1.drop 24).drop 24).drop 24), List.all_append, w_t4, ← List.take_append_drop 24 ((((words1.drop 24).drop 24).drop 24).drop 24), List.all_append, w_t5, ← List.take_append_drop 24 (((((words1.drop 24).drop 24).drop 24).drop 24).drop 24), List.all_append, w_t6, ← List.take_append_drop 24 ((((((words1.drop 24).drop 24).drop 24).drop 24).drop 24).drop 24), List.all_append, w_t7, ← List.take_append_drop 24 (((((((words1.drop 24).drop 24).drop 24).drop 24).drop 24).drop 24).drop 24), List.all_append, w_t8, w_t9]
  rfl
set_option maxRecDepth 65536 in
theorem w_rest : rest_1_c.before args0 about1 = true := by decide +kernel
set_option maxRecDepth 65536 in
theorem w_case : (Jvm.Cond.and given_1 narrow_1).before args0 about1 = true := by decide +kernel
theorem w_applies : (headSpec (Jvm.Cond.code x code maxLocals ret :: tables_1) room_1).applies x e0.platform about1 = true :=
  (Spec.applies_iff w_frames).mpr ⟨w_running, w_runnable, w_alone, w_named, w_hears, w_ripe, w_room, w_tables⟩
theorem atStart : AtStart classFile x code maxLocals ret World_1 tables_1 room_1 Calls_1 rest_1 Pre_1 launch0 p0 e0 about1 theMethod args0 below0 :=
  ⟨lists_1, trivial, launch0.admits_env _ _ _, launch0.least_env, fairChoices_fair.cas, fairChoices_fair.clock, w_frames, w_args, w_heap, w_applies, trivial, w_rest, w_case⟩
end start1
theorem witness_1 : WitnessClaimed_1 := ⟨start1.p0, start1.e0, start1.about1, start1.theMethod, start1.args0, start1.below0, start1.atStart⟩
end Jvm.Pilot.@@N@@
