import JvmDerived
import JvmDerived.Pilot.@@N@@Statement
import JvmDerived.Pilot.@@N@@Code
set_option linter.unusedVariables false
set_option linter.unusedSimpArgs false
@@BLOCK:NumsL.lean.txt@@
namespace Jvm.Pilot.@@N@@
open Jvm Jvm.ClassFile Sem Op Lib Jvm.Free Jvm.Stand Jvm.LawKit Jvm.RoadKit Bundle Jvm.Pilot.@@N@@.Jvm.D
/-- from the state T with the frame g on top the method comes to its end, and Q holds there -/
def Goes (p : Program) (l : Launch) (e : Env) (R : Room) (s : State) (m : MethodId) (args : Array Value) (below : List Frame) (meth : Method) (c : Code) (Q : Option Value → Heap → List Loc → Prop) (T : State) (g : JFrame) : Prop :=
  ∃ (T' : State) (v : Option Value) (L : List Loc) (k n : Nat), Stand p l e R s m args below meth c T' L k n ∧ k ≤ R.cells ∧ n ≤ R.slots ∧ (meth.sig.returnType = none → v = none) ∧ Q v T'.heap L ∧
    ∀ fs, (∀ (f : JFrame) (acts : List Action), f.method = m → f.locked = none → f.entered = [] → (doReturn e (T'.setTop f) acts v).1 = T'.setFrames fs) → Steps p.tables e below (T.setTop g) (T'.setFrames fs)
section OwnGoes
variable {p : Program} {l : Launch} {e : Env} {R : Room} {s : State} {m : MethodId} {args : Array Value} {below : List Frame} {meth : Method} {c : Code} {Q : Option Value → Heap → List Loc → Prop} {T T2 : State} {g g2 : JFrame} {L : List Loc} {k n : Nat}
theorem Goes.step (st : ∀ target, Steps p.tables e below (T2.setTop g2) target → Steps p.tables e below (T.setTop g) target) (F : Goes p l e R s m args below meth c Q T2 g2) : Goes p l e R s m args below meth c Q T g := by
  obtain ⟨T', v, L, k, n, X, hk, hn, hv, hq, hs⟩ := F
  exact ⟨T', v, L, k, n, X, hk, hn, hv, hq, fun fs h => st _ (hs fs h)⟩
theorem Goes.cast (q : g = g2) (F : Goes p l e R s m args below meth c Q T g2) : Goes p l e R s m args below meth c Q T g := q ▸ F
theorem Goes.out {maxL : Nat} {s₁ : State} (hl : meth.locks = false) (F : Goes p l e R s m args below meth c Q s₁ (entryFrame m args maxL)) :
    ∃ s₂ o, Steps p.tables e below (s₁.setTop (entryFrame m args maxL)) s₂ ∧ s₂.status = .running ∧ Ended s₂ below o ∧ ∃ v L, o = .returned v ∧ Q v s₂.heap L ∧ FrameEnd s o s₂ L R.cells R.slots := by
  obtain ⟨T', v, L, k, n, X, hk, hn, hv, hq, hs⟩ := F
  obtain ⟨fs, hr, hrun, hended, hW, hsame⟩ := X.leave (v := v) hv hl
  exact ⟨_, _, hs fs hr, hrun, hended, v, L, rfl, hq, ⟨_, rfl⟩, hW, hsame.mono hk hn⟩
theorem Goes.ret {v : Option Value} (X : Stand p l e R s m args below meth c T L k n) (hk : k ≤ R.cells) (hn : n ≤ R.slots) (hv : meth.sig.returnType = none → v = none) (hq : Q v T.heap L)
    (hs : ∀ fs, (∀ (f : JFrame) (acts : List Action), f.method = m → f.locked = none → f.entered = [] → (doReturn e (T.setTop f) acts v).1 = T.setFrames fs) → Steps p.tables e below (T.setTop g) (T.setFrames fs)) : Goes p l e R s m args below meth c Q T g :=
  ⟨T, v, L, k, n, X, hk, hn, hv, hq, hs⟩
/-- the same where String constants may have been interned on the road -/
def GoesW (p : Program) (l : Launch) (e : Env) (R : Room) (s : State) (m : MethodId) (args : Array Value) (below : List Frame) (meth : Method) (c : Code) (Q : Option Value → Heap → List Loc → Prop) (T : State) (g : JFrame) : Prop :=
  ∃ (T' : State) (v : Option Value) (L : List Loc) (k n : Nat) (vm : Vm) (j : Nat), Stand p l e R (s.setVm vm) m args below meth c T' L k n ∧ s.Since vm j ∧ j ≤ T'.heap.size ∧ k ≤ R.cells ∧ n ≤ R.slots ∧ (meth.sig.returnType = none → v = none) ∧ Q v T'.heap L ∧
    ∀ fs, (∀ (f : JFrame) (acts : List Action), f.method = m → f.locked = none → f.entered = [] → (doReturn e (T'.setTop f) acts v).1 = T'.setFrames fs) → Steps p.tables e below (T.setTop g) (T'.setFrames fs)
theorem GoesW.step (st : ∀ target, Steps p.tables e below (T2.setTop g2) target → Steps p.tables e below (T.setTop g) target) (F : GoesW p l e R s m args below meth c Q T2 g2) : GoesW p l e R s m args below meth c Q T g := by
  obtain ⟨T', v, L, k, n, vm, j, X, hS, hj, hk, hn, hv, hq, hs⟩ := F
  exact ⟨T', v, L, k, n, vm, j, X, hS, hj, hk, hn, hv, hq, fun fs h => st _ (hs fs h)⟩
theorem GoesW.cast (q : g = g2) (F : GoesW p l e R s m args below meth c Q T g2) : GoesW p l e R s m args below meth c Q T g := q ▸ F
theorem GoesW.out {maxL : Nat} {s₁ : State} (hl : meth.locks = false) (F : GoesW p l e R s m args below meth c Q s₁ (entryFrame m args maxL)) :
    ∃ s₂ o, Steps p.tables e below (s₁.setTop (entryFrame m args maxL)) s₂ ∧ s₂.status = .running ∧ Ended s₂ below o ∧ ∃ v L, o = .returned v ∧ Q v s₂.heap L ∧ ReturnedEndW s o s₂ L R.cells R.slots := by
  obtain ⟨T', v, L, k, n, vm, j, X, hS, hj, hk, hn, hv, hq, hs⟩ := F
  obtain ⟨fs, hr, hrun, hended, h1, h2, h3, hsame⟩ := X.leaveW (v := v) hS hj hv hl
  exact ⟨_, _, hs fs hr, hrun, hended, v, L, rfl, hq, h1, h2, h3, hsame.mono hk hn⟩
theorem GoesW.ret {v : Option Value} {vm : Vm} {j : Nat} (X : Stand p l e R (s.setVm vm) m args below meth c T L k n) (hS : s.Since vm j) (hj : j ≤ T.heap.size) (hk : k ≤ R.cells) (hn : n ≤ R.slots) (hv : meth.sig.returnType = none → v = none) (hq : Q v T.heap L)
    (hs : ∀ fs, (∀ (f : JFrame) (acts : List Action), f.method = m → f.locked = none → f.entered = [] → (doReturn e (T.setTop f) acts v).1 = T.setFrames fs) → Steps p.tables e below (T.setTop g) (T.setFrames fs)) : GoesW p l e R s m args below meth c Q T g :=
  ⟨T, v, L, k, n, vm, j, X, hS, hj, hk, hn, hv, hq, hs⟩
theorem tw {a0 : Array Value} {Z : State} (hw : ∀ d ∈ tables_1, d.before a0 Z = true) (i : Nat) {d : Jvm.Cond} (h : tables_1[i]? = some d) : d.before a0 Z = true := hw d (List.mem_of_getElem? h)
theorem own_at {T : State} {h : Heap} {a : Addr} {c : Cell} (e : T.heap = h) (q : h[a]? = some c) : T.heap[a]? = some c := by rw [e]; exact q
theorem cmpL_self (x : Int64) : Jvm.Free.XT.cmpL x x = (0 : Int32) := by simp [Jvm.Free.XT.cmpL, Int64.lt_iff_toInt_lt]
theorem own_mvMN {Z s : State} {a0 args : Array Value} {own host : String} {index : Nat} {y : MethodName} (hZ : Z.Warmed39 s.vm) (w : (Jvm.Cond.methodLinkNest own index y host).before a0 Z = true) : (Jvm.Cond.methodLinkNest own index y host).before args s = true := (Cond.methodLinkNest_wide hZ w :)
end OwnGoes
theorem pd_0 : parseMethodDescriptor "(I[B[B[B)[B" = some ⟨[.int, (.array .byte), (.array .byte), (.array .byte)], some (.array .byte)⟩ := by decide +kernel
theorem pd_1 : parseMethodDescriptor "()V" = some ⟨[], none⟩ := by decide +kernel
theorem pd_2 : parseMethodDescriptor "()[B" = some ⟨[], some (.array .byte)⟩ := by decide +kernel
theorem pd_3 : parseMethodDescriptor "([BII[B[B[B)Z" = some ⟨[(.array .byte), .int, .int, (.array .byte), (.array .byte), (.array .byte)], some .boolean⟩ := by decide +kernel
theorem pd_4 : parseMethodDescriptor "([B)V" = some ⟨[(.array .byte)], none⟩ := by decide +kernel
abbrev Y0 : MethodName := (⟨"com/example/api_policy_gateway/apipolicygateway/net/BufferPool", "<init>", "()V"⟩ : MethodName)
abbrev Y1 : MethodName := (⟨"com/example/api_policy_gateway/apipolicygateway/net/BufferPool", "take", "()[B"⟩ : MethodName)
abbrev Y2 : MethodName := (⟨"com/example/api_policy_gateway/apipolicygateway/net/BufferPool", "give", "([B)V"⟩ : MethodName)
abbrev Y3 : MethodName := (⟨"com/example/api_policy_gateway/apipolicygateway/net/BufferPoolGivePinLaw", "pick", "(I[B[B[B)[B"⟩ : MethodName)
abbrev Y4 : MethodName := (⟨"com/example/api_policy_gateway/apipolicygateway/net/BufferPoolGivePinLaw", "expect", "([BII[B[B[B)Z"⟩ : MethodName)
def LenB (Z : State) (h : Heap) (a : Addr) (z : Int32) : Prop := ∃ c : Cell, Arr Z h a c .byte ∧ c.slots.size = z.toNatClampNeg ∧ ¬ z < 0
section OwnLen
variable {Z : State} {h h' : Heap} {a b : Addr} {z : Int32} {sl : Nat} {v : Value} {ws : List Addr} {k : ClassId} {vs : List Value} {dv : Value}
theorem LenB.of (F : Arv Z h a k .byte z vs dv) : LenB Z h a z := by obtain ⟨c, A, -, S, N, -⟩ := F; exact ⟨c, A, S, N⟩
theorem LenB.lt (F : LenB Z h a z) : a < h.size := by obtain ⟨c, A, -⟩ := F; exact A.lt
theorem LenB.ext (F : LenB Z h a z) (E : Ext h h') : LenB Z h' a z := by obtain ⟨c, A, r⟩ := F; exact ⟨c, A.ext E, r⟩
theorem LenB.other (F : LenB Z h b z) (W : Wr h h' a sl v) (q : b ≠ a) : LenB Z h' b z := by obtain ⟨c, A, r⟩ := F; exact ⟨c, A.other W q, r⟩
theorem LenB.keep (F : LenB Z h a z) (K : Keep h h' ws) (q : a ∉ ws) : LenB Z h' a z := by obtain ⟨c, A, r⟩ := F; exact ⟨c, ⟨K.2.1 a c A.1 q, A.2⟩, r⟩
end OwnLen
theorem own_mask3 (x : Int32) : (x &&& (3 : Int32)) = (0 : Int32) ∨ (x &&& (3 : Int32)) = (1 : Int32) ∨ (x &&& (3 : Int32)) = (2 : Int32) ∨ (x &&& (3 : Int32)) = (3 : Int32) := by
  have e1 : (x &&& 3).toInt = x.toInt % 2 ^ 2 := Jvm.Kit.i32_mask x 3 (k := 2) (by decide) (by decide)
  have e3 : (x &&& 3).toInt = 0 ∨ (x &&& 3).toInt = 1 ∨ (x &&& 3).toInt = 2 ∨ (x &&& 3).toInt = 3 := by omega
  simp only [← Int32.toInt_inj]
  rcases e3 with h | h | h | h <;> rw [h] <;> decide
theorem d0_0 : decode prog_16_method_1_code 0 = .ok (.aload_n 0, 1) := by decide +kernel
theorem d0_1 : decode prog_16_method_1_code 1 = .ok (.invokespecial 1, 3) := by decide +kernel
theorem d0_4 : decode prog_16_method_1_code 4 = .ok (.aload_n 0, 1) := by decide +kernel
theorem d0_5 : decode prog_16_method_1_code 5 = .ok (.bipush 64, 2) := by decide +kernel
theorem d0_7 : decode prog_16_method_1_code 7 = .ok (.anewarray 9, 3) := by decide +kernel
theorem d0_10 : decode prog_16_method_1_code 10 = .ok (.putfield 11, 3) := by decide +kernel
theorem d0_13 : decode prog_16_method_1_code 13 = .ok (.return_, 1) := by decide +kernel
theorem pn_com_example_api_policy_gateway_apipolicygateway_net_BufferPool : plainName "com/example/api_policy_gateway/apipolicygateway/net/BufferPool" = true := by first | (simp [plainName, overriddenIn]; done) | decide +kernel
def Q_rm_pool (Z : State) (a1 : Addr) (h0 : Heap) (n0 : Nat) (v : Option Value) (h : Heap) (L : List Loc) : Prop := ∃ sp : Addr, ∃ k : ClassId, v = none ∧ Fr n0 L ∧ Keep h0 h [a1] ∧ h0.size ≤ sp ∧ Fld Z h a1 "com/example/api_policy_gateway/apipolicygateway/net/BufferPool" "spare" "[[B" (.ref sp) ∧ Fld Z h a1 "com/example/api_policy_gateway/apipolicygateway/net/BufferPool" "spareCount" "I" (.int (0 : Int32)) ∧ Arv Z h sp k (.array .byte) (64 : Int32) [.null, .null, .null] .null ∧ OvrA Z k .byte "[B"
set_option maxRecDepth 65536 in
set_option maxHeartbeats 40000000 in
theorem rm_pool (l : Launch) (Z : State) (a0 : Array Value) (hw : ∀ d ∈ tables_1, d.before a0 Z = true) (ws : List Jvm.Cond) (a1 : Addr) (h0 : Heap) (n0 : Nat) (Z0 : n0 ≤ h0.size) (O0 : Old Z n0 h0) (E_a1 : Exa Z h0 a1 "com/example/api_policy_gateway/apipolicygateway/net/BufferPool") (F_a1_spare : Fld Z h0 a1 "com/example/api_policy_gateway/apipolicygateway/net/BufferPool" "spare" "[[B" .null) (F_a1_spareCount : Fld Z h0 a1 "com/example/api_policy_gateway/apipolicygateway/net/BufferPool" "spareCount" "I" (.int (0 : Int32))) (ge_a1 : n0 ≤ a1) :
    MetFree l Y0 (head1 (Jvm.Cond.code Y0 prog_16_method_1_code 1 none :: ws) ({ frames := 1, cells := 1, slots := 64, locals := 12 } : Room)) (fun a U => a = #[(.ref a1)] ∧ Z.Warmed39 U.vm ∧ U.heap = h0) (fun _ _ _ _ _ => True) (fun _ U o U' => ∃ v L, o = .returned v ∧ Q_rm_pool Z a1 h0 n0 v U'.heap L ∧ FrameEnd U o U' L ({ frames := 1, cells := 1, slots := 64, locals := 12 } : Room).cells ({ frames := 1, cells := 1, slots := 64, locals := 12 } : Room).slots) := by
  refine MetFree.of_bodySF (plainFor_of_name pn_com_example_api_policy_gateway_apipolicygateway_net_BufferPool) hisR ?_
  intro p e s m args below meth c s₁ Bd hml0 hP hK
  obtain ⟨rfl, hZ, hh⟩ := hP
  have hx := Bd.exec
  have hby := Bd.bytes
  have hml : c.maxLocals = 1 := hml0
  have hown : s.vm.findClass "com/example/api_policy_gateway/apipolicygateway/net/BufferPool" = some m.cls := findClass_of_methodNamed Bd.named
  have hnm := (name_of_methodNamed Bd.named Bd.method).1
  have X0 : Stand p l e ({ frames := 1, cells := 1, slots := 64, locals := 12 } : Room) s m #[(.ref a1)] below meth c s₁ [] 0 0 := Stand.of_body Bd
  have e0 : s₁.heap = h0 := by rw [← hh, Bd.state]; rfl
  have N0 := Fr.nil n0
  refine Goes.out (l := l) (c := c) (R := ({ frames := 1, cells := 1, slots := 64, locals := 12 } : Room)) (Q := Q_rm_pool Z a1 h0 n0) Bd.notSynchronized ?_
  refine Goes.cast (g2 := mkF m 0 #[rv a1] []) (by first | (simp [entryFrame, mkF, argsToLocals, Value.category]; done) | rfl) ?_
  have K0 : Keep h0 h0 [a1] := Keep.refl h0 _
  have hws : ∀ x ∈ [a1], n0 ≤ x := (allS ge_a1 all0)
  refine Goes.step (T2 := s₁) (g2 := (mkF m 1 #[rv a1] [(.ref a1)])) (fun _ hr => XS.aloadN X0.here hx rfl (hb hby d0_0) rfl rfl hr) ?_
  have Zs1 : n0 ≤ h0.size := Nat.le_trans Z0 K0.1
  obtain ⟨T2, X2, e2, st2⟩ := initO X0 hx hZ hown (tw hw 6 rfl) (tw hw 7 rfl) (tw hw 8 rfl) e0 (g := (mkF m 1 #[rv a1] [(.ref a1)])) rfl (by rw [hml]; rfl) rfl (hb hby d0_1) (by decide) (W := 0) (by show 2 * 0 + _ ≤ _; exact Nat.le_of_eq rfl) (by decide)
  refine Goes.step (T2 := T2) (g2 := (mkF m 4 #[rv a1] [])) st2 ?_
  refine Goes.step (T2 := T2) (g2 := (mkF m 5 #[rv a1] [(.ref a1)])) (fun _ hr => XS.aloadN X2.here hx rfl (hb hby d0_4) rfl rfl hr) ?_
  refine Goes.step (T2 := T2) (g2 := (mkF m 7 #[rv a1] [(.int (64 : Int32)), (.ref a1)])) (fun _ hr => XS.bipush X2.here hx rfl (hb hby d0_5) hr) ?_
  obtain ⟨T3, h3, k3, X3, e3, E3, A3, Ax3, Ov3, st3⟩ := newRA X2 hx hZ hown (ty := .byte) (C := "[B") (by decide) (tw hw 9 rfl) (tw hw 10 rfl) e2 (g := (mkF m 7 #[rv a1] [(.int (64 : Int32)), (.ref a1)])) rfl (hb hby d0_7) rfl (by decide) (cap := 64) (by decide) (by decide) (by decide) (by decide) (ad := "[[B") (by decide)
  obtain ⟨b3, g3⟩ : ∃ z, z = h0.size := ⟨_, rfl⟩
  rw [← g3] at A3 Ax3 st3
  have sz_b3 : h0.size ≤ b3 := Nat.le_trans K0.1 (Nat.le_of_eq g3.symm)
  have ge_b3 : n0 ≤ b3 := Nat.le_trans Z0 sz_b3
  have E_a1_3 : Exa Z h3 a1 "com/example/api_policy_gateway/apipolicygateway/net/BufferPool" := E_a1.ext E3
  have F_a1_spare_3 : Fld Z h3 a1 "com/example/api_policy_gateway/apipolicygateway/net/BufferPool" "spare" "[[B" .null := F_a1_spare.ext E3
  have F_a1_spareCount_3 : Fld Z h3 a1 "com/example/api_policy_gateway/apipolicygateway/net/BufferPool" "spareCount" "I" (.int (0 : Int32)) := F_a1_spareCount.ext E3
  have K3 : Keep h0 h3 [a1] := K0.ext E3
  have V_b3_3 : Arv Z h3 b3 k3 (.array .byte) (64 : Int32) [.null, .null, .null] .null := (Arv.new A3 (by decide)).pad (pad_rep [] .null 3)
  refine Goes.step (T2 := T3) (g2 := (mkF m 10 #[rv a1] [(.ref b3), (.ref a1)])) st3 ?_
  obtain ⟨T4, h4, X4, e4, W4, st4⟩ := putF X3 hx hZ hown (host := "") (Or.inl (tw hw 11 rfl)) Via.refl e3 F_a1_spare_3 E_a1_3 (Or.inr ⟨(tw hw 12 rfl), rfl, hnm⟩) (tw hw 1 rfl) (ty := (.array (.array .byte))) (by decide) rfl rfl (g := (mkF m 10 #[rv a1] [(.ref b3), (.ref a1)])) rfl rfl (hb hby d0_10)
  have E_a1_4 : Exa Z h4 a1 "com/example/api_policy_gateway/apipolicygateway/net/BufferPool" := E_a1_3.wr W4
  have F_a1_spareCount_4 : Fld Z h4 a1 "com/example/api_policy_gateway/apipolicygateway/net/BufferPool" "spareCount" "I" (.int (0 : Int32)) := F_a1_spareCount_3.other W4 (Or.inr (slot_ne (Or.inl (tw hw 20 rfl)) (Or.inr (tw hw 12 rfl)) (by decide) (t := .int) (t' := (.array (.array .byte))) (by decide) (by decide)))
  have V_b3_4 : Arv Z h4 b3 k3 (.array .byte) (64 : Int32) [.null, .null, .null] .null := V_b3_3.other W4 (Ne.symm (Nat.ne_of_lt (Nat.lt_of_lt_of_le E_a1.lt (Nat.le_of_eq g3.symm))))
  have E_b3_4 : Exa Z h4 b3 "[[B" := Ax3.wr W4
  have K4 : Keep h0 h4 [a1] := K3.wr W4 (Or.inl (List.mem_of_getElem? (i := 0) rfl))
  have N4 := Fr.snoc X4 N0 ge_a1
  have F_a1_spare_4 : Fld Z h4 a1 "com/example/api_policy_gateway/apipolicygateway/net/BufferPool" "spare" "[[B" (.ref b3) := F_a1_spare_3.same W4
  refine Goes.step (T2 := T4) (g2 := (mkF m 13 #[rv a1] [])) st4 ?_
  exact Goes.ret (v := none) X4 (by decide) (by decide) (fun _ => rfl) (by show Q_rm_pool Z a1 h0 n0 _ T4.heap _; rw [e4]; exact ⟨b3, k3, rfl, N4, K4, sz_b3, F_a1_spare_4, F_a1_spareCount_4, V_b3_4, Ov3⟩) (fun fs hr => X4.returnOut hx Bd.returns (hb hby d0_13) hr)
theorem d1_0 : decode prog_16_method_2_code 0 = .ok (.aload_n 0, 1) := by decide +kernel
theorem d1_1 : decode prog_16_method_2_code 1 = .ok (.getfield 15, 3) := by decide +kernel
theorem d1_4 : decode prog_16_method_2_code 4 = .ok (.ifCond .ne 9, 3) := by decide +kernel
theorem d1_7 : decode prog_16_method_2_code 7 = .ok (.sipush 16384, 3) := by decide +kernel
theorem d1_10 : decode prog_16_method_2_code 10 = .ok (.newarray .byte, 2) := by decide +kernel
theorem d1_12 : decode prog_16_method_2_code 12 = .ok (.areturn, 1) := by decide +kernel
def Q_rm_take0 (Z : State) (a1 : Addr) (h0 : Heap) (n0 : Nat) (v : Option Value) (h : Heap) (L : List Loc) : Prop := ∃ w : Addr, ∃ kw : ClassId, v = some (.ref w) ∧ Fr n0 L ∧ Keep h0 h [] ∧ h0.size ≤ w ∧ Exa Z h w "[B" ∧ Arv Z h w kw .byte (16384 : Int32) [] (.int (0 : Int32))
set_option maxRecDepth 65536 in
set_option maxHeartbeats 40000000 in
theorem rm_take0 (l : Launch) (Z : State) (a0 : Array Value) (hw : ∀ d ∈ tables_1, d.before a0 Z = true) (ws : List Jvm.Cond) (a1 : Addr) (h0 : Heap) (n0 : Nat) (Z0 : n0 ≤ h0.size) (O0 : Old Z n0 h0) (F_a1_spareCount : Fld Z h0 a1 "com/example/api_policy_gateway/apipolicygateway/net/BufferPool" "spareCount" "I" (.int (0 : Int32))) :
    MetFree l Y1 (head1 (Jvm.Cond.code Y1 prog_16_method_2_code 2 (some (.array .byte)) :: ws) ({ frames := 0, cells := 1, slots := 16384, locals := 0 } : Room)) (fun a U => a = #[(.ref a1)] ∧ Z.Warmed39 U.vm ∧ U.heap = h0) (fun _ _ _ _ _ => True) (fun _ U o U' => ∃ v L, o = .returned v ∧ Q_rm_take0 Z a1 h0 n0 v U'.heap L ∧ FrameEnd U o U' L ({ frames := 0, cells := 1, slots := 16384, locals := 0 } : Room).cells ({ frames := 0, cells := 1, slots := 16384, locals := 0 } : Room).slots) := by
  refine MetFree.of_bodySF (plainFor_of_name pn_com_example_api_policy_gateway_apipolicygateway_net_BufferPool) hisR ?_
  intro p e s m args below meth c s₁ Bd hml0 hP hK
  obtain ⟨rfl, hZ, hh⟩ := hP
  have hx := Bd.exec
  have hby := Bd.bytes
  have hml : c.maxLocals = 2 := hml0
  have hown : s.vm.findClass "com/example/api_policy_gateway/apipolicygateway/net/BufferPool" = some m.cls := findClass_of_methodNamed Bd.named
  have hnm := (name_of_methodNamed Bd.named Bd.method).1
  have X0 : Stand p l e ({ frames := 0, cells := 1, slots := 16384, locals := 0 } : Room) s m #[(.ref a1)] below meth c s₁ [] 0 0 := Stand.of_body Bd
  have e0 : s₁.heap = h0 := by rw [← hh, Bd.state]; rfl
  have N0 := Fr.nil n0
  refine Goes.out (l := l) (c := c) (R := ({ frames := 0, cells := 1, slots := 16384, locals := 0 } : Room)) (Q := Q_rm_take0 Z a1 h0 n0) Bd.notSynchronized ?_
  refine Goes.cast (g2 := mkF m 0 #[rv a1, .unset] []) (by first | (simp [entryFrame, mkF, argsToLocals, Value.category]; done) | rfl) ?_
  have K0 : Keep h0 h0 [] := Keep.refl h0 _
  have hws : ∀ x ∈ ([] : List Addr), n0 ≤ x := all0
  refine Goes.step (T2 := s₁) (g2 := (mkF m 1 #[rv a1, .unset] [(.ref a1)])) (fun _ hr => XS.aloadN X0.here hx rfl (hb hby d1_0) rfl rfl hr) ?_
  obtain ⟨T5, X5, e5, st5⟩ := getF X0 hx hZ hown (host := "") (Or.inl (tw hw 19 rfl)) Via.refl e0 F_a1_spareCount (g := (mkF m 1 #[rv a1, .unset] [(.ref a1)])) rfl rfl (hb hby d1_1)
  refine Goes.step (T2 := T5) (g2 := (mkF m 4 #[rv a1, .unset] [(.int (0 : Int32))])) st5 ?_
  refine Goes.step (T2 := T5) (g2 := (mkF m 7 #[rv a1, .unset] [])) (fun _ hr => XS.ifNo X5.here hx rfl (hb hby d1_4) rfl ((if0 _ _).trans (teq (by decide : (0 : Int32) = (0 : Int32))).2) hr) ?_
  refine Goes.step (T2 := T5) (g2 := (mkF m 10 #[rv a1, .unset] [(.int (16384 : Int32))])) (fun _ hr => XS.sipush X5.here hx rfl (hb hby d1_7) hr) ?_
  obtain ⟨T6, h6, k6, X6, e6, E6, A6, Ax6, st6⟩ := newPE X5 hx hZ (tw hw 13 rfl) e5 (g := (mkF m 10 #[rv a1, .unset] [(.int (16384 : Int32))])) rfl (hb hby d1_10) rfl (by decide) (cap := 16384) (by decide) (by decide) (by decide) (by decide) (ad := "[B") (by decide)
  obtain ⟨b6, g6⟩ : ∃ z, z = h0.size := ⟨_, rfl⟩
  rw [← g6] at A6 Ax6 st6
  have sz_b6 : h0.size ≤ b6 := Nat.le_trans K0.1 (Nat.le_of_eq g6.symm)
  have ge_b6 : n0 ≤ b6 := Nat.le_trans Z0 sz_b6
  have F_a1_spareCount_6 : Fld Z h6 a1 "com/example/api_policy_gateway/apipolicygateway/net/BufferPool" "spareCount" "I" (.int (0 : Int32)) := F_a1_spareCount.ext E6
  have K6 : Keep h0 h6 [] := K0.ext E6
  have V_b6_6 : Arv Z h6 b6 k6 .byte (16384 : Int32) [] (.int (0 : Int32)) := Arv.new A6 (by decide)
  refine Goes.step (T2 := T6) (g2 := (mkF m 12 #[rv a1, .unset] [(.ref b6)])) st6 ?_
  exact Goes.ret (v := some (.ref b6)) X6 (by decide) (by decide) (fun h => by rw [Bd.returns] at h; cases h) (by show Q_rm_take0 Z a1 h0 n0 _ T6.heap _; rw [e6]; exact ⟨b6, k6, rfl, N0, K6, sz_b6, Ax6, V_b6_6⟩) (fun fs hr => retOut X6 hx Bd.returns rfl (Or.inr (Or.inr (Or.inr (Or.inr ⟨rfl, rfl, rfl⟩)))) (hb hby d1_12) hr)
theorem d1_13 : decode prog_16_method_2_code 13 = .ok (.aload_n 0, 1) := by decide +kernel
theorem d1_14 : decode prog_16_method_2_code 14 = .ok (.dup, 1) := by decide +kernel
theorem d1_15 : decode prog_16_method_2_code 15 = .ok (.getfield 15, 3) := by decide +kernel
theorem d1_18 : decode prog_16_method_2_code 18 = .ok (.iconst 1, 1) := by decide +kernel
theorem d1_19 : decode prog_16_method_2_code 19 = .ok (.isub, 1) := by decide +kernel
theorem d1_20 : decode prog_16_method_2_code 20 = .ok (.putfield 15, 3) := by decide +kernel
theorem d1_23 : decode prog_16_method_2_code 23 = .ok (.aload_n 0, 1) := by decide +kernel
theorem d1_24 : decode prog_16_method_2_code 24 = .ok (.getfield 11, 3) := by decide +kernel
theorem d1_27 : decode prog_16_method_2_code 27 = .ok (.aload_n 0, 1) := by decide +kernel
theorem d1_28 : decode prog_16_method_2_code 28 = .ok (.getfield 15, 3) := by decide +kernel
theorem d1_31 : decode prog_16_method_2_code 31 = .ok (.aaload, 1) := by decide +kernel
theorem d1_32 : decode prog_16_method_2_code 32 = .ok (.astore_n 1, 1) := by decide +kernel
theorem d1_33 : decode prog_16_method_2_code 33 = .ok (.aload_n 0, 1) := by decide +kernel
theorem d1_34 : decode prog_16_method_2_code 34 = .ok (.getfield 11, 3) := by decide +kernel
theorem d1_37 : decode prog_16_method_2_code 37 = .ok (.aload_n 0, 1) := by decide +kernel
theorem d1_38 : decode prog_16_method_2_code 38 = .ok (.getfield 15, 3) := by decide +kernel
theorem d1_41 : decode prog_16_method_2_code 41 = .ok (.aconst_null, 1) := by decide +kernel
theorem d1_42 : decode prog_16_method_2_code 42 = .ok (.aastore, 1) := by decide +kernel
theorem d1_43 : decode prog_16_method_2_code 43 = .ok (.aload_n 1, 1) := by decide +kernel
theorem d1_44 : decode prog_16_method_2_code 44 = .ok (.areturn, 1) := by decide +kernel
def Q_rm_take1 (Z : State) (a1 : Addr) (sp : Addr) (k : ClassId) (v1 : Value) (v2 : Value) (x : Addr) (h0 : Heap) (n0 : Nat) (v : Option Value) (h : Heap) (L : List Loc) : Prop := v = some (.ref x) ∧ Fr n0 L ∧ Keep h0 h [a1, sp] ∧ Fld Z h a1 "com/example/api_policy_gateway/apipolicygateway/net/BufferPool" "spare" "[[B" (.ref sp) ∧ Fld Z h a1 "com/example/api_policy_gateway/apipolicygateway/net/BufferPool" "spareCount" "I" (.int (0 : Int32)) ∧ Arv Z h sp k (.array .byte) (64 : Int32) [.null, v1, v2] .null
set_option maxRecDepth 65536 in
set_option maxHeartbeats 40000000 in
theorem rm_take1 (l : Launch) (Z : State) (a0 : Array Value) (hw : ∀ d ∈ tables_1, d.before a0 Z = true) (ws : List Jvm.Cond) (a1 : Addr) (sp : Addr) (k : ClassId) (v1 : Value) (v2 : Value) (x : Addr) (h0 : Heap) (n0 : Nat) (Z0 : n0 ≤ h0.size) (O0 : Old Z n0 h0) (E_a1 : Exa Z h0 a1 "com/example/api_policy_gateway/apipolicygateway/net/BufferPool") (F_a1_spare : Fld Z h0 a1 "com/example/api_policy_gateway/apipolicygateway/net/BufferPool" "spare" "[[B" (.ref sp)) (F_a1_spareCount : Fld Z h0 a1 "com/example/api_policy_gateway/apipolicygateway/net/BufferPool" "spareCount" "I" (.int (1 : Int32))) (V_sp : Arv Z h0 sp k (.array .byte) (64 : Int32) [(.ref x), v1, v2] .null) (ge_a1 : n0 ≤ a1) (ge_sp : n0 ≤ sp) (ne_a1_sp : a1 ≠ sp) :
    MetFree l Y1 (head1 (Jvm.Cond.code Y1 prog_16_method_2_code 2 (some (.array .byte)) :: ws) ({ frames := 0, cells := 0, slots := 0, locals := 0 } : Room)) (fun a U => a = #[(.ref a1)] ∧ Z.Warmed39 U.vm ∧ U.heap = h0) (fun _ _ _ _ _ => True) (fun _ U o U' => ∃ v L, o = .returned v ∧ Q_rm_take1 Z a1 sp k v1 v2 x h0 n0 v U'.heap L ∧ FrameEnd U o U' L ({ frames := 0, cells := 0, slots := 0, locals := 0 } : Room).cells ({ frames := 0, cells := 0, slots := 0, locals := 0 } : Room).slots) := by
  refine MetFree.of_bodySF (plainFor_of_name pn_com_example_api_policy_gateway_apipolicygateway_net_BufferPool) hisR ?_
  intro p e s m args below meth c s₁ Bd hml0 hP hK
  obtain ⟨rfl, hZ, hh⟩ := hP
  have hx := Bd.exec
  have hby := Bd.bytes
  have hml : c.maxLocals = 2 := hml0
  have hown : s.vm.findClass "com/example/api_policy_gateway/apipolicygateway/net/BufferPool" = some m.cls := findClass_of_methodNamed Bd.named
  have hnm := (name_of_methodNamed Bd.named Bd.method).1
  have X0 : Stand p l e ({ frames := 0, cells := 0, slots := 0, locals := 0 } : Room) s m #[(.ref a1)] below meth c s₁ [] 0 0 := Stand.of_body Bd
  have e0 : s₁.heap = h0 := by rw [← hh, Bd.state]; rfl
  have N0 := Fr.nil n0
  refine Goes.out (l := l) (c := c) (R := ({ frames := 0, cells := 0, slots := 0, locals := 0 } : Room)) (Q := Q_rm_take1 Z a1 sp k v1 v2 x h0 n0) Bd.notSynchronized ?_
  refine Goes.cast (g2 := mkF m 0 #[rv a1, .unset] []) (by first | (simp [entryFrame, mkF, argsToLocals, Value.category]; done) | rfl) ?_
  have K0 : Keep h0 h0 [a1, sp] := Keep.refl h0 _
  have hws : ∀ x ∈ [a1, sp], n0 ≤ x := (allS ge_a1 (allS ge_sp all0))
  refine Goes.step (T2 := s₁) (g2 := (mkF m 1 #[rv a1, .unset] [(.ref a1)])) (fun _ hr => XS.aloadN X0.here hx rfl (hb hby d1_0) rfl rfl hr) ?_
  obtain ⟨T7, X7, e7, st7⟩ := getF X0 hx hZ hown (host := "") (Or.inl (tw hw 19 rfl)) Via.refl e0 F_a1_spareCount (g := (mkF m 1 #[rv a1, .unset] [(.ref a1)])) rfl rfl (hb hby d1_1)
  refine Goes.step (T2 := T7) (g2 := (mkF m 4 #[rv a1, .unset] [(.int (1 : Int32))])) st7 ?_
  refine Goes.step (T2 := T7) (g2 := (mkF m 13 #[rv a1, .unset] [])) (fun _ hr => XS.ifYes X7.here hx rfl (pc0 := 4) (pc' := 13) rfl (hb hby d1_4) rfl ((if0 _ _).trans (feq (by decide : ¬ ((1 : Int32) = (0 : Int32)))).2) (by decide) (by decide) hr) ?_
  refine Goes.step (T2 := T7) (g2 := (mkF m 14 #[rv a1, .unset] [(.ref a1)])) (fun _ hr => XS.aloadN X7.here hx rfl (hb hby d1_13) rfl rfl hr) ?_
  refine Goes.step (T2 := T7) (g2 := (mkF m 15 #[rv a1, .unset] [(.ref a1), (.ref a1)])) (fun _ hr => XS.dup X7.here hx rfl (hb hby d1_14) rfl rfl hr) ?_
  obtain ⟨T8, X8, e8, st8⟩ := getF X7 hx hZ hown (host := "") (Or.inl (tw hw 19 rfl)) Via.refl e7 F_a1_spareCount (g := (mkF m 15 #[rv a1, .unset] [(.ref a1), (.ref a1)])) rfl rfl (hb hby d1_15)
  refine Goes.step (T2 := T8) (g2 := (mkF m 18 #[rv a1, .unset] [(.int (1 : Int32)), (.ref a1)])) st8 ?_
  refine Goes.step (T2 := T8) (g2 := (mkF m 19 #[rv a1, .unset] [(.int (1 : Int32)), (.int (1 : Int32)), (.ref a1)])) (fun _ hr => XS.iconst X8.here hx rfl (hb hby d1_18) hr) ?_
  refine Goes.step (T2 := T8) (g2 := (mkF m 20 #[rv a1, .unset] [(.int (0 : Int32)), (.ref a1)])) (fun _ hr => XS.isub X8.here hx rfl (hb hby d1_19) rfl hr) ?_
  obtain ⟨T9, h9, X9, e9, W9, st9⟩ := putF X8 hx hZ hown (host := "") (Or.inl (tw hw 19 rfl)) Via.refl e8 F_a1_spareCount E_a1 (Or.inl (tw hw 20 rfl)) (tw hw 1 rfl) (ty := .int) (by decide) rfl rfl (g := (mkF m 20 #[rv a1, .unset] [(.int (0 : Int32)), (.ref a1)])) rfl rfl (hb hby d1_20)
  have E_a1_9 : Exa Z h9 a1 "com/example/api_policy_gateway/apipolicygateway/net/BufferPool" := E_a1.wr W9
  have F_a1_spare_9 : Fld Z h9 a1 "com/example/api_policy_gateway/apipolicygateway/net/BufferPool" "spare" "[[B" (.ref sp) := F_a1_spare.other W9 (Or.inr (slot_ne (Or.inr (tw hw 12 rfl)) (Or.inl (tw hw 20 rfl)) (by decide) (t := (.array (.array .byte))) (t' := .int) (by decide) (by decide)))
  have V_sp_9 : Arv Z h9 sp k (.array .byte) (64 : Int32) [(.ref x), v1, v2] .null := V_sp.other W9 (Ne.symm ne_a1_sp)
  have K9 : Keep h0 h9 [a1, sp] := K0.wr W9 (Or.inl (List.mem_of_getElem? (i := 0) rfl))
  have N9 := Fr.snoc X9 N0 ge_a1
  have F_a1_spareCount_9 : Fld Z h9 a1 "com/example/api_policy_gateway/apipolicygateway/net/BufferPool" "spareCount" "I" (.int (0 : Int32)) := F_a1_spareCount.same W9
  refine Goes.step (T2 := T9) (g2 := (mkF m 23 #[rv a1, .unset] [])) st9 ?_
  refine Goes.step (T2 := T9) (g2 := (mkF m 24 #[rv a1, .unset] [(.ref a1)])) (fun _ hr => XS.aloadN X9.here hx rfl (hb hby d1_23) rfl rfl hr) ?_
  obtain ⟨T10, X10, e10, st10⟩ := getF X9 hx hZ hown (host := "") (Or.inl (tw hw 11 rfl)) Via.refl e9 F_a1_spare_9 (g := (mkF m 24 #[rv a1, .unset] [(.ref a1)])) rfl rfl (hb hby d1_24)
  refine Goes.step (T2 := T10) (g2 := (mkF m 27 #[rv a1, .unset] [(.ref sp)])) st10 ?_
  refine Goes.step (T2 := T10) (g2 := (mkF m 28 #[rv a1, .unset] [(.ref a1), (.ref sp)])) (fun _ hr => XS.aloadN X10.here hx rfl (hb hby d1_27) rfl rfl hr) ?_
  obtain ⟨T11, X11, e11, st11⟩ := getF X10 hx hZ hown (host := "") (Or.inl (tw hw 19 rfl)) Via.refl e10 F_a1_spareCount_9 (g := (mkF m 28 #[rv a1, .unset] [(.ref a1), (.ref sp)])) rfl rfl (hb hby d1_28)
  refine Goes.step (T2 := T11) (g2 := (mkF m 31 #[rv a1, .unset] [(.int (0 : Int32)), (.ref sp)])) st11 ?_
  obtain ⟨cl12, Ar12, q12, S12, Nn12, H12, G12⟩ := id V_sp_9
  have hin12 : ¬ ((0 : Int32) < 0 ∨ cl12.slots.size ≤ ((0 : Int32)).toNatClampNeg) := inb_of S12 ⟨by decide, by decide⟩
  refine Goes.step (T2 := T11) (g2 := (mkF m 32 #[rv a1, .unset] [(.ref x)])) (X11.aaload hx (j := (0 : Int32)) (v := (.ref x)) (own_at e11 Ar12.1) (State.isArrayOf_alike hZ.alike Ar12.2.1) rfl Ar12.2.2 hin12 (H12.at hin12 rfl) (g := (mkF m 31 #[rv a1, .unset] [(.int (0 : Int32)), (.ref sp)])) rfl rfl (hb hby d1_31)) ?_
  refine Goes.step (T2 := T11) (g2 := (mkF m 33 #[rv a1, rv x] [])) (fun _ hr => XS.astoreN X11.here hx rfl (hb hby d1_32) rfl rfl (l' := #[rv a1, rv x]) rfl hr) ?_
  refine Goes.step (T2 := T11) (g2 := (mkF m 34 #[rv a1, rv x] [(.ref a1)])) (fun _ hr => XS.aloadN X11.here hx rfl (hb hby d1_33) rfl rfl hr) ?_
  obtain ⟨T13, X13, e13, st13⟩ := getF X11 hx hZ hown (host := "") (Or.inl (tw hw 11 rfl)) Via.refl e11 F_a1_spare_9 (g := (mkF m 34 #[rv a1, rv x] [(.ref a1)])) rfl rfl (hb hby d1_34)
  refine Goes.step (T2 := T13) (g2 := (mkF m 37 #[rv a1, rv x] [(.ref sp)])) st13 ?_
  refine Goes.step (T2 := T13) (g2 := (mkF m 38 #[rv a1, rv x] [(.ref a1), (.ref sp)])) (fun _ hr => XS.aloadN X13.here hx rfl (hb hby d1_37) rfl rfl hr) ?_
  obtain ⟨T14, X14, e14, st14⟩ := getF X13 hx hZ hown (host := "") (Or.inl (tw hw 19 rfl)) Via.refl e13 F_a1_spareCount_9 (g := (mkF m 38 #[rv a1, rv x] [(.ref a1), (.ref sp)])) rfl rfl (hb hby d1_38)
  refine Goes.step (T2 := T14) (g2 := (mkF m 41 #[rv a1, rv x] [(.int (0 : Int32)), (.ref sp)])) st14 ?_
  refine Goes.step (T2 := T14) (g2 := (mkF m 42 #[rv a1, rv x] [.null, (.int (0 : Int32)), (.ref sp)])) (fun _ hr => XS.aconstNull X14.here hx rfl (hb hby d1_41) hr) ?_
  obtain ⟨cl15, Ar15, q15, S15, Nn15, H15, G15⟩ := id V_sp_9
  have hin15 : ¬ ((0 : Int32) < 0 ∨ cl15.slots.size ≤ ((0 : Int32)).toNatClampNeg) := inb_of S15 ⟨by decide, by decide⟩
  obtain ⟨T15, h15, X15, e15, W15, st15⟩ := stR X14 hx hZ e14 Ar15 (j := (0 : Int32)) hin15 rfl (Or.inl rfl) (g := (mkF m 42 #[rv a1, rv x] [.null, (.int (0 : Int32)), (.ref sp)])) rfl rfl (hb hby d1_42)
  have E_a1_15 : Exa Z h15 a1 "com/example/api_policy_gateway/apipolicygateway/net/BufferPool" := E_a1_9.wr W15
  have F_a1_spare_15 : Fld Z h15 a1 "com/example/api_policy_gateway/apipolicygateway/net/BufferPool" "spare" "[[B" (.ref sp) := F_a1_spare_9.other W15 (Or.inl ne_a1_sp)
  have F_a1_spareCount_15 : Fld Z h15 a1 "com/example/api_policy_gateway/apipolicygateway/net/BufferPool" "spareCount" "I" (.int (0 : Int32)) := F_a1_spareCount_9.other W15 (Or.inl ne_a1_sp)
  have K15 : Keep h0 h15 [a1, sp] := K9.wr W15 (Or.inl (List.mem_of_getElem? (i := 1) rfl))
  have N15 := Fr.snoc X15 N9 ge_sp
  have V_sp_15 : Arv Z h15 sp k (.array .byte) (64 : Int32) [.null, v1, v2] .null := Arv.set Ar15 q15 S15 Nn15 H15 G15 rfl W15 0 rfl (Nat.le_of_ble_eq_true rfl)
  refine Goes.step (T2 := T15) (g2 := (mkF m 43 #[rv a1, rv x] [])) st15 ?_
  refine Goes.step (T2 := T15) (g2 := (mkF m 44 #[rv a1, rv x] [(.ref x)])) (fun _ hr => XS.aloadN X15.here hx rfl (hb hby d1_43) rfl rfl hr) ?_
  exact Goes.ret (v := some (.ref x)) X15 (by decide) (by decide) (fun h => by rw [Bd.returns] at h; cases h) (by show Q_rm_take1 Z a1 sp k v1 v2 x h0 n0 _ T15.heap _; rw [e15]; exact ⟨rfl, N15, K15, F_a1_spare_15, F_a1_spareCount_15, V_sp_15⟩) (fun fs hr => retOut X15 hx Bd.returns rfl (Or.inr (Or.inr (Or.inr (Or.inr ⟨rfl, rfl, rfl⟩)))) (hb hby d1_44) hr)
def Q_rm_take2 (Z : State) (a1 : Addr) (sp : Addr) (k : ClassId) (v0 : Value) (v2 : Value) (x : Addr) (h0 : Heap) (n0 : Nat) (v : Option Value) (h : Heap) (L : List Loc) : Prop := v = some (.ref x) ∧ Fr n0 L ∧ Keep h0 h [a1, sp] ∧ Fld Z h a1 "com/example/api_policy_gateway/apipolicygateway/net/BufferPool" "spare" "[[B" (.ref sp) ∧ Fld Z h a1 "com/example/api_policy_gateway/apipolicygateway/net/BufferPool" "spareCount" "I" (.int (1 : Int32)) ∧ Arv Z h sp k (.array .byte) (64 : Int32) [v0, .null, v2] .null
set_option maxRecDepth 65536 in
set_option maxHeartbeats 40000000 in
theorem rm_take2 (l : Launch) (Z : State) (a0 : Array Value) (hw : ∀ d ∈ tables_1, d.before a0 Z = true) (ws : List Jvm.Cond) (a1 : Addr) (sp : Addr) (k : ClassId) (v0 : Value) (v2 : Value) (x : Addr) (h0 : Heap) (n0 : Nat) (Z0 : n0 ≤ h0.size) (O0 : Old Z n0 h0) (E_a1 : Exa Z h0 a1 "com/example/api_policy_gateway/apipolicygateway/net/BufferPool") (F_a1_spare : Fld Z h0 a1 "com/example/api_policy_gateway/apipolicygateway/net/BufferPool" "spare" "[[B" (.ref sp)) (F_a1_spareCount : Fld Z h0 a1 "com/example/api_policy_gateway/apipolicygateway/net/BufferPool" "spareCount" "I" (.int (2 : Int32))) (V_sp : Arv Z h0 sp k (.array .byte) (64 : Int32) [v0, (.ref x), v2] .null) (ge_a1 : n0 ≤ a1) (ge_sp : n0 ≤ sp) (ne_a1_sp : a1 ≠ sp) :
    MetFree l Y1 (head1 (Jvm.Cond.code Y1 prog_16_method_2_code 2 (some (.array .byte)) :: ws) ({ frames := 0, cells := 0, slots := 0, locals := 0 } : Room)) (fun a U => a = #[(.ref a1)] ∧ Z.Warmed39 U.vm ∧ U.heap = h0) (fun _ _ _ _ _ => True) (fun _ U o U' => ∃ v L, o = .returned v ∧ Q_rm_take2 Z a1 sp k v0 v2 x h0 n0 v U'.heap L ∧ FrameEnd U o U' L ({ frames := 0, cells := 0, slots := 0, locals := 0 } : Room).cells ({ frames := 0, cells := 0, slots := 0, locals := 0 } : Room).slots) := by
  refine MetFree.of_bodySF (plainFor_of_name pn_com_example_api_policy_gateway_apipolicygateway_net_BufferPool) hisR ?_
  intro p e s m args below meth c s₁ Bd hml0 hP hK
  obtain ⟨rfl, hZ, hh⟩ := hP
  have hx := Bd.exec
  have hby := Bd.bytes
  have hml : c.maxLocals = 2 := hml0
  have hown : s.vm.findClass "com/example/api_policy_gateway/apipolicygateway/net/BufferPool" = some m.cls := findClass_of_methodNamed Bd.named
  have hnm := (name_of_methodNamed Bd.named Bd.method).1
  have X0 : Stand p l e ({ frames := 0, cells := 0, slots := 0, locals := 0 } : Room) s m #[(.ref a1)] below meth c s₁ [] 0 0 := Stand.of_body Bd
  have e0 : s₁.heap = h0 := by rw [← hh, Bd.state]; rfl
  have N0 := Fr.nil n0
  refine Goes.out (l := l) (c := c) (R := ({ frames := 0, cells := 0, slots := 0, locals := 0 } : Room)) (Q := Q_rm_take2 Z a1 sp k v0 v2 x h0 n0) Bd.notSynchronized ?_
  refine Goes.cast (g2 := mkF m 0 #[rv a1, .unset] []) (by first | (simp [entryFrame, mkF, argsToLocals, Value.category]; done) | rfl) ?_
  have K0 : Keep h0 h0 [a1, sp] := Keep.refl h0 _
  have hws : ∀ x ∈ [a1, sp], n0 ≤ x := (allS ge_a1 (allS ge_sp all0))
  refine Goes.step (T2 := s₁) (g2 := (mkF m 1 #[rv a1, .unset] [(.ref a1)])) (fun _ hr => XS.aloadN X0.here hx rfl (hb hby d1_0) rfl rfl hr) ?_
  obtain ⟨T16, X16, e16, st16⟩ := getF X0 hx hZ hown (host := "") (Or.inl (tw hw 19 rfl)) Via.refl e0 F_a1_spareCount (g := (mkF m 1 #[rv a1, .unset] [(.ref a1)])) rfl rfl (hb hby d1_1)
  refine Goes.step (T2 := T16) (g2 := (mkF m 4 #[rv a1, .unset] [(.int (2 : Int32))])) st16 ?_
  refine Goes.step (T2 := T16) (g2 := (mkF m 13 #[rv a1, .unset] [])) (fun _ hr => XS.ifYes X16.here hx rfl (pc0 := 4) (pc' := 13) rfl (hb hby d1_4) rfl ((if0 _ _).trans (feq (by decide : ¬ ((2 : Int32) = (0 : Int32)))).2) (by decide) (by decide) hr) ?_
  refine Goes.step (T2 := T16) (g2 := (mkF m 14 #[rv a1, .unset] [(.ref a1)])) (fun _ hr => XS.aloadN X16.here hx rfl (hb hby d1_13) rfl rfl hr) ?_
  refine Goes.step (T2 := T16) (g2 := (mkF m 15 #[rv a1, .unset] [(.ref a1), (.ref a1)])) (fun _ hr => XS.dup X16.here hx rfl (hb hby d1_14) rfl rfl hr) ?_
  obtain ⟨T17, X17, e17, st17⟩ := getF X16 hx hZ hown (host := "") (Or.inl (tw hw 19 rfl)) Via.refl e16 F_a1_spareCount (g := (mkF m 15 #[rv a1, .unset] [(.ref a1), (.ref a1)])) rfl rfl (hb hby d1_15)
  refine Goes.step (T2 := T17) (g2 := (mkF m 18 #[rv a1, .unset] [(.int (2 : Int32)), (.ref a1)])) st17 ?_
  refine Goes.step (T2 := T17) (g2 := (mkF m 19 #[rv a1, .unset] [(.int (1 : Int32)), (.int (2 : Int32)), (.ref a1)])) (fun _ hr => XS.iconst X17.here hx rfl (hb hby d1_18) hr) ?_
  refine Goes.step (T2 := T17) (g2 := (mkF m 20 #[rv a1, .unset] [(.int (1 : Int32)), (.ref a1)])) (fun _ hr => XS.isub X17.here hx rfl (hb hby d1_19) rfl hr) ?_
  obtain ⟨T18, h18, X18, e18, W18, st18⟩ := putF X17 hx hZ hown (host := "") (Or.inl (tw hw 19 rfl)) Via.refl e17 F_a1_spareCount E_a1 (Or.inl (tw hw 20 rfl)) (tw hw 1 rfl) (ty := .int) (by decide) rfl rfl (g := (mkF m 20 #[rv a1, .unset] [(.int (1 : Int32)), (.ref a1)])) rfl rfl (hb hby d1_20)
  have E_a1_18 : Exa Z h18 a1 "com/example/api_policy_gateway/apipolicygateway/net/BufferPool" := E_a1.wr W18
  have F_a1_spare_18 : Fld Z h18 a1 "com/example/api_policy_gateway/apipolicygateway/net/BufferPool" "spare" "[[B" (.ref sp) := F_a1_spare.other W18 (Or.inr (slot_ne (Or.inr (tw hw 12 rfl)) (Or.inl (tw hw 20 rfl)) (by decide) (t := (.array (.array .byte))) (t' := .int) (by decide) (by decide)))
  have V_sp_18 : Arv Z h18 sp k (.array .byte) (64 : Int32) [v0, (.ref x), v2] .null := V_sp.other W18 (Ne.symm ne_a1_sp)
  have K18 : Keep h0 h18 [a1, sp] := K0.wr W18 (Or.inl (List.mem_of_getElem? (i := 0) rfl))
  have N18 := Fr.snoc X18 N0 ge_a1
  have F_a1_spareCount_18 : Fld Z h18 a1 "com/example/api_policy_gateway/apipolicygateway/net/BufferPool" "spareCount" "I" (.int (1 : Int32)) := F_a1_spareCount.same W18
  refine Goes.step (T2 := T18) (g2 := (mkF m 23 #[rv a1, .unset] [])) st18 ?_
  refine Goes.step (T2 := T18) (g2 := (mkF m 24 #[rv a1, .unset] [(.ref a1)])) (fun _ hr => XS.aloadN X18.here hx rfl (hb hby d1_23) rfl rfl hr) ?_
  obtain ⟨T19, X19, e19, st19⟩ := getF X18 hx hZ hown (host := "") (Or.inl (tw hw 11 rfl)) Via.refl e18 F_a1_spare_18 (g := (mkF m 24 #[rv a1, .unset] [(.ref a1)])) rfl rfl (hb hby d1_24)
  refine Goes.step (T2 := T19) (g2 := (mkF m 27 #[rv a1, .unset] [(.ref sp)])) st19 ?_
  refine Goes.step (T2 := T19) (g2 := (mkF m 28 #[rv a1, .unset] [(.ref a1), (.ref sp)])) (fun _ hr => XS.aloadN X19.here hx rfl (hb hby d1_27) rfl rfl hr) ?_
  obtain ⟨T20, X20, e20, st20⟩ := getF X19 hx hZ hown (host := "") (Or.inl (tw hw 19 rfl)) Via.refl e19 F_a1_spareCount_18 (g := (mkF m 28 #[rv a1, .unset] [(.ref a1), (.ref sp)])) rfl rfl (hb hby d1_28)
  refine Goes.step (T2 := T20) (g2 := (mkF m 31 #[rv a1, .unset] [(.int (1 : Int32)), (.ref sp)])) st20 ?_
  obtain ⟨cl21, Ar21, q21, S21, Nn21, H21, G21⟩ := id V_sp_18
  have hin21 : ¬ ((1 : Int32) < 0 ∨ cl21.slots.size ≤ ((1 : Int32)).toNatClampNeg) := inb_of S21 ⟨by decide, by decide⟩
  refine Goes.step (T2 := T20) (g2 := (mkF m 32 #[rv a1, .unset] [(.ref x)])) (X20.aaload hx (j := (1 : Int32)) (v := (.ref x)) (own_at e20 Ar21.1) (State.isArrayOf_alike hZ.alike Ar21.2.1) rfl Ar21.2.2 hin21 (H21.at hin21 rfl) (g := (mkF m 31 #[rv a1, .unset] [(.int (1 : Int32)), (.ref sp)])) rfl rfl (hb hby d1_31)) ?_
  refine Goes.step (T2 := T20) (g2 := (mkF m 33 #[rv a1, rv x] [])) (fun _ hr => XS.astoreN X20.here hx rfl (hb hby d1_32) rfl rfl (l' := #[rv a1, rv x]) rfl hr) ?_
  refine Goes.step (T2 := T20) (g2 := (mkF m 34 #[rv a1, rv x] [(.ref a1)])) (fun _ hr => XS.aloadN X20.here hx rfl (hb hby d1_33) rfl rfl hr) ?_
  obtain ⟨T22, X22, e22, st22⟩ := getF X20 hx hZ hown (host := "") (Or.inl (tw hw 11 rfl)) Via.refl e20 F_a1_spare_18 (g := (mkF m 34 #[rv a1, rv x] [(.ref a1)])) rfl rfl (hb hby d1_34)
  refine Goes.step (T2 := T22) (g2 := (mkF m 37 #[rv a1, rv x] [(.ref sp)])) st22 ?_
  refine Goes.step (T2 := T22) (g2 := (mkF m 38 #[rv a1, rv x] [(.ref a1), (.ref sp)])) (fun _ hr => XS.aloadN X22.here hx rfl (hb hby d1_37) rfl rfl hr) ?_
  obtain ⟨T23, X23, e23, st23⟩ := getF X22 hx hZ hown (host := "") (Or.inl (tw hw 19 rfl)) Via.refl e22 F_a1_spareCount_18 (g := (mkF m 38 #[rv a1, rv x] [(.ref a1), (.ref sp)])) rfl rfl (hb hby d1_38)
  refine Goes.step (T2 := T23) (g2 := (mkF m 41 #[rv a1, rv x] [(.int (1 : Int32)), (.ref sp)])) st23 ?_
  refine Goes.step (T2 := T23) (g2 := (mkF m 42 #[rv a1, rv x] [.null, (.int (1 : Int32)), (.ref sp)])) (fun _ hr => XS.aconstNull X23.here hx rfl (hb hby d1_41) hr) ?_
  obtain ⟨cl24, Ar24, q24, S24, Nn24, H24, G24⟩ := id V_sp_18
  have hin24 : ¬ ((1 : Int32) < 0 ∨ cl24.slots.size ≤ ((1 : Int32)).toNatClampNeg) := inb_of S24 ⟨by decide, by decide⟩
  obtain ⟨T24, h24, X24, e24, W24, st24⟩ := stR X23 hx hZ e23 Ar24 (j := (1 : Int32)) hin24 rfl (Or.inl rfl) (g := (mkF m 42 #[rv a1, rv x] [.null, (.int (1 : Int32)), (.ref sp)])) rfl rfl (hb hby d1_42)
  have E_a1_24 : Exa Z h24 a1 "com/example/api_policy_gateway/apipolicygateway/net/BufferPool" := E_a1_18.wr W24
  have F_a1_spare_24 : Fld Z h24 a1 "com/example/api_policy_gateway/apipolicygateway/net/BufferPool" "spare" "[[B" (.ref sp) := F_a1_spare_18.other W24 (Or.inl ne_a1_sp)
  have F_a1_spareCount_24 : Fld Z h24 a1 "com/example/api_policy_gateway/apipolicygateway/net/BufferPool" "spareCount" "I" (.int (1 : Int32)) := F_a1_spareCount_18.other W24 (Or.inl ne_a1_sp)
  have K24 : Keep h0 h24 [a1, sp] := K18.wr W24 (Or.inl (List.mem_of_getElem? (i := 1) rfl))
  have N24 := Fr.snoc X24 N18 ge_sp
  have V_sp_24 : Arv Z h24 sp k (.array .byte) (64 : Int32) [v0, .null, v2] .null := Arv.set Ar24 q24 S24 Nn24 H24 G24 rfl W24 1 rfl (Nat.le_of_ble_eq_true rfl)
  refine Goes.step (T2 := T24) (g2 := (mkF m 43 #[rv a1, rv x] [])) st24 ?_
  refine Goes.step (T2 := T24) (g2 := (mkF m 44 #[rv a1, rv x] [(.ref x)])) (fun _ hr => XS.aloadN X24.here hx rfl (hb hby d1_43) rfl rfl hr) ?_
  exact Goes.ret (v := some (.ref x)) X24 (by decide) (by decide) (fun h => by rw [Bd.returns] at h; cases h) (by show Q_rm_take2 Z a1 sp k v0 v2 x h0 n0 _ T24.heap _; rw [e24]; exact ⟨rfl, N24, K24, F_a1_spare_24, F_a1_spareCount_24, V_sp_24⟩) (fun fs hr => retOut X24 hx Bd.returns rfl (Or.inr (Or.inr (Or.inr (Or.inr ⟨rfl, rfl, rfl⟩)))) (hb hby d1_44) hr)
def Q_rm_take3 (Z : State) (a1 : Addr) (sp : Addr) (k : ClassId) (v0 : Value) (v1 : Value) (x : Addr) (h0 : Heap) (n0 : Nat) (v : Option Value) (h : Heap) (L : List Loc) : Prop := v = some (.ref x) ∧ Fr n0 L ∧ Keep h0 h [a1, sp] ∧ Fld Z h a1 "com/example/api_policy_gateway/apipolicygateway/net/BufferPool" "spare" "[[B" (.ref sp) ∧ Fld Z h a1 "com/example/api_policy_gateway/apipolicygateway/net/BufferPool" "spareCount" "I" (.int (2 : Int32)) ∧ Arv Z h sp k (.array .byte) (64 : Int32) [v0, v1, .null] .null
set_option maxRecDepth 65536 in
set_option maxHeartbeats 40000000 in
theorem rm_take3 (l : Launch) (Z : State) (a0 : Array Value) (hw : ∀ d ∈ tables_1, d.before a0 Z = true) (ws : List Jvm.Cond) (a1 : Addr) (sp : Addr) (k : ClassId) (v0 : Value) (v1 : Value) (x : Addr) (h0 : Heap) (n0 : Nat) (Z0 : n0 ≤ h0.size) (O0 : Old Z n0 h0) (E_a1 : Exa Z h0 a1 "com/example/api_policy_gateway/apipolicygateway/net/BufferPool") (F_a1_spare : Fld Z h0 a1 "com/example/api_policy_gateway/apipolicygateway/net/BufferPool" "spare" "[[B" (.ref sp)) (F_a1_spareCount : Fld Z h0 a1 "com/example/api_policy_gateway/apipolicygateway/net/BufferPool" "spareCount" "I" (.int (3 : Int32))) (V_sp : Arv Z h0 sp k (.array .byte) (64 : Int32) [v0, v1, (.ref x)] .null) (ge_a1 : n0 ≤ a1) (ge_sp : n0 ≤ sp) (ne_a1_sp : a1 ≠ sp) :
    MetFree l Y1 (head1 (Jvm.Cond.code Y1 prog_16_method_2_code 2 (some (.array .byte)) :: ws) ({ frames := 0, cells := 0, slots := 0, locals := 0 } : Room)) (fun a U => a = #[(.ref a1)] ∧ Z.Warmed39 U.vm ∧ U.heap = h0) (fun _ _ _ _ _ => True) (fun _ U o U' => ∃ v L, o = .returned v ∧ Q_rm_take3 Z a1 sp k v0 v1 x h0 n0 v U'.heap L ∧ FrameEnd U o U' L ({ frames := 0, cells := 0, slots := 0, locals := 0 } : Room).cells ({ frames := 0, cells := 0, slots := 0, locals := 0 } : Room).slots) := by
  refine MetFree.of_bodySF (plainFor_of_name pn_com_example_api_policy_gateway_apipolicygateway_net_BufferPool) hisR ?_
  intro p e s m args below meth c s₁ Bd hml0 hP hK
  obtain ⟨rfl, hZ, hh⟩ := hP
  have hx := Bd.exec
  have hby := Bd.bytes
  have hml : c.maxLocals = 2 := hml0
  have hown : s.vm.findClass "com/example/api_policy_gateway/apipolicygateway/net/BufferPool" = some m.cls := findClass_of_methodNamed Bd.named
  have hnm := (name_of_methodNamed Bd.named Bd.method).1
  have X0 : Stand p l e ({ frames := 0, cells := 0, slots := 0, locals := 0 } : Room) s m #[(.ref a1)] below meth c s₁ [] 0 0 := Stand.of_body Bd
  have e0 : s₁.heap = h0 := by rw [← hh, Bd.state]; rfl
  have N0 := Fr.nil n0
  refine Goes.out (l := l) (c := c) (R := ({ frames := 0, cells := 0, slots := 0, locals := 0 } : Room)) (Q := Q_rm_take3 Z a1 sp k v0 v1 x h0 n0) Bd.notSynchronized ?_
  refine Goes.cast (g2 := mkF m 0 #[rv a1, .unset] []) (by first | (simp [entryFrame, mkF, argsToLocals, Value.category]; done) | rfl) ?_
  have K0 : Keep h0 h0 [a1, sp] := Keep.refl h0 _
  have hws : ∀ x ∈ [a1, sp], n0 ≤ x := (allS ge_a1 (allS ge_sp all0))
  refine Goes.step (T2 := s₁) (g2 := (mkF m 1 #[rv a1, .unset] [(.ref a1)])) (fun _ hr => XS.aloadN X0.here hx rfl (hb hby d1_0) rfl rfl hr) ?_
  obtain ⟨T25, X25, e25, st25⟩ := getF X0 hx hZ hown (host := "") (Or.inl (tw hw 19 rfl)) Via.refl e0 F_a1_spareCount (g := (mkF m 1 #[rv a1, .unset] [(.ref a1)])) rfl rfl (hb hby d1_1)
  refine Goes.step (T2 := T25) (g2 := (mkF m 4 #[rv a1, .unset] [(.int (3 : Int32))])) st25 ?_
  refine Goes.step (T2 := T25) (g2 := (mkF m 13 #[rv a1, .unset] [])) (fun _ hr => XS.ifYes X25.here hx rfl (pc0 := 4) (pc' := 13) rfl (hb hby d1_4) rfl ((if0 _ _).trans (feq (by decide : ¬ ((3 : Int32) = (0 : Int32)))).2) (by decide) (by decide) hr) ?_
  refine Goes.step (T2 := T25) (g2 := (mkF m 14 #[rv a1, .unset] [(.ref a1)])) (fun _ hr => XS.aloadN X25.here hx rfl (hb hby d1_13) rfl rfl hr) ?_
  refine Goes.step (T2 := T25) (g2 := (mkF m 15 #[rv a1, .unset] [(.ref a1), (.ref a1)])) (fun _ hr => XS.dup X25.here hx rfl (hb hby d1_14) rfl rfl hr) ?_
  obtain ⟨T26, X26, e26, st26⟩ := getF X25 hx hZ hown (host := "") (Or.inl (tw hw 19 rfl)) Via.refl e25 F_a1_spareCount (g := (mkF m 15 #[rv a1, .unset] [(.ref a1), (.ref a1)])) rfl rfl (hb hby d1_15)
  refine Goes.step (T2 := T26) (g2 := (mkF m 18 #[rv a1, .unset] [(.int (3 : Int32)), (.ref a1)])) st26 ?_
  refine Goes.step (T2 := T26) (g2 := (mkF m 19 #[rv a1, .unset] [(.int (1 : Int32)), (.int (3 : Int32)), (.ref a1)])) (fun _ hr => XS.iconst X26.here hx rfl (hb hby d1_18) hr) ?_
  refine Goes.step (T2 := T26) (g2 := (mkF m 20 #[rv a1, .unset] [(.int (2 : Int32)), (.ref a1)])) (fun _ hr => XS.isub X26.here hx rfl (hb hby d1_19) rfl hr) ?_
  obtain ⟨T27, h27, X27, e27, W27, st27⟩ := putF X26 hx hZ hown (host := "") (Or.inl (tw hw 19 rfl)) Via.refl e26 F_a1_spareCount E_a1 (Or.inl (tw hw 20 rfl)) (tw hw 1 rfl) (ty := .int) (by decide) rfl rfl (g := (mkF m 20 #[rv a1, .unset] [(.int (2 : Int32)), (.ref a1)])) rfl rfl (hb hby d1_20)
  have E_a1_27 : Exa Z h27 a1 "com/example/api_policy_gateway/apipolicygateway/net/BufferPool" := E_a1.wr W27
  have F_a1_spare_27 : Fld Z h27 a1 "com/example/api_policy_gateway/apipolicygateway/net/BufferPool" "spare" "[[B" (.ref sp) := F_a1_spare.other W27 (Or.inr (slot_ne (Or.inr (tw hw 12 rfl)) (Or.inl (tw hw 20 rfl)) (by decide) (t := (.array (.array .byte))) (t' := .int) (by decide) (by decide)))
  have V_sp_27 : Arv Z h27 sp k (.array .byte) (64 : Int32) [v0, v1, (.ref x)] .null := V_sp.other W27 (Ne.symm ne_a1_sp)
  have K27 : Keep h0 h27 [a1, sp] := K0.wr W27 (Or.inl (List.mem_of_getElem? (i := 0) rfl))
  have N27 := Fr.snoc X27 N0 ge_a1
  have F_a1_spareCount_27 : Fld Z h27 a1 "com/example/api_policy_gateway/apipolicygateway/net/BufferPool" "spareCount" "I" (.int (2 : Int32)) := F_a1_spareCount.same W27
  refine Goes.step (T2 := T27) (g2 := (mkF m 23 #[rv a1, .unset] [])) st27 ?_
  refine Goes.step (T2 := T27) (g2 := (mkF m 24 #[rv a1, .unset] [(.ref a1)])) (fun _ hr => XS.aloadN X27.here hx rfl (hb hby d1_23) rfl rfl hr) ?_
  obtain ⟨T28, X28, e28, st28⟩ := getF X27 hx hZ hown (host := "") (Or.inl (tw hw 11 rfl)) Via.refl e27 F_a1_spare_27 (g := (mkF m 24 #[rv a1, .unset] [(.ref a1)])) rfl rfl (hb hby d1_24)
  refine Goes.step (T2 := T28) (g2 := (mkF m 27 #[rv a1, .unset] [(.ref sp)])) st28 ?_
  refine Goes.step (T2 := T28) (g2 := (mkF m 28 #[rv a1, .unset] [(.ref a1), (.ref sp)])) (fun _ hr => XS.aloadN X28.here hx rfl (hb hby d1_27) rfl rfl hr) ?_
  obtain ⟨T29, X29, e29, st29⟩ := getF X28 hx hZ hown (host := "") (Or.inl (tw hw 19 rfl)) Via.refl e28 F_a1_spareCount_27 (g := (mkF m 28 #[rv a1, .unset] [(.ref a1), (.ref sp)])) rfl rfl (hb hby d1_28)
  refine Goes.step (T2 := T29) (g2 := (mkF m 31 #[rv a1, .unset] [(.int (2 : Int32)), (.ref sp)])) st29 ?_
  obtain ⟨cl30, Ar30, q30, S30, Nn30, H30, G30⟩ := id V_sp_27
  have hin30 : ¬ ((2 : Int32) < 0 ∨ cl30.slots.size ≤ ((2 : Int32)).toNatClampNeg) := inb_of S30 ⟨by decide, by decide⟩
  refine Goes.step (T2 := T29) (g2 := (mkF m 32 #[rv a1, .unset] [(.ref x)])) (X29.aaload hx (j := (2 : Int32)) (v := (.ref x)) (own_at e29 Ar30.1) (State.isArrayOf_alike hZ.alike Ar30.2.1) rfl Ar30.2.2 hin30 (H30.at hin30 rfl) (g := (mkF m 31 #[rv a1, .unset] [(.int (2 : Int32)), (.ref sp)])) rfl rfl (hb hby d1_31)) ?_
  refine Goes.step (T2 := T29) (g2 := (mkF m 33 #[rv a1, rv x] [])) (fun _ hr => XS.astoreN X29.here hx rfl (hb hby d1_32) rfl rfl (l' := #[rv a1, rv x]) rfl hr) ?_
  refine Goes.step (T2 := T29) (g2 := (mkF m 34 #[rv a1, rv x] [(.ref a1)])) (fun _ hr => XS.aloadN X29.here hx rfl (hb hby d1_33) rfl rfl hr) ?_
  obtain ⟨T31, X31, e31, st31⟩ := getF X29 hx hZ hown (host := "") (Or.inl (tw hw 11 rfl)) Via.refl e29 F_a1_spare_27 (g := (mkF m 34 #[rv a1, rv x] [(.ref a1)])) rfl rfl (hb hby d1_34)
  refine Goes.step (T2 := T31) (g2 := (mkF m 37 #[rv a1, rv x] [(.ref sp)])) st31 ?_
  refine Goes.step (T2 := T31) (g2 := (mkF m 38 #[rv a1, rv x] [(.ref a1), (.ref sp)])) (fun _ hr => XS.aloadN X31.here hx rfl (hb hby d1_37) rfl rfl hr) ?_
  obtain ⟨T32, X32, e32, st32⟩ := getF X31 hx hZ hown (host := "") (Or.inl (tw hw 19 rfl)) Via.refl e31 F_a1_spareCount_27 (g := (mkF m 38 #[rv a1, rv x] [(.ref a1), (.ref sp)])) rfl rfl (hb hby d1_38)
  refine Goes.step (T2 := T32) (g2 := (mkF m 41 #[rv a1, rv x] [(.int (2 : Int32)), (.ref sp)])) st32 ?_
  refine Goes.step (T2 := T32) (g2 := (mkF m 42 #[rv a1, rv x] [.null, (.int (2 : Int32)), (.ref sp)])) (fun _ hr => XS.aconstNull X32.here hx rfl (hb hby d1_41) hr) ?_
  obtain ⟨cl33, Ar33, q33, S33, Nn33, H33, G33⟩ := id V_sp_27
  have hin33 : ¬ ((2 : Int32) < 0 ∨ cl33.slots.size ≤ ((2 : Int32)).toNatClampNeg) := inb_of S33 ⟨by decide, by decide⟩
  obtain ⟨T33, h33, X33, e33, W33, st33⟩ := stR X32 hx hZ e32 Ar33 (j := (2 : Int32)) hin33 rfl (Or.inl rfl) (g := (mkF m 42 #[rv a1, rv x] [.null, (.int (2 : Int32)), (.ref sp)])) rfl rfl (hb hby d1_42)
  have E_a1_33 : Exa Z h33 a1 "com/example/api_policy_gateway/apipolicygateway/net/BufferPool" := E_a1_27.wr W33
  have F_a1_spare_33 : Fld Z h33 a1 "com/example/api_policy_gateway/apipolicygateway/net/BufferPool" "spare" "[[B" (.ref sp) := F_a1_spare_27.other W33 (Or.inl ne_a1_sp)
  have F_a1_spareCount_33 : Fld Z h33 a1 "com/example/api_policy_gateway/apipolicygateway/net/BufferPool" "spareCount" "I" (.int (2 : Int32)) := F_a1_spareCount_27.other W33 (Or.inl ne_a1_sp)
  have K33 : Keep h0 h33 [a1, sp] := K27.wr W33 (Or.inl (List.mem_of_getElem? (i := 1) rfl))
  have N33 := Fr.snoc X33 N27 ge_sp
  have V_sp_33 : Arv Z h33 sp k (.array .byte) (64 : Int32) [v0, v1, .null] .null := Arv.set Ar33 q33 S33 Nn33 H33 G33 rfl W33 2 rfl (Nat.le_of_ble_eq_true rfl)
  refine Goes.step (T2 := T33) (g2 := (mkF m 43 #[rv a1, rv x] [])) st33 ?_
  refine Goes.step (T2 := T33) (g2 := (mkF m 44 #[rv a1, rv x] [(.ref x)])) (fun _ hr => XS.aloadN X33.here hx rfl (hb hby d1_43) rfl rfl hr) ?_
  exact Goes.ret (v := some (.ref x)) X33 (by decide) (by decide) (fun h => by rw [Bd.returns] at h; cases h) (by show Q_rm_take3 Z a1 sp k v0 v1 x h0 n0 _ T33.heap _; rw [e33]; exact ⟨rfl, N33, K33, F_a1_spare_33, F_a1_spareCount_33, V_sp_33⟩) (fun fs hr => retOut X33 hx Bd.returns rfl (Or.inr (Or.inr (Or.inr (Or.inr ⟨rfl, rfl, rfl⟩)))) (hb hby d1_44) hr)
theorem d2_0 : decode prog_16_method_3_code 0 = .ok (.aload_n 1, 1) := by decide +kernel
theorem d2_1 : decode prog_16_method_3_code 1 = .ok (.arraylength, 1) := by decide +kernel
theorem d2_2 : decode prog_16_method_3_code 2 = .ok (.sipush 16384, 3) := by decide +kernel
theorem d2_5 : decode prog_16_method_3_code 5 = .ok (.if_icmp .eq 18, 3) := by decide +kernel
theorem d2_23 : decode prog_16_method_3_code 23 = .ok (.aload_n 0, 1) := by decide +kernel
theorem d2_24 : decode prog_16_method_3_code 24 = .ok (.getfield 15, 3) := by decide +kernel
theorem d2_27 : decode prog_16_method_3_code 27 = .ok (.aload_n 0, 1) := by decide +kernel
theorem d2_28 : decode prog_16_method_3_code 28 = .ok (.getfield 11, 3) := by decide +kernel
theorem d2_31 : decode prog_16_method_3_code 31 = .ok (.arraylength, 1) := by decide +kernel
theorem d2_32 : decode prog_16_method_3_code 32 = .ok (.if_icmp .ge 23, 3) := by decide +kernel
theorem d2_35 : decode prog_16_method_3_code 35 = .ok (.aload_n 0, 1) := by decide +kernel
theorem d2_36 : decode prog_16_method_3_code 36 = .ok (.getfield 11, 3) := by decide +kernel
theorem d2_39 : decode prog_16_method_3_code 39 = .ok (.aload_n 0, 1) := by decide +kernel
theorem d2_40 : decode prog_16_method_3_code 40 = .ok (.getfield 15, 3) := by decide +kernel
theorem d2_43 : decode prog_16_method_3_code 43 = .ok (.aload_n 1, 1) := by decide +kernel
theorem d2_44 : decode prog_16_method_3_code 44 = .ok (.aastore, 1) := by decide +kernel
theorem d2_45 : decode prog_16_method_3_code 45 = .ok (.aload_n 0, 1) := by decide +kernel
theorem d2_46 : decode prog_16_method_3_code 46 = .ok (.dup, 1) := by decide +kernel
theorem d2_47 : decode prog_16_method_3_code 47 = .ok (.getfield 15, 3) := by decide +kernel
theorem d2_50 : decode prog_16_method_3_code 50 = .ok (.iconst 1, 1) := by decide +kernel
theorem d2_51 : decode prog_16_method_3_code 51 = .ok (.iadd, 1) := by decide +kernel
theorem d2_52 : decode prog_16_method_3_code 52 = .ok (.putfield 15, 3) := by decide +kernel
theorem d2_55 : decode prog_16_method_3_code 55 = .ok (.return_, 1) := by decide +kernel
def Q_rm_give0 (Z : State) (a1 : Addr) (sp : Addr) (k : ClassId) (v0 : Value) (v1 : Value) (v2 : Value) (x : Addr) (h0 : Heap) (n0 : Nat) (v : Option Value) (h : Heap) (L : List Loc) : Prop := v = none ∧ Fr n0 L ∧ Keep h0 h [a1, sp] ∧ Fld Z h a1 "com/example/api_policy_gateway/apipolicygateway/net/BufferPool" "spare" "[[B" (.ref sp) ∧ Fld Z h a1 "com/example/api_policy_gateway/apipolicygateway/net/BufferPool" "spareCount" "I" (.int (1 : Int32)) ∧ Arv Z h sp k (.array .byte) (64 : Int32) [(.ref x), v1, v2] .null
set_option maxRecDepth 65536 in
set_option maxHeartbeats 40000000 in
theorem rm_give0 (l : Launch) (Z : State) (a0 : Array Value) (hw : ∀ d ∈ tables_1, d.before a0 Z = true) (ws : List Jvm.Cond) (a1 : Addr) (sp : Addr) (k : ClassId) (v0 : Value) (v1 : Value) (v2 : Value) (x : Addr) (h0 : Heap) (n0 : Nat) (Z0 : n0 ≤ h0.size) (O0 : Old Z n0 h0) (E_a1 : Exa Z h0 a1 "com/example/api_policy_gateway/apipolicygateway/net/BufferPool") (F_a1_spare : Fld Z h0 a1 "com/example/api_policy_gateway/apipolicygateway/net/BufferPool" "spare" "[[B" (.ref sp)) (F_a1_spareCount : Fld Z h0 a1 "com/example/api_policy_gateway/apipolicygateway/net/BufferPool" "spareCount" "I" (.int (0 : Int32))) (V_sp : Arv Z h0 sp k (.array .byte) (64 : Int32) [v0, v1, v2] .null) (E_x : Exa Z h0 x "[B") (L_x : LenB Z h0 x (16384 : Int32)) (ge_a1 : n0 ≤ a1) (ge_sp : n0 ≤ sp) (ne_a1_sp : a1 ≠ sp) (ne_x_a1 : x ≠ a1) (ne_x_sp : x ≠ sp) (Ov : OvrA Z k .byte "[B") :
    MetFree l Y2 (head1 (Jvm.Cond.code Y2 prog_16_method_3_code 2 none :: ws) ({ frames := 0, cells := 0, slots := 0, locals := 0 } : Room)) (fun a U => a = #[(.ref a1), (.ref x)] ∧ Z.Warmed39 U.vm ∧ U.heap = h0) (fun _ _ _ _ _ => True) (fun _ U o U' => ∃ v L, o = .returned v ∧ Q_rm_give0 Z a1 sp k v0 v1 v2 x h0 n0 v U'.heap L ∧ FrameEnd U o U' L ({ frames := 0, cells := 0, slots := 0, locals := 0 } : Room).cells ({ frames := 0, cells := 0, slots := 0, locals := 0 } : Room).slots) := by
  refine MetFree.of_bodySF (plainFor_of_name pn_com_example_api_policy_gateway_apipolicygateway_net_BufferPool) hisR ?_
  intro p e s m args below meth c s₁ Bd hml0 hP hK
  obtain ⟨rfl, hZ, hh⟩ := hP
  have hx := Bd.exec
  have hby := Bd.bytes
  have hml : c.maxLocals = 2 := hml0
  have hown : s.vm.findClass "com/example/api_policy_gateway/apipolicygateway/net/BufferPool" = some m.cls := findClass_of_methodNamed Bd.named
  have hnm := (name_of_methodNamed Bd.named Bd.method).1
  have X0 : Stand p l e ({ frames := 0, cells := 0, slots := 0, locals := 0 } : Room) s m #[(.ref a1), (.ref x)] below meth c s₁ [] 0 0 := Stand.of_body Bd
  have e0 : s₁.heap = h0 := by rw [← hh, Bd.state]; rfl
  have N0 := Fr.nil n0
  refine Goes.out (l := l) (c := c) (R := ({ frames := 0, cells := 0, slots := 0, locals := 0 } : Room)) (Q := Q_rm_give0 Z a1 sp k v0 v1 v2 x h0 n0) Bd.notSynchronized ?_
  refine Goes.cast (g2 := mkF m 0 #[rv a1, rv x] []) (by first | (simp [entryFrame, mkF, argsToLocals, Value.category]; done) | rfl) ?_
  have K0 : Keep h0 h0 [a1, sp] := Keep.refl h0 _
  have hws : ∀ x ∈ [a1, sp], n0 ≤ x := (allS ge_a1 (allS ge_sp all0))
  refine Goes.step (T2 := s₁) (g2 := (mkF m 1 #[rv a1, rv x] [(.ref x)])) (fun _ hr => XS.aloadN X0.here hx rfl (hb hby d2_0) rfl rfl hr) ?_
  obtain ⟨cl34, Ar34, S34, Nn34⟩ := id L_x
  refine Goes.step (T2 := s₁) (g2 := (mkF m 2 #[rv a1, rv x] [(.int (16384 : Int32))])) (fun t hr => X0.arraylength hx (own_at e0 Ar34.1) (State.isArrayOf_alike hZ.alike Ar34.2.1) (g := (mkF m 1 #[rv a1, rv x] [(.ref x)])) rfl rfl (hb hby d2_1) t (by rw [len_of S34 Nn34]; exact hr)) ?_
  refine Goes.step (T2 := s₁) (g2 := (mkF m 5 #[rv a1, rv x] [(.int (16384 : Int32)), (.int (16384 : Int32))])) (fun _ hr => XS.sipush X0.here hx rfl (hb hby d2_2) hr) ?_
  refine Goes.step (T2 := s₁) (g2 := (mkF m 23 #[rv a1, rv x] [])) (fun _ hr => XS.icmpYes X0.here hx rfl (pc0 := 5) (pc' := 23) rfl (hb hby d2_5) rfl (teq (by decide : (16384 : Int32) = (16384 : Int32))).1 (by decide) (by decide) hr) ?_
  refine Goes.step (T2 := s₁) (g2 := (mkF m 24 #[rv a1, rv x] [(.ref a1)])) (fun _ hr => XS.aloadN X0.here hx rfl (hb hby d2_23) rfl rfl hr) ?_
  obtain ⟨T35, X35, e35, st35⟩ := getF X0 hx hZ hown (host := "") (Or.inl (tw hw 19 rfl)) Via.refl e0 F_a1_spareCount (g := (mkF m 24 #[rv a1, rv x] [(.ref a1)])) rfl rfl (hb hby d2_24)
  refine Goes.step (T2 := T35) (g2 := (mkF m 27 #[rv a1, rv x] [(.int (0 : Int32))])) st35 ?_
  refine Goes.step (T2 := T35) (g2 := (mkF m 28 #[rv a1, rv x] [(.ref a1), (.int (0 : Int32))])) (fun _ hr => XS.aloadN X35.here hx rfl (hb hby d2_27) rfl rfl hr) ?_
  obtain ⟨T36, X36, e36, st36⟩ := getF X35 hx hZ hown (host := "") (Or.inl (tw hw 11 rfl)) Via.refl e35 F_a1_spare (g := (mkF m 28 #[rv a1, rv x] [(.ref a1), (.int (0 : Int32))])) rfl rfl (hb hby d2_28)
  refine Goes.step (T2 := T36) (g2 := (mkF m 31 #[rv a1, rv x] [(.ref sp), (.int (0 : Int32))])) st36 ?_
  obtain ⟨cl37, Ar37, -, S37, Nn37, -, -⟩ := id V_sp
  refine Goes.step (T2 := T36) (g2 := (mkF m 32 #[rv a1, rv x] [(.int (64 : Int32)), (.int (0 : Int32))])) (fun t hr => X36.arraylength hx (own_at e36 Ar37.1) (State.isArrayOf_alike hZ.alike Ar37.2.1) (g := (mkF m 31 #[rv a1, rv x] [(.ref sp), (.int (0 : Int32))])) rfl rfl (hb hby d2_31) t (by rw [len_of S37 Nn37]; exact hr)) ?_
  refine Goes.step (T2 := T36) (g2 := (mkF m 35 #[rv a1, rv x] [])) (fun _ hr => XS.icmpNo X36.here hx rfl (hb hby d2_32) rfl (tlt (by decide : (0 : Int32) < (64 : Int32))).2.1 hr) ?_
  refine Goes.step (T2 := T36) (g2 := (mkF m 36 #[rv a1, rv x] [(.ref a1)])) (fun _ hr => XS.aloadN X36.here hx rfl (hb hby d2_35) rfl rfl hr) ?_
  obtain ⟨T38, X38, e38, st38⟩ := getF X36 hx hZ hown (host := "") (Or.inl (tw hw 11 rfl)) Via.refl e36 F_a1_spare (g := (mkF m 36 #[rv a1, rv x] [(.ref a1)])) rfl rfl (hb hby d2_36)
  refine Goes.step (T2 := T38) (g2 := (mkF m 39 #[rv a1, rv x] [(.ref sp)])) st38 ?_
  refine Goes.step (T2 := T38) (g2 := (mkF m 40 #[rv a1, rv x] [(.ref a1), (.ref sp)])) (fun _ hr => XS.aloadN X38.here hx rfl (hb hby d2_39) rfl rfl hr) ?_
  obtain ⟨T39, X39, e39, st39⟩ := getF X38 hx hZ hown (host := "") (Or.inl (tw hw 19 rfl)) Via.refl e38 F_a1_spareCount (g := (mkF m 40 #[rv a1, rv x] [(.ref a1), (.ref sp)])) rfl rfl (hb hby d2_40)
  refine Goes.step (T2 := T39) (g2 := (mkF m 43 #[rv a1, rv x] [(.int (0 : Int32)), (.ref sp)])) st39 ?_
  refine Goes.step (T2 := T39) (g2 := (mkF m 44 #[rv a1, rv x] [(.ref x), (.int (0 : Int32)), (.ref sp)])) (fun _ hr => XS.aloadN X39.here hx rfl (hb hby d2_43) rfl rfl hr) ?_
  obtain ⟨cl40, Ar40, q40, S40, Nn40, H40, G40⟩ := id V_sp
  have hin40 : ¬ ((0 : Int32) < 0 ∨ cl40.slots.size ≤ ((0 : Int32)).toNatClampNeg) := inb_of S40 ⟨by decide, by decide⟩
  obtain ⟨T40, h40, X40, e40, W40, st40⟩ := stR X39 hx hZ e39 Ar40 (j := (0 : Int32)) hin40 rfl (Sto.ofVA Ar40 q40 Ov (Ins.self E_x)) (g := (mkF m 44 #[rv a1, rv x] [(.ref x), (.int (0 : Int32)), (.ref sp)])) rfl rfl (hb hby d2_44)
  have E_a1_40 : Exa Z h40 a1 "com/example/api_policy_gateway/apipolicygateway/net/BufferPool" := E_a1.wr W40
  have F_a1_spare_40 : Fld Z h40 a1 "com/example/api_policy_gateway/apipolicygateway/net/BufferPool" "spare" "[[B" (.ref sp) := F_a1_spare.other W40 (Or.inl ne_a1_sp)
  have F_a1_spareCount_40 : Fld Z h40 a1 "com/example/api_policy_gateway/apipolicygateway/net/BufferPool" "spareCount" "I" (.int (0 : Int32)) := F_a1_spareCount.other W40 (Or.inl ne_a1_sp)
  have E_x_40 : Exa Z h40 x "[B" := E_x.wr W40
  have L_x_40 : LenB Z h40 x (16384 : Int32) := L_x.other W40 ne_x_sp
  have K40 : Keep h0 h40 [a1, sp] := K0.wr W40 (Or.inl (List.mem_of_getElem? (i := 1) rfl))
  have N40 := Fr.snoc X40 N0 ge_sp
  have V_sp_40 : Arv Z h40 sp k (.array .byte) (64 : Int32) [(.ref x), v1, v2] .null := Arv.set Ar40 q40 S40 Nn40 H40 G40 rfl W40 0 rfl (Nat.le_of_ble_eq_true rfl)
  refine Goes.step (T2 := T40) (g2 := (mkF m 45 #[rv a1, rv x] [])) st40 ?_
  refine Goes.step (T2 := T40) (g2 := (mkF m 46 #[rv a1, rv x] [(.ref a1)])) (fun _ hr => XS.aloadN X40.here hx rfl (hb hby d2_45) rfl rfl hr) ?_
  refine Goes.step (T2 := T40) (g2 := (mkF m 47 #[rv a1, rv x] [(.ref a1), (.ref a1)])) (fun _ hr => XS.dup X40.here hx rfl (hb hby d2_46) rfl rfl hr) ?_
  obtain ⟨T41, X41, e41, st41⟩ := getF X40 hx hZ hown (host := "") (Or.inl (tw hw 19 rfl)) Via.refl e40 F_a1_spareCount_40 (g := (mkF m 47 #[rv a1, rv x] [(.ref a1), (.ref a1)])) rfl rfl (hb hby d2_47)
  refine Goes.step (T2 := T41) (g2 := (mkF m 50 #[rv a1, rv x] [(.int (0 : Int32)), (.ref a1)])) st41 ?_
  refine Goes.step (T2 := T41) (g2 := (mkF m 51 #[rv a1, rv x] [(.int (1 : Int32)), (.int (0 : Int32)), (.ref a1)])) (fun _ hr => XS.iconst X41.here hx rfl (hb hby d2_50) hr) ?_
  refine Goes.step (T2 := T41) (g2 := (mkF m 52 #[rv a1, rv x] [(.int (1 : Int32)), (.ref a1)])) (fun _ hr => XS.iadd X41.here hx rfl (hb hby d2_51) rfl hr) ?_
  obtain ⟨T42, h42, X42, e42, W42, st42⟩ := putF X41 hx hZ hown (host := "") (Or.inl (tw hw 19 rfl)) Via.refl e41 F_a1_spareCount_40 E_a1_40 (Or.inl (tw hw 20 rfl)) (tw hw 1 rfl) (ty := .int) (by decide) rfl rfl (g := (mkF m 52 #[rv a1, rv x] [(.int (1 : Int32)), (.ref a1)])) rfl rfl (hb hby d2_52)
  have E_a1_42 : Exa Z h42 a1 "com/example/api_policy_gateway/apipolicygateway/net/BufferPool" := E_a1_40.wr W42
  have F_a1_spare_42 : Fld Z h42 a1 "com/example/api_policy_gateway/apipolicygateway/net/BufferPool" "spare" "[[B" (.ref sp) := F_a1_spare_40.other W42 (Or.inr (slot_ne (Or.inr (tw hw 12 rfl)) (Or.inl (tw hw 20 rfl)) (by decide) (t := (.array (.array .byte))) (t' := .int) (by decide) (by decide)))
  have E_x_42 : Exa Z h42 x "[B" := E_x_40.wr W42
  have L_x_42 : LenB Z h42 x (16384 : Int32) := L_x_40.other W42 ne_x_a1
  have V_sp_42 : Arv Z h42 sp k (.array .byte) (64 : Int32) [(.ref x), v1, v2] .null := V_sp_40.other W42 (Ne.symm ne_a1_sp)
  have K42 : Keep h0 h42 [a1, sp] := K40.wr W42 (Or.inl (List.mem_of_getElem? (i := 0) rfl))
  have N42 := Fr.snoc X42 N40 ge_a1
  have F_a1_spareCount_42 : Fld Z h42 a1 "com/example/api_policy_gateway/apipolicygateway/net/BufferPool" "spareCount" "I" (.int (1 : Int32)) := F_a1_spareCount_40.same W42
  refine Goes.step (T2 := T42) (g2 := (mkF m 55 #[rv a1, rv x] [])) st42 ?_
  exact Goes.ret (v := none) X42 (by decide) (by decide) (fun _ => rfl) (by show Q_rm_give0 Z a1 sp k v0 v1 v2 x h0 n0 _ T42.heap _; rw [e42]; exact ⟨rfl, N42, K42, F_a1_spare_42, F_a1_spareCount_42, V_sp_42⟩) (fun fs hr => X42.returnOut hx Bd.returns (hb hby d2_55) hr)
def Q_rm_give1 (Z : State) (a1 : Addr) (sp : Addr) (k : ClassId) (v0 : Value) (v1 : Value) (v2 : Value) (x : Addr) (h0 : Heap) (n0 : Nat) (v : Option Value) (h : Heap) (L : List Loc) : Prop := v = none ∧ Fr n0 L ∧ Keep h0 h [a1, sp] ∧ Fld Z h a1 "com/example/api_policy_gateway/apipolicygateway/net/BufferPool" "spare" "[[B" (.ref sp) ∧ Fld Z h a1 "com/example/api_policy_gateway/apipolicygateway/net/BufferPool" "spareCount" "I" (.int (2 : Int32)) ∧ Arv Z h sp k (.array .byte) (64 : Int32) [v0, (.ref x), v2] .null
set_option maxRecDepth 65536 in
set_option maxHeartbeats 40000000 in
theorem rm_give1 (l : Launch) (Z : State) (a0 : Array Value) (hw : ∀ d ∈ tables_1, d.before a0 Z = true) (ws : List Jvm.Cond) (a1 : Addr) (sp : Addr) (k : ClassId) (v0 : Value) (v1 : Value) (v2 : Value) (x : Addr) (h0 : Heap) (n0 : Nat) (Z0 : n0 ≤ h0.size) (O0 : Old Z n0 h0) (E_a1 : Exa Z h0 a1 "com/example/api_policy_gateway/apipolicygateway/net/BufferPool") (F_a1_spare : Fld Z h0 a1 "com/example/api_policy_gateway/apipolicygateway/net/BufferPool" "spare" "[[B" (.ref sp)) (F_a1_spareCount : Fld Z h0 a1 "com/example/api_policy_gateway/apipolicygateway/net/BufferPool" "spareCount" "I" (.int (1 : Int32))) (V_sp : Arv Z h0 sp k (.array .byte) (64 : Int32) [v0, v1, v2] .null) (E_x : Exa Z h0 x "[B") (L_x : LenB Z h0 x (16384 : Int32)) (ge_a1 : n0 ≤ a1) (ge_sp : n0 ≤ sp) (ne_a1_sp : a1 ≠ sp) (ne_x_a1 : x ≠ a1) (ne_x_sp : x ≠ sp) (Ov : OvrA Z k .byte "[B") :
    MetFree l Y2 (head1 (Jvm.Cond.code Y2 prog_16_method_3_code 2 none :: ws) ({ frames := 0, cells := 0, slots := 0, locals := 0 } : Room)) (fun a U => a = #[(.ref a1), (.ref x)] ∧ Z.Warmed39 U.vm ∧ U.heap = h0) (fun _ _ _ _ _ => True) (fun _ U o U' => ∃ v L, o = .returned v ∧ Q_rm_give1 Z a1 sp k v0 v1 v2 x h0 n0 v U'.heap L ∧ FrameEnd U o U' L ({ frames := 0, cells := 0, slots := 0, locals := 0 } : Room).cells ({ frames := 0, cells := 0, slots := 0, locals := 0 } : Room).slots) := by
  refine MetFree.of_bodySF (plainFor_of_name pn_com_example_api_policy_gateway_apipolicygateway_net_BufferPool) hisR ?_
  intro p e s m args below meth c s₁ Bd hml0 hP hK
  obtain ⟨rfl, hZ, hh⟩ := hP
  have hx := Bd.exec
  have hby := Bd.bytes
  have hml : c.maxLocals = 2 := hml0
  have hown : s.vm.findClass "com/example/api_policy_gateway/apipolicygateway/net/BufferPool" = some m.cls := findClass_of_methodNamed Bd.named
  have hnm := (name_of_methodNamed Bd.named Bd.method).1
  have X0 : Stand p l e ({ frames := 0, cells := 0, slots := 0, locals := 0 } : Room) s m #[(.ref a1), (.ref x)] below meth c s₁ [] 0 0 := Stand.of_body Bd
  have e0 : s₁.heap = h0 := by rw [← hh, Bd.state]; rfl
  have N0 := Fr.nil n0
  refine Goes.out (l := l) (c := c) (R := ({ frames := 0, cells := 0, slots := 0, locals := 0 } : Room)) (Q := Q_rm_give1 Z a1 sp k v0 v1 v2 x h0 n0) Bd.notSynchronized ?_
  refine Goes.cast (g2 := mkF m 0 #[rv a1, rv x] []) (by first | (simp [entryFrame, mkF, argsToLocals, Value.category]; done) | rfl) ?_
  have K0 : Keep h0 h0 [a1, sp] := Keep.refl h0 _
  have hws : ∀ x ∈ [a1, sp], n0 ≤ x := (allS ge_a1 (allS ge_sp all0))
  refine Goes.step (T2 := s₁) (g2 := (mkF m 1 #[rv a1, rv x] [(.ref x)])) (fun _ hr => XS.aloadN X0.here hx rfl (hb hby d2_0) rfl rfl hr) ?_
  obtain ⟨cl43, Ar43, S43, Nn43⟩ := id L_x
  refine Goes.step (T2 := s₁) (g2 := (mkF m 2 #[rv a1, rv x] [(.int (16384 : Int32))])) (fun t hr => X0.arraylength hx (own_at e0 Ar43.1) (State.isArrayOf_alike hZ.alike Ar43.2.1) (g := (mkF m 1 #[rv a1, rv x] [(.ref x)])) rfl rfl (hb hby d2_1) t (by rw [len_of S43 Nn43]; exact hr)) ?_
  refine Goes.step (T2 := s₁) (g2 := (mkF m 5 #[rv a1, rv x] [(.int (16384 : Int32)), (.int (16384 : Int32))])) (fun _ hr => XS.sipush X0.here hx rfl (hb hby d2_2) hr) ?_
  refine Goes.step (T2 := s₁) (g2 := (mkF m 23 #[rv a1, rv x] [])) (fun _ hr => XS.icmpYes X0.here hx rfl (pc0 := 5) (pc' := 23) rfl (hb hby d2_5) rfl (teq (by decide : (16384 : Int32) = (16384 : Int32))).1 (by decide) (by decide) hr) ?_
  refine Goes.step (T2 := s₁) (g2 := (mkF m 24 #[rv a1, rv x] [(.ref a1)])) (fun _ hr => XS.aloadN X0.here hx rfl (hb hby d2_23) rfl rfl hr) ?_
  obtain ⟨T44, X44, e44, st44⟩ := getF X0 hx hZ hown (host := "") (Or.inl (tw hw 19 rfl)) Via.refl e0 F_a1_spareCount (g := (mkF m 24 #[rv a1, rv x] [(.ref a1)])) rfl rfl (hb hby d2_24)
  refine Goes.step (T2 := T44) (g2 := (mkF m 27 #[rv a1, rv x] [(.int (1 : Int32))])) st44 ?_
  refine Goes.step (T2 := T44) (g2 := (mkF m 28 #[rv a1, rv x] [(.ref a1), (.int (1 : Int32))])) (fun _ hr => XS.aloadN X44.here hx rfl (hb hby d2_27) rfl rfl hr) ?_
  obtain ⟨T45, X45, e45, st45⟩ := getF X44 hx hZ hown (host := "") (Or.inl (tw hw 11 rfl)) Via.refl e44 F_a1_spare (g := (mkF m 28 #[rv a1, rv x] [(.ref a1), (.int (1 : Int32))])) rfl rfl (hb hby d2_28)
  refine Goes.step (T2 := T45) (g2 := (mkF m 31 #[rv a1, rv x] [(.ref sp), (.int (1 : Int32))])) st45 ?_
  obtain ⟨cl46, Ar46, -, S46, Nn46, -, -⟩ := id V_sp
  refine Goes.step (T2 := T45) (g2 := (mkF m 32 #[rv a1, rv x] [(.int (64 : Int32)), (.int (1 : Int32))])) (fun t hr => X45.arraylength hx (own_at e45 Ar46.1) (State.isArrayOf_alike hZ.alike Ar46.2.1) (g := (mkF m 31 #[rv a1, rv x] [(.ref sp), (.int (1 : Int32))])) rfl rfl (hb hby d2_31) t (by rw [len_of S46 Nn46]; exact hr)) ?_
  refine Goes.step (T2 := T45) (g2 := (mkF m 35 #[rv a1, rv x] [])) (fun _ hr => XS.icmpNo X45.here hx rfl (hb hby d2_32) rfl (tlt (by decide : (1 : Int32) < (64 : Int32))).2.1 hr) ?_
  refine Goes.step (T2 := T45) (g2 := (mkF m 36 #[rv a1, rv x] [(.ref a1)])) (fun _ hr => XS.aloadN X45.here hx rfl (hb hby d2_35) rfl rfl hr) ?_
  obtain ⟨T47, X47, e47, st47⟩ := getF X45 hx hZ hown (host := "") (Or.inl (tw hw 11 rfl)) Via.refl e45 F_a1_spare (g := (mkF m 36 #[rv a1, rv x] [(.ref a1)])) rfl rfl (hb hby d2_36)
  refine Goes.step (T2 := T47) (g2 := (mkF m 39 #[rv a1, rv x] [(.ref sp)])) st47 ?_
  refine Goes.step (T2 := T47) (g2 := (mkF m 40 #[rv a1, rv x] [(.ref a1), (.ref sp)])) (fun _ hr => XS.aloadN X47.here hx rfl (hb hby d2_39) rfl rfl hr) ?_
  obtain ⟨T48, X48, e48, st48⟩ := getF X47 hx hZ hown (host := "") (Or.inl (tw hw 19 rfl)) Via.refl e47 F_a1_spareCount (g := (mkF m 40 #[rv a1, rv x] [(.ref a1), (.ref sp)])) rfl rfl (hb hby d2_40)
  refine Goes.step (T2 := T48) (g2 := (mkF m 43 #[rv a1, rv x] [(.int (1 : Int32)), (.ref sp)])) st48 ?_
  refine Goes.step (T2 := T48) (g2 := (mkF m 44 #[rv a1, rv x] [(.ref x), (.int (1 : Int32)), (.ref sp)])) (fun _ hr => XS.aloadN X48.here hx rfl (hb hby d2_43) rfl rfl hr) ?_
  obtain ⟨cl49, Ar49, q49, S49, Nn49, H49, G49⟩ := id V_sp
  have hin49 : ¬ ((1 : Int32) < 0 ∨ cl49.slots.size ≤ ((1 : Int32)).toNatClampNeg) := inb_of S49 ⟨by decide, by decide⟩
  obtain ⟨T49, h49, X49, e49, W49, st49⟩ := stR X48 hx hZ e48 Ar49 (j := (1 : Int32)) hin49 rfl (Sto.ofVA Ar49 q49 Ov (Ins.self E_x)) (g := (mkF m 44 #[rv a1, rv x] [(.ref x), (.int (1 : Int32)), (.ref sp)])) rfl rfl (hb hby d2_44)
  have E_a1_49 : Exa Z h49 a1 "com/example/api_policy_gateway/apipolicygateway/net/BufferPool" := E_a1.wr W49
  have F_a1_spare_49 : Fld Z h49 a1 "com/example/api_policy_gateway/apipolicygateway/net/BufferPool" "spare" "[[B" (.ref sp) := F_a1_spare.other W49 (Or.inl ne_a1_sp)
  have F_a1_spareCount_49 : Fld Z h49 a1 "com/example/api_policy_gateway/apipolicygateway/net/BufferPool" "spareCount" "I" (.int (1 : Int32)) := F_a1_spareCount.other W49 (Or.inl ne_a1_sp)
  have E_x_49 : Exa Z h49 x "[B" := E_x.wr W49
  have L_x_49 : LenB Z h49 x (16384 : Int32) := L_x.other W49 ne_x_sp
  have K49 : Keep h0 h49 [a1, sp] := K0.wr W49 (Or.inl (List.mem_of_getElem? (i := 1) rfl))
  have N49 := Fr.snoc X49 N0 ge_sp
  have V_sp_49 : Arv Z h49 sp k (.array .byte) (64 : Int32) [v0, (.ref x), v2] .null := Arv.set Ar49 q49 S49 Nn49 H49 G49 rfl W49 1 rfl (Nat.le_of_ble_eq_true rfl)
  refine Goes.step (T2 := T49) (g2 := (mkF m 45 #[rv a1, rv x] [])) st49 ?_
  refine Goes.step (T2 := T49) (g2 := (mkF m 46 #[rv a1, rv x] [(.ref a1)])) (fun _ hr => XS.aloadN X49.here hx rfl (hb hby d2_45) rfl rfl hr) ?_
  refine Goes.step (T2 := T49) (g2 := (mkF m 47 #[rv a1, rv x] [(.ref a1), (.ref a1)])) (fun _ hr => XS.dup X49.here hx rfl (hb hby d2_46) rfl rfl hr) ?_
  obtain ⟨T50, X50, e50, st50⟩ := getF X49 hx hZ hown (host := "") (Or.inl (tw hw 19 rfl)) Via.refl e49 F_a1_spareCount_49 (g := (mkF m 47 #[rv a1, rv x] [(.ref a1), (.ref a1)])) rfl rfl (hb hby d2_47)
  refine Goes.step (T2 := T50) (g2 := (mkF m 50 #[rv a1, rv x] [(.int (1 : Int32)), (.ref a1)])) st50 ?_
  refine Goes.step (T2 := T50) (g2 := (mkF m 51 #[rv a1, rv x] [(.int (1 : Int32)), (.int (1 : Int32)), (.ref a1)])) (fun _ hr => XS.iconst X50.here hx rfl (hb hby d2_50) hr) ?_
  refine Goes.step (T2 := T50) (g2 := (mkF m 52 #[rv a1, rv x] [(.int (2 : Int32)), (.ref a1)])) (fun _ hr => XS.iadd X50.here hx rfl (hb hby d2_51) rfl hr) ?_
  obtain ⟨T51, h51, X51, e51, W51, st51⟩ := putF X50 hx hZ hown (host := "") (Or.inl (tw hw 19 rfl)) Via.refl e50 F_a1_spareCount_49 E_a1_49 (Or.inl (tw hw 20 rfl)) (tw hw 1 rfl) (ty := .int) (by decide) rfl rfl (g := (mkF m 52 #[rv a1, rv x] [(.int (2 : Int32)), (.ref a1)])) rfl rfl (hb hby d2_52)
  have E_a1_51 : Exa Z h51 a1 "com/example/api_policy_gateway/apipolicygateway/net/BufferPool" := E_a1_49.wr W51
  have F_a1_spare_51 : Fld Z h51 a1 "com/example/api_policy_gateway/apipolicygateway/net/BufferPool" "spare" "[[B" (.ref sp) := F_a1_spare_49.other W51 (Or.inr (slot_ne (Or.inr (tw hw 12 rfl)) (Or.inl (tw hw 20 rfl)) (by decide) (t := (.array (.array .byte))) (t' := .int) (by decide) (by decide)))
  have E_x_51 : Exa Z h51 x "[B" := E_x_49.wr W51
  have L_x_51 : LenB Z h51 x (16384 : Int32) := L_x_49.other W51 ne_x_a1
  have V_sp_51 : Arv Z h51 sp k (.array .byte) (64 : Int32) [v0, (.ref x), v2] .null := V_sp_49.other W51 (Ne.symm ne_a1_sp)
  have K51 : Keep h0 h51 [a1, sp] := K49.wr W51 (Or.inl (List.mem_of_getElem? (i := 0) rfl))
  have N51 := Fr.snoc X51 N49 ge_a1
  have F_a1_spareCount_51 : Fld Z h51 a1 "com/example/api_policy_gateway/apipolicygateway/net/BufferPool" "spareCount" "I" (.int (2 : Int32)) := F_a1_spareCount_49.same W51
  refine Goes.step (T2 := T51) (g2 := (mkF m 55 #[rv a1, rv x] [])) st51 ?_
  exact Goes.ret (v := none) X51 (by decide) (by decide) (fun _ => rfl) (by show Q_rm_give1 Z a1 sp k v0 v1 v2 x h0 n0 _ T51.heap _; rw [e51]; exact ⟨rfl, N51, K51, F_a1_spare_51, F_a1_spareCount_51, V_sp_51⟩) (fun fs hr => X51.returnOut hx Bd.returns (hb hby d2_55) hr)
def Q_rm_give2 (Z : State) (a1 : Addr) (sp : Addr) (k : ClassId) (v0 : Value) (v1 : Value) (v2 : Value) (x : Addr) (h0 : Heap) (n0 : Nat) (v : Option Value) (h : Heap) (L : List Loc) : Prop := v = none ∧ Fr n0 L ∧ Keep h0 h [a1, sp] ∧ Fld Z h a1 "com/example/api_policy_gateway/apipolicygateway/net/BufferPool" "spare" "[[B" (.ref sp) ∧ Fld Z h a1 "com/example/api_policy_gateway/apipolicygateway/net/BufferPool" "spareCount" "I" (.int (3 : Int32)) ∧ Arv Z h sp k (.array .byte) (64 : Int32) [v0, v1, (.ref x)] .null
set_option maxRecDepth 65536 in
set_option maxHeartbeats 40000000 in
theorem rm_give2 (l : Launch) (Z : State) (a0 : Array Value) (hw : ∀ d ∈ tables_1, d.before a0 Z = true) (ws : List Jvm.Cond) (a1 : Addr) (sp : Addr) (k : ClassId) (v0 : Value) (v1 : Value) (v2 : Value) (x : Addr) (h0 : Heap) (n0 : Nat) (Z0 : n0 ≤ h0.size) (O0 : Old Z n0 h0) (E_a1 : Exa Z h0 a1 "com/example/api_policy_gateway/apipolicygateway/net/BufferPool") (F_a1_spare : Fld Z h0 a1 "com/example/api_policy_gateway/apipolicygateway/net/BufferPool" "spare" "[[B" (.ref sp)) (F_a1_spareCount : Fld Z h0 a1 "com/example/api_policy_gateway/apipolicygateway/net/BufferPool" "spareCount" "I" (.int (2 : Int32))) (V_sp : Arv Z h0 sp k (.array .byte) (64 : Int32) [v0, v1, v2] .null) (E_x : Exa Z h0 x "[B") (L_x : LenB Z h0 x (16384 : Int32)) (ge_a1 : n0 ≤ a1) (ge_sp : n0 ≤ sp) (ne_a1_sp : a1 ≠ sp) (ne_x_a1 : x ≠ a1) (ne_x_sp : x ≠ sp) (Ov : OvrA Z k .byte "[B") :
    MetFree l Y2 (head1 (Jvm.Cond.code Y2 prog_16_method_3_code 2 none :: ws) ({ frames := 0, cells := 0, slots := 0, locals := 0 } : Room)) (fun a U => a = #[(.ref a1), (.ref x)] ∧ Z.Warmed39 U.vm ∧ U.heap = h0) (fun _ _ _ _ _ => True) (fun _ U o U' => ∃ v L, o = .returned v ∧ Q_rm_give2 Z a1 sp k v0 v1 v2 x h0 n0 v U'.heap L ∧ FrameEnd U o U' L ({ frames := 0, cells := 0, slots := 0, locals := 0 } : Room).cells ({ frames := 0, cells := 0, slots := 0, locals := 0 } : Room).slots) := by
  refine MetFree.of_bodySF (plainFor_of_name pn_com_example_api_policy_gateway_apipolicygateway_net_BufferPool) hisR ?_
  intro p e s m args below meth c s₁ Bd hml0 hP hK
  obtain ⟨rfl, hZ, hh⟩ := hP
  have hx := Bd.exec
  have hby := Bd.bytes
  have hml : c.maxLocals = 2 := hml0
  have hown : s.vm.findClass "com/example/api_policy_gateway/apipolicygateway/net/BufferPool" = some m.cls := findClass_of_methodNamed Bd.named
  have hnm := (name_of_methodNamed Bd.named Bd.method).1
  have X0 : Stand p l e ({ frames := 0, cells := 0, slots := 0, locals := 0 } : Room) s m #[(.ref a1), (.ref x)] below meth c s₁ [] 0 0 := Stand.of_body Bd
  have e0 : s₁.heap = h0 := by rw [← hh, Bd.state]; rfl
  have N0 := Fr.nil n0
  refine Goes.out (l := l) (c := c) (R := ({ frames := 0, cells := 0, slots := 0, locals := 0 } : Room)) (Q := Q_rm_give2 Z a1 sp k v0 v1 v2 x h0 n0) Bd.notSynchronized ?_
  refine Goes.cast (g2 := mkF m 0 #[rv a1, rv x] []) (by first | (simp [entryFrame, mkF, argsToLocals, Value.category]; done) | rfl) ?_
  have K0 : Keep h0 h0 [a1, sp] := Keep.refl h0 _
  have hws : ∀ x ∈ [a1, sp], n0 ≤ x := (allS ge_a1 (allS ge_sp all0))
  refine Goes.step (T2 := s₁) (g2 := (mkF m 1 #[rv a1, rv x] [(.ref x)])) (fun _ hr => XS.aloadN X0.here hx rfl (hb hby d2_0) rfl rfl hr) ?_
  obtain ⟨cl52, Ar52, S52, Nn52⟩ := id L_x
  refine Goes.step (T2 := s₁) (g2 := (mkF m 2 #[rv a1, rv x] [(.int (16384 : Int32))])) (fun t hr => X0.arraylength hx (own_at e0 Ar52.1) (State.isArrayOf_alike hZ.alike Ar52.2.1) (g := (mkF m 1 #[rv a1, rv x] [(.ref x)])) rfl rfl (hb hby d2_1) t (by rw [len_of S52 Nn52]; exact hr)) ?_
  refine Goes.step (T2 := s₁) (g2 := (mkF m 5 #[rv a1, rv x] [(.int (16384 : Int32)), (.int (16384 : Int32))])) (fun _ hr => XS.sipush X0.here hx rfl (hb hby d2_2) hr) ?_
  refine Goes.step (T2 := s₁) (g2 := (mkF m 23 #[rv a1, rv x] [])) (fun _ hr => XS.icmpYes X0.here hx rfl (pc0 := 5) (pc' := 23) rfl (hb hby d2_5) rfl (teq (by decide : (16384 : Int32) = (16384 : Int32))).1 (by decide) (by decide) hr) ?_
  refine Goes.step (T2 := s₁) (g2 := (mkF m 24 #[rv a1, rv x] [(.ref a1)])) (fun _ hr => XS.aloadN X0.here hx rfl (hb hby d2_23) rfl rfl hr) ?_
  obtain ⟨T53, X53, e53, st53⟩ := getF X0 hx hZ hown (host := "") (Or.inl (tw hw 19 rfl)) Via.refl e0 F_a1_spareCount (g := (mkF m 24 #[rv a1, rv x] [(.ref a1)])) rfl rfl (hb hby d2_24)
  refine Goes.step (T2 := T53) (g2 := (mkF m 27 #[rv a1, rv x] [(.int (2 : Int32))])) st53 ?_
  refine Goes.step (T2 := T53) (g2 := (mkF m 28 #[rv a1, rv x] [(.ref a1), (.int (2 : Int32))])) (fun _ hr => XS.aloadN X53.here hx rfl (hb hby d2_27) rfl rfl hr) ?_
  obtain ⟨T54, X54, e54, st54⟩ := getF X53 hx hZ hown (host := "") (Or.inl (tw hw 11 rfl)) Via.refl e53 F_a1_spare (g := (mkF m 28 #[rv a1, rv x] [(.ref a1), (.int (2 : Int32))])) rfl rfl (hb hby d2_28)
  refine Goes.step (T2 := T54) (g2 := (mkF m 31 #[rv a1, rv x] [(.ref sp), (.int (2 : Int32))])) st54 ?_
  obtain ⟨cl55, Ar55, -, S55, Nn55, -, -⟩ := id V_sp
  refine Goes.step (T2 := T54) (g2 := (mkF m 32 #[rv a1, rv x] [(.int (64 : Int32)), (.int (2 : Int32))])) (fun t hr => X54.arraylength hx (own_at e54 Ar55.1) (State.isArrayOf_alike hZ.alike Ar55.2.1) (g := (mkF m 31 #[rv a1, rv x] [(.ref sp), (.int (2 : Int32))])) rfl rfl (hb hby d2_31) t (by rw [len_of S55 Nn55]; exact hr)) ?_
  refine Goes.step (T2 := T54) (g2 := (mkF m 35 #[rv a1, rv x] [])) (fun _ hr => XS.icmpNo X54.here hx rfl (hb hby d2_32) rfl (tlt (by decide : (2 : Int32) < (64 : Int32))).2.1 hr) ?_
  refine Goes.step (T2 := T54) (g2 := (mkF m 36 #[rv a1, rv x] [(.ref a1)])) (fun _ hr => XS.aloadN X54.here hx rfl (hb hby d2_35) rfl rfl hr) ?_
  obtain ⟨T56, X56, e56, st56⟩ := getF X54 hx hZ hown (host := "") (Or.inl (tw hw 11 rfl)) Via.refl e54 F_a1_spare (g := (mkF m 36 #[rv a1, rv x] [(.ref a1)])) rfl rfl (hb hby d2_36)
  refine Goes.step (T2 := T56) (g2 := (mkF m 39 #[rv a1, rv x] [(.ref sp)])) st56 ?_
  refine Goes.step (T2 := T56) (g2 := (mkF m 40 #[rv a1, rv x] [(.ref a1), (.ref sp)])) (fun _ hr => XS.aloadN X56.here hx rfl (hb hby d2_39) rfl rfl hr) ?_
  obtain ⟨T57, X57, e57, st57⟩ := getF X56 hx hZ hown (host := "") (Or.inl (tw hw 19 rfl)) Via.refl e56 F_a1_spareCount (g := (mkF m 40 #[rv a1, rv x] [(.ref a1), (.ref sp)])) rfl rfl (hb hby d2_40)
  refine Goes.step (T2 := T57) (g2 := (mkF m 43 #[rv a1, rv x] [(.int (2 : Int32)), (.ref sp)])) st57 ?_
  refine Goes.step (T2 := T57) (g2 := (mkF m 44 #[rv a1, rv x] [(.ref x), (.int (2 : Int32)), (.ref sp)])) (fun _ hr => XS.aloadN X57.here hx rfl (hb hby d2_43) rfl rfl hr) ?_
  obtain ⟨cl58, Ar58, q58, S58, Nn58, H58, G58⟩ := id V_sp
  have hin58 : ¬ ((2 : Int32) < 0 ∨ cl58.slots.size ≤ ((2 : Int32)).toNatClampNeg) := inb_of S58 ⟨by decide, by decide⟩
  obtain ⟨T58, h58, X58, e58, W58, st58⟩ := stR X57 hx hZ e57 Ar58 (j := (2 : Int32)) hin58 rfl (Sto.ofVA Ar58 q58 Ov (Ins.self E_x)) (g := (mkF m 44 #[rv a1, rv x] [(.ref x), (.int (2 : Int32)), (.ref sp)])) rfl rfl (hb hby d2_44)
  have E_a1_58 : Exa Z h58 a1 "com/example/api_policy_gateway/apipolicygateway/net/BufferPool" := E_a1.wr W58
  have F_a1_spare_58 : Fld Z h58 a1 "com/example/api_policy_gateway/apipolicygateway/net/BufferPool" "spare" "[[B" (.ref sp) := F_a1_spare.other W58 (Or.inl ne_a1_sp)
  have F_a1_spareCount_58 : Fld Z h58 a1 "com/example/api_policy_gateway/apipolicygateway/net/BufferPool" "spareCount" "I" (.int (2 : Int32)) := F_a1_spareCount.other W58 (Or.inl ne_a1_sp)
  have E_x_58 : Exa Z h58 x "[B" := E_x.wr W58
  have L_x_58 : LenB Z h58 x (16384 : Int32) := L_x.other W58 ne_x_sp
  have K58 : Keep h0 h58 [a1, sp] := K0.wr W58 (Or.inl (List.mem_of_getElem? (i := 1) rfl))
  have N58 := Fr.snoc X58 N0 ge_sp
  have V_sp_58 : Arv Z h58 sp k (.array .byte) (64 : Int32) [v0, v1, (.ref x)] .null := Arv.set Ar58 q58 S58 Nn58 H58 G58 rfl W58 2 rfl (Nat.le_of_ble_eq_true rfl)
  refine Goes.step (T2 := T58) (g2 := (mkF m 45 #[rv a1, rv x] [])) st58 ?_
  refine Goes.step (T2 := T58) (g2 := (mkF m 46 #[rv a1, rv x] [(.ref a1)])) (fun _ hr => XS.aloadN X58.here hx rfl (hb hby d2_45) rfl rfl hr) ?_
  refine Goes.step (T2 := T58) (g2 := (mkF m 47 #[rv a1, rv x] [(.ref a1), (.ref a1)])) (fun _ hr => XS.dup X58.here hx rfl (hb hby d2_46) rfl rfl hr) ?_
  obtain ⟨T59, X59, e59, st59⟩ := getF X58 hx hZ hown (host := "") (Or.inl (tw hw 19 rfl)) Via.refl e58 F_a1_spareCount_58 (g := (mkF m 47 #[rv a1, rv x] [(.ref a1), (.ref a1)])) rfl rfl (hb hby d2_47)
  refine Goes.step (T2 := T59) (g2 := (mkF m 50 #[rv a1, rv x] [(.int (2 : Int32)), (.ref a1)])) st59 ?_
  refine Goes.step (T2 := T59) (g2 := (mkF m 51 #[rv a1, rv x] [(.int (1 : Int32)), (.int (2 : Int32)), (.ref a1)])) (fun _ hr => XS.iconst X59.here hx rfl (hb hby d2_50) hr) ?_
  refine Goes.step (T2 := T59) (g2 := (mkF m 52 #[rv a1, rv x] [(.int (3 : Int32)), (.ref a1)])) (fun _ hr => XS.iadd X59.here hx rfl (hb hby d2_51) rfl hr) ?_
  obtain ⟨T60, h60, X60, e60, W60, st60⟩ := putF X59 hx hZ hown (host := "") (Or.inl (tw hw 19 rfl)) Via.refl e59 F_a1_spareCount_58 E_a1_58 (Or.inl (tw hw 20 rfl)) (tw hw 1 rfl) (ty := .int) (by decide) rfl rfl (g := (mkF m 52 #[rv a1, rv x] [(.int (3 : Int32)), (.ref a1)])) rfl rfl (hb hby d2_52)
  have E_a1_60 : Exa Z h60 a1 "com/example/api_policy_gateway/apipolicygateway/net/BufferPool" := E_a1_58.wr W60
  have F_a1_spare_60 : Fld Z h60 a1 "com/example/api_policy_gateway/apipolicygateway/net/BufferPool" "spare" "[[B" (.ref sp) := F_a1_spare_58.other W60 (Or.inr (slot_ne (Or.inr (tw hw 12 rfl)) (Or.inl (tw hw 20 rfl)) (by decide) (t := (.array (.array .byte))) (t' := .int) (by decide) (by decide)))
  have E_x_60 : Exa Z h60 x "[B" := E_x_58.wr W60
  have L_x_60 : LenB Z h60 x (16384 : Int32) := L_x_58.other W60 ne_x_a1
  have V_sp_60 : Arv Z h60 sp k (.array .byte) (64 : Int32) [v0, v1, (.ref x)] .null := V_sp_58.other W60 (Ne.symm ne_a1_sp)
  have K60 : Keep h0 h60 [a1, sp] := K58.wr W60 (Or.inl (List.mem_of_getElem? (i := 0) rfl))
  have N60 := Fr.snoc X60 N58 ge_a1
  have F_a1_spareCount_60 : Fld Z h60 a1 "com/example/api_policy_gateway/apipolicygateway/net/BufferPool" "spareCount" "I" (.int (3 : Int32)) := F_a1_spareCount_58.same W60
  refine Goes.step (T2 := T60) (g2 := (mkF m 55 #[rv a1, rv x] [])) st60 ?_
  exact Goes.ret (v := none) X60 (by decide) (by decide) (fun _ => rfl) (by show Q_rm_give2 Z a1 sp k v0 v1 v2 x h0 n0 _ T60.heap _; rw [e60]; exact ⟨rfl, N60, K60, F_a1_spare_60, F_a1_spareCount_60, V_sp_60⟩) (fun fs hr => X60.returnOut hx Bd.returns (hb hby d2_55) hr)
theorem d3_0 : decode method_3_code 0 = .ok (.iload_n 0, 1) := by decide +kernel
theorem d3_1 : decode method_3_code 1 = .ok (.ifCond .ne 5, 3) := by decide +kernel
theorem d3_4 : decode method_3_code 4 = .ok (.aload_n 1, 1) := by decide +kernel
theorem d3_5 : decode method_3_code 5 = .ok (.areturn, 1) := by decide +kernel
theorem pn_com_example_api_policy_gateway_apipolicygateway_net_BufferPoolGivePinLaw : plainName "com/example/api_policy_gateway/apipolicygateway/net/BufferPoolGivePinLaw" = true := by first | (simp [plainName, overriddenIn]; done) | decide +kernel
def Q_rm_pick0 (Z : State) (a1 : Addr) (a2 : Addr) (a3 : Addr) (h0 : Heap) (n0 : Nat) (v : Option Value) (h : Heap) (L : List Loc) : Prop := v = some (.ref a1) ∧ Fr n0 L ∧ h = h0
set_option maxRecDepth 65536 in
set_option maxHeartbeats 40000000 in
theorem rm_pick0 (l : Launch) (Z : State) (a0 : Array Value) (hw : ∀ d ∈ tables_1, d.before a0 Z = true) (ws : List Jvm.Cond) (a1 : Addr) (a2 : Addr) (a3 : Addr) (h0 : Heap) (n0 : Nat) (Z0 : n0 ≤ h0.size) (O0 : Old Z n0 h0) :
    MetFree l Y3 (head1 (Jvm.Cond.code Y3 method_3_code 4 (some (.array .byte)) :: ws) ({ frames := 0, cells := 0, slots := 0, locals := 0 } : Room)) (fun a U => a = #[(.int (0 : Int32)), (.ref a1), (.ref a2), (.ref a3)] ∧ Z.Warmed39 U.vm ∧ U.heap = h0) (fun _ _ _ _ _ => True) (fun _ U o U' => ∃ v L, o = .returned v ∧ Q_rm_pick0 Z a1 a2 a3 h0 n0 v U'.heap L ∧ FrameEnd U o U' L ({ frames := 0, cells := 0, slots := 0, locals := 0 } : Room).cells ({ frames := 0, cells := 0, slots := 0, locals := 0 } : Room).slots) := by
  refine MetFree.of_bodySF (plainFor_of_name pn_com_example_api_policy_gateway_apipolicygateway_net_BufferPoolGivePinLaw) hisR ?_
  intro p e s m args below meth c s₁ Bd hml0 hP hK
  obtain ⟨rfl, hZ, hh⟩ := hP
  have hx := Bd.exec
  have hby := Bd.bytes
  have hml : c.maxLocals = 4 := hml0
  have hown : s.vm.findClass "com/example/api_policy_gateway/apipolicygateway/net/BufferPoolGivePinLaw" = some m.cls := findClass_of_methodNamed Bd.named
  have hnm := (name_of_methodNamed Bd.named Bd.method).1
  have X0 : Stand p l e ({ frames := 0, cells := 0, slots := 0, locals := 0 } : Room) s m #[(.int (0 : Int32)), (.ref a1), (.ref a2), (.ref a3)] below meth c s₁ [] 0 0 := Stand.of_body Bd
  have e0 : s₁.heap = h0 := by rw [← hh, Bd.state]; rfl
  have N0 := Fr.nil n0
  refine Goes.out (l := l) (c := c) (R := ({ frames := 0, cells := 0, slots := 0, locals := 0 } : Room)) (Q := Q_rm_pick0 Z a1 a2 a3 h0 n0) Bd.notSynchronized ?_
  refine Goes.cast (g2 := mkF m 0 #[iv 0, rv a1, rv a2, rv a3] []) (by first | (simp [entryFrame, mkF, argsToLocals, Value.category]; done) | rfl) ?_
  have K0 : Keep h0 h0 [] := Keep.refl h0 _
  have hws : ∀ x ∈ ([] : List Addr), n0 ≤ x := all0
  refine Goes.step (T2 := s₁) (g2 := (mkF m 1 #[iv 0, rv a1, rv a2, rv a3] [(.int (0 : Int32))])) (fun _ hr => XS.iloadN X0.here hx rfl (hb hby d3_0) rfl  hr) ?_
  refine Goes.step (T2 := s₁) (g2 := (mkF m 4 #[iv 0, rv a1, rv a2, rv a3] [])) (fun _ hr => XS.ifNo X0.here hx rfl (hb hby d3_1) rfl ((if0 _ _).trans (teq (by decide : (0 : Int32) = (0 : Int32))).2) hr) ?_
  refine Goes.step (T2 := s₁) (g2 := (mkF m 5 #[iv 0, rv a1, rv a2, rv a3] [(.ref a1)])) (fun _ hr => XS.aloadN X0.here hx rfl (hb hby d3_4) rfl rfl hr) ?_
  exact Goes.ret (v := some (.ref a1)) X0 (by decide) (by decide) (fun h => by rw [Bd.returns] at h; cases h) ⟨rfl, N0, e0⟩ (fun fs hr => retOut X0 hx Bd.returns rfl (Or.inr (Or.inr (Or.inr (Or.inr ⟨rfl, rfl, rfl⟩)))) (hb hby d3_5) hr)
theorem d3_6 : decode method_3_code 6 = .ok (.iload_n 0, 1) := by decide +kernel
theorem d3_7 : decode method_3_code 7 = .ok (.iconst 1, 1) := by decide +kernel
theorem d3_8 : decode method_3_code 8 = .ok (.if_icmp .ne 5, 3) := by decide +kernel
theorem d3_11 : decode method_3_code 11 = .ok (.aload_n 2, 1) := by decide +kernel
theorem d3_12 : decode method_3_code 12 = .ok (.areturn, 1) := by decide +kernel
def Q_rm_pick1 (Z : State) (a1 : Addr) (a2 : Addr) (a3 : Addr) (h0 : Heap) (n0 : Nat) (v : Option Value) (h : Heap) (L : List Loc) : Prop := v = some (.ref a2) ∧ Fr n0 L ∧ h = h0
set_option maxRecDepth 65536 in
set_option maxHeartbeats 40000000 in
theorem rm_pick1 (l : Launch) (Z : State) (a0 : Array Value) (hw : ∀ d ∈ tables_1, d.before a0 Z = true) (ws : List Jvm.Cond) (a1 : Addr) (a2 : Addr) (a3 : Addr) (h0 : Heap) (n0 : Nat) (Z0 : n0 ≤ h0.size) (O0 : Old Z n0 h0) :
    MetFree l Y3 (head1 (Jvm.Cond.code Y3 method_3_code 4 (some (.array .byte)) :: ws) ({ frames := 0, cells := 0, slots := 0, locals := 0 } : Room)) (fun a U => a = #[(.int (1 : Int32)), (.ref a1), (.ref a2), (.ref a3)] ∧ Z.Warmed39 U.vm ∧ U.heap = h0) (fun _ _ _ _ _ => True) (fun _ U o U' => ∃ v L, o = .returned v ∧ Q_rm_pick1 Z a1 a2 a3 h0 n0 v U'.heap L ∧ FrameEnd U o U' L ({ frames := 0, cells := 0, slots := 0, locals := 0 } : Room).cells ({ frames := 0, cells := 0, slots := 0, locals := 0 } : Room).slots) := by
  refine MetFree.of_bodySF (plainFor_of_name pn_com_example_api_policy_gateway_apipolicygateway_net_BufferPoolGivePinLaw) hisR ?_
  intro p e s m args below meth c s₁ Bd hml0 hP hK
  obtain ⟨rfl, hZ, hh⟩ := hP
  have hx := Bd.exec
  have hby := Bd.bytes
  have hml : c.maxLocals = 4 := hml0
  have hown : s.vm.findClass "com/example/api_policy_gateway/apipolicygateway/net/BufferPoolGivePinLaw" = some m.cls := findClass_of_methodNamed Bd.named
  have hnm := (name_of_methodNamed Bd.named Bd.method).1
  have X0 : Stand p l e ({ frames := 0, cells := 0, slots := 0, locals := 0 } : Room) s m #[(.int (1 : Int32)), (.ref a1), (.ref a2), (.ref a3)] below meth c s₁ [] 0 0 := Stand.of_body Bd
  have e0 : s₁.heap = h0 := by rw [← hh, Bd.state]; rfl
  have N0 := Fr.nil n0
  refine Goes.out (l := l) (c := c) (R := ({ frames := 0, cells := 0, slots := 0, locals := 0 } : Room)) (Q := Q_rm_pick1 Z a1 a2 a3 h0 n0) Bd.notSynchronized ?_
  refine Goes.cast (g2 := mkF m 0 #[iv 1, rv a1, rv a2, rv a3] []) (by first | (simp [entryFrame, mkF, argsToLocals, Value.category]; done) | rfl) ?_
  have K0 : Keep h0 h0 [] := Keep.refl h0 _
  have hws : ∀ x ∈ ([] : List Addr), n0 ≤ x := all0
  refine Goes.step (T2 := s₁) (g2 := (mkF m 1 #[iv 1, rv a1, rv a2, rv a3] [(.int (1 : Int32))])) (fun _ hr => XS.iloadN X0.here hx rfl (hb hby d3_0) rfl  hr) ?_
  refine Goes.step (T2 := s₁) (g2 := (mkF m 6 #[iv 1, rv a1, rv a2, rv a3] [])) (fun _ hr => XS.ifYes X0.here hx rfl (pc0 := 1) (pc' := 6) rfl (hb hby d3_1) rfl ((if0 _ _).trans (feq (by decide : ¬ ((1 : Int32) = (0 : Int32)))).2) (by decide) (by decide) hr) ?_
  refine Goes.step (T2 := s₁) (g2 := (mkF m 7 #[iv 1, rv a1, rv a2, rv a3] [(.int (1 : Int32))])) (fun _ hr => XS.iloadN X0.here hx rfl (hb hby d3_6) rfl  hr) ?_
  refine Goes.step (T2 := s₁) (g2 := (mkF m 8 #[iv 1, rv a1, rv a2, rv a3] [(.int (1 : Int32)), (.int (1 : Int32))])) (fun _ hr => XS.iconst X0.here hx rfl (hb hby d3_7) hr) ?_
  refine Goes.step (T2 := s₁) (g2 := (mkF m 11 #[iv 1, rv a1, rv a2, rv a3] [])) (fun _ hr => XS.icmpNo X0.here hx rfl (hb hby d3_8) rfl (teq (by decide : (1 : Int32) = (1 : Int32))).2 hr) ?_
  refine Goes.step (T2 := s₁) (g2 := (mkF m 12 #[iv 1, rv a1, rv a2, rv a3] [(.ref a2)])) (fun _ hr => XS.aloadN X0.here hx rfl (hb hby d3_11) rfl rfl hr) ?_
  exact Goes.ret (v := some (.ref a2)) X0 (by decide) (by decide) (fun h => by rw [Bd.returns] at h; cases h) ⟨rfl, N0, e0⟩ (fun fs hr => retOut X0 hx Bd.returns rfl (Or.inr (Or.inr (Or.inr (Or.inr ⟨rfl, rfl, rfl⟩)))) (hb hby d3_12) hr)
theorem d3_13 : decode method_3_code 13 = .ok (.aload_n 3, 1) := by decide +kernel
theorem d3_14 : decode method_3_code 14 = .ok (.areturn, 1) := by decide +kernel
def Q_rm_pick2 (Z : State) (a1 : Addr) (a2 : Addr) (a3 : Addr) (h0 : Heap) (n0 : Nat) (v : Option Value) (h : Heap) (L : List Loc) : Prop := v = some (.ref a3) ∧ Fr n0 L ∧ h = h0
set_option maxRecDepth 65536 in
set_option maxHeartbeats 40000000 in
theorem rm_pick2 (l : Launch) (Z : State) (a0 : Array Value) (hw : ∀ d ∈ tables_1, d.before a0 Z = true) (ws : List Jvm.Cond) (a1 : Addr) (a2 : Addr) (a3 : Addr) (h0 : Heap) (n0 : Nat) (Z0 : n0 ≤ h0.size) (O0 : Old Z n0 h0) :
    MetFree l Y3 (head1 (Jvm.Cond.code Y3 method_3_code 4 (some (.array .byte)) :: ws) ({ frames := 0, cells := 0, slots := 0, locals := 0 } : Room)) (fun a U => a = #[(.int (2 : Int32)), (.ref a1), (.ref a2), (.ref a3)] ∧ Z.Warmed39 U.vm ∧ U.heap = h0) (fun _ _ _ _ _ => True) (fun _ U o U' => ∃ v L, o = .returned v ∧ Q_rm_pick2 Z a1 a2 a3 h0 n0 v U'.heap L ∧ FrameEnd U o U' L ({ frames := 0, cells := 0, slots := 0, locals := 0 } : Room).cells ({ frames := 0, cells := 0, slots := 0, locals := 0 } : Room).slots) := by
  refine MetFree.of_bodySF (plainFor_of_name pn_com_example_api_policy_gateway_apipolicygateway_net_BufferPoolGivePinLaw) hisR ?_
  intro p e s m args below meth c s₁ Bd hml0 hP hK
  obtain ⟨rfl, hZ, hh⟩ := hP
  have hx := Bd.exec
  have hby := Bd.bytes
  have hml : c.maxLocals = 4 := hml0
  have hown : s.vm.findClass "com/example/api_policy_gateway/apipolicygateway/net/BufferPoolGivePinLaw" = some m.cls := findClass_of_methodNamed Bd.named
  have hnm := (name_of_methodNamed Bd.named Bd.method).1
  have X0 : Stand p l e ({ frames := 0, cells := 0, slots := 0, locals := 0 } : Room) s m #[(.int (2 : Int32)), (.ref a1), (.ref a2), (.ref a3)] below meth c s₁ [] 0 0 := Stand.of_body Bd
  have e0 : s₁.heap = h0 := by rw [← hh, Bd.state]; rfl
  have N0 := Fr.nil n0
  refine Goes.out (l := l) (c := c) (R := ({ frames := 0, cells := 0, slots := 0, locals := 0 } : Room)) (Q := Q_rm_pick2 Z a1 a2 a3 h0 n0) Bd.notSynchronized ?_
  refine Goes.cast (g2 := mkF m 0 #[iv 2, rv a1, rv a2, rv a3] []) (by first | (simp [entryFrame, mkF, argsToLocals, Value.category]; done) | rfl) ?_
  have K0 : Keep h0 h0 [] := Keep.refl h0 _
  have hws : ∀ x ∈ ([] : List Addr), n0 ≤ x := all0
  refine Goes.step (T2 := s₁) (g2 := (mkF m 1 #[iv 2, rv a1, rv a2, rv a3] [(.int (2 : Int32))])) (fun _ hr => XS.iloadN X0.here hx rfl (hb hby d3_0) rfl  hr) ?_
  refine Goes.step (T2 := s₁) (g2 := (mkF m 6 #[iv 2, rv a1, rv a2, rv a3] [])) (fun _ hr => XS.ifYes X0.here hx rfl (pc0 := 1) (pc' := 6) rfl (hb hby d3_1) rfl ((if0 _ _).trans (feq (by decide : ¬ ((2 : Int32) = (0 : Int32)))).2) (by decide) (by decide) hr) ?_
  refine Goes.step (T2 := s₁) (g2 := (mkF m 7 #[iv 2, rv a1, rv a2, rv a3] [(.int (2 : Int32))])) (fun _ hr => XS.iloadN X0.here hx rfl (hb hby d3_6) rfl  hr) ?_
  refine Goes.step (T2 := s₁) (g2 := (mkF m 8 #[iv 2, rv a1, rv a2, rv a3] [(.int (1 : Int32)), (.int (2 : Int32))])) (fun _ hr => XS.iconst X0.here hx rfl (hb hby d3_7) hr) ?_
  refine Goes.step (T2 := s₁) (g2 := (mkF m 13 #[iv 2, rv a1, rv a2, rv a3] [])) (fun _ hr => XS.icmpYes X0.here hx rfl (pc0 := 8) (pc' := 13) rfl (hb hby d3_8) rfl (feq (by decide : ¬ ((2 : Int32) = (1 : Int32)))).2 (by decide) (by decide) hr) ?_
  refine Goes.step (T2 := s₁) (g2 := (mkF m 14 #[iv 2, rv a1, rv a2, rv a3] [(.ref a3)])) (fun _ hr => XS.aloadN X0.here hx rfl (hb hby d3_13) rfl rfl hr) ?_
  exact Goes.ret (v := some (.ref a3)) X0 (by decide) (by decide) (fun h => by rw [Bd.returns] at h; cases h) ⟨rfl, N0, e0⟩ (fun fs hr => retOut X0 hx Bd.returns rfl (Or.inr (Or.inr (Or.inr (Or.inr ⟨rfl, rfl, rfl⟩)))) (hb hby d3_14) hr)
theorem d4_0 : decode method_4_code 0 = .ok (.aload_n 0, 1) := by decide +kernel
theorem d4_1 : decode method_4_code 1 = .ok (.ifnonnull 5, 3) := by decide +kernel
theorem d4_6 : decode method_4_code 6 = .ok (.iload_n 1, 1) := by decide +kernel
theorem d4_7 : decode method_4_code 7 = .ok (.iload_n 2, 1) := by decide +kernel
theorem d4_8 : decode method_4_code 8 = .ok (.if_icmp .ge 26, 3) := by decide +kernel
theorem d4_34 : decode method_4_code 34 = .ok (.aload_n 0, 1) := by decide +kernel
theorem d4_35 : decode method_4_code 35 = .ok (.arraylength, 1) := by decide +kernel
theorem d4_36 : decode method_4_code 36 = .ok (.sipush 16384, 3) := by decide +kernel
theorem d4_39 : decode method_4_code 39 = .ok (.if_icmp .ne 24, 3) := by decide +kernel
theorem d4_42 : decode method_4_code 42 = .ok (.aload_n 0, 1) := by decide +kernel
theorem d4_43 : decode method_4_code 43 = .ok (.aload_n 3, 1) := by decide +kernel
theorem d4_44 : decode method_4_code 44 = .ok (.if_acmp .eq 19, 3) := by decide +kernel
theorem d4_47 : decode method_4_code 47 = .ok (.aload_n 0, 1) := by decide +kernel
theorem d4_48 : decode method_4_code 48 = .ok (.aload 4, 2) := by decide +kernel
theorem d4_50 : decode method_4_code 50 = .ok (.if_acmp .eq 13, 3) := by decide +kernel
theorem d4_53 : decode method_4_code 53 = .ok (.aload_n 0, 1) := by decide +kernel
theorem d4_54 : decode method_4_code 54 = .ok (.aload 5, 2) := by decide +kernel
theorem d4_56 : decode method_4_code 56 = .ok (.if_acmp .eq 7, 3) := by decide +kernel
theorem d4_59 : decode method_4_code 59 = .ok (.iconst 1, 1) := by decide +kernel
theorem d4_60 : decode method_4_code 60 = .ok (.goto 4, 3) := by decide +kernel
theorem d4_64 : decode method_4_code 64 = .ok (.ireturn, 1) := by decide +kernel
def Q_rm_exp00 (Z : State) (t1 : Addr) (a1 : Addr) (a2 : Addr) (a3 : Addr) (h0 : Heap) (n0 : Nat) (v : Option Value) (h : Heap) (L : List Loc) : Prop := v = some (.int (1 : Int32)) ∧ Fr n0 L ∧ h = h0
set_option maxRecDepth 65536 in
set_option maxHeartbeats 40000000 in
theorem rm_exp00 (l : Launch) (Z : State) (a0 : Array Value) (hw : ∀ d ∈ tables_1, d.before a0 Z = true) (ws : List Jvm.Cond) (t1 : Addr) (a1 : Addr) (a2 : Addr) (a3 : Addr) (h0 : Heap) (n0 : Nat) (Z0 : n0 ≤ h0.size) (O0 : Old Z n0 h0) (L_t1 : LenB Z h0 t1 (16384 : Int32)) (ne_t1_a1 : t1 ≠ a1) (ne_t1_a2 : t1 ≠ a2) (ne_t1_a3 : t1 ≠ a3) :
    MetFree l Y4 (head1 (Jvm.Cond.code Y4 method_4_code 6 (some .boolean) :: ws) ({ frames := 0, cells := 0, slots := 0, locals := 0 } : Room)) (fun a U => a = #[(.ref t1), (.int (0 : Int32)), (.int (0 : Int32)), (.ref a1), (.ref a2), (.ref a3)] ∧ Z.Warmed39 U.vm ∧ U.heap = h0) (fun _ _ _ _ _ => True) (fun _ U o U' => ∃ v L, o = .returned v ∧ Q_rm_exp00 Z t1 a1 a2 a3 h0 n0 v U'.heap L ∧ FrameEnd U o U' L ({ frames := 0, cells := 0, slots := 0, locals := 0 } : Room).cells ({ frames := 0, cells := 0, slots := 0, locals := 0 } : Room).slots) := by
  refine MetFree.of_bodySF (plainFor_of_name pn_com_example_api_policy_gateway_apipolicygateway_net_BufferPoolGivePinLaw) hisR ?_
  intro p e s m args below meth c s₁ Bd hml0 hP hK
  obtain ⟨rfl, hZ, hh⟩ := hP
  have hx := Bd.exec
  have hby := Bd.bytes
  have hml : c.maxLocals = 6 := hml0
  have hown : s.vm.findClass "com/example/api_policy_gateway/apipolicygateway/net/BufferPoolGivePinLaw" = some m.cls := findClass_of_methodNamed Bd.named
  have hnm := (name_of_methodNamed Bd.named Bd.method).1
  have X0 : Stand p l e ({ frames := 0, cells := 0, slots := 0, locals := 0 } : Room) s m #[(.ref t1), (.int (0 : Int32)), (.int (0 : Int32)), (.ref a1), (.ref a2), (.ref a3)] below meth c s₁ [] 0 0 := Stand.of_body Bd
  have e0 : s₁.heap = h0 := by rw [← hh, Bd.state]; rfl
  have N0 := Fr.nil n0
  refine Goes.out (l := l) (c := c) (R := ({ frames := 0, cells := 0, slots := 0, locals := 0 } : Room)) (Q := Q_rm_exp00 Z t1 a1 a2 a3 h0 n0) Bd.notSynchronized ?_
  refine Goes.cast (g2 := mkF m 0 #[rv t1, iv 0, iv 0, rv a1, rv a2, rv a3] []) (by first | (simp [entryFrame, mkF, argsToLocals, Value.category]; done) | rfl) ?_
  have K0 : Keep h0 h0 [] := Keep.refl h0 _
  have hws : ∀ x ∈ ([] : List Addr), n0 ≤ x := all0
  refine Goes.step (T2 := s₁) (g2 := (mkF m 1 #[rv t1, iv 0, iv 0, rv a1, rv a2, rv a3] [(.ref t1)])) (fun _ hr => XS.aloadN X0.here hx rfl (hb hby d4_0) rfl rfl hr) ?_
  refine Goes.step (T2 := s₁) (g2 := (mkF m 6 #[rv t1, iv 0, iv 0, rv a1, rv a2, rv a3] [])) (fun _ hr => Jvm.Free.XT.ifnonnullYes X0.here hx rfl (pc0 := 1) (pc' := 6) rfl (hb hby d4_1) rfl (by decide) (by decide) hr) ?_
  refine Goes.step (T2 := s₁) (g2 := (mkF m 7 #[rv t1, iv 0, iv 0, rv a1, rv a2, rv a3] [(.int (0 : Int32))])) (fun _ hr => XS.iloadN X0.here hx rfl (hb hby d4_6) rfl  hr) ?_
  refine Goes.step (T2 := s₁) (g2 := (mkF m 8 #[rv t1, iv 0, iv 0, rv a1, rv a2, rv a3] [(.int (0 : Int32)), (.int (0 : Int32))])) (fun _ hr => XS.iloadN X0.here hx rfl (hb hby d4_7) rfl  hr) ?_
  refine Goes.step (T2 := s₁) (g2 := (mkF m 34 #[rv t1, iv 0, iv 0, rv a1, rv a2, rv a3] [])) (fun _ hr => XS.icmpYes X0.here hx rfl (pc0 := 8) (pc' := 34) rfl (hb hby d4_8) rfl (flt (by decide : ¬ ((0 : Int32) < (0 : Int32)))).2.1 (by decide) (by decide) hr) ?_
  refine Goes.step (T2 := s₁) (g2 := (mkF m 35 #[rv t1, iv 0, iv 0, rv a1, rv a2, rv a3] [(.ref t1)])) (fun _ hr => XS.aloadN X0.here hx rfl (hb hby d4_34) rfl rfl hr) ?_
  obtain ⟨cl61, Ar61, S61, Nn61⟩ := id L_t1
  refine Goes.step (T2 := s₁) (g2 := (mkF m 36 #[rv t1, iv 0, iv 0, rv a1, rv a2, rv a3] [(.int (16384 : Int32))])) (fun t hr => X0.arraylength hx (own_at e0 Ar61.1) (State.isArrayOf_alike hZ.alike Ar61.2.1) (g := (mkF m 35 #[rv t1, iv 0, iv 0, rv a1, rv a2, rv a3] [(.ref t1)])) rfl rfl (hb hby d4_35) t (by rw [len_of S61 Nn61]; exact hr)) ?_
  refine Goes.step (T2 := s₁) (g2 := (mkF m 39 #[rv t1, iv 0, iv 0, rv a1, rv a2, rv a3] [(.int (16384 : Int32)), (.int (16384 : Int32))])) (fun _ hr => XS.sipush X0.here hx rfl (hb hby d4_36) hr) ?_
  refine Goes.step (T2 := s₁) (g2 := (mkF m 42 #[rv t1, iv 0, iv 0, rv a1, rv a2, rv a3] [])) (fun _ hr => XS.icmpNo X0.here hx rfl (hb hby d4_39) rfl (teq (by decide : (16384 : Int32) = (16384 : Int32))).2 hr) ?_
  refine Goes.step (T2 := s₁) (g2 := (mkF m 43 #[rv t1, iv 0, iv 0, rv a1, rv a2, rv a3] [(.ref t1)])) (fun _ hr => XS.aloadN X0.here hx rfl (hb hby d4_42) rfl rfl hr) ?_
  refine Goes.step (T2 := s₁) (g2 := (mkF m 44 #[rv t1, iv 0, iv 0, rv a1, rv a2, rv a3] [(.ref a1), (.ref t1)])) (fun _ hr => XS.aloadN X0.here hx rfl (hb hby d4_43) rfl rfl hr) ?_
  refine Goes.step (T2 := s₁) (g2 := (mkF m 47 #[rv t1, iv 0, iv 0, rv a1, rv a2, rv a3] [])) (fun _ hr => Jvm.RoadKit.acmp (g := (mkF m 44 #[rv t1, iv 0, iv 0, rv a1, rv a2, rv a3] [(.ref a1), (.ref t1)])) X0 hx rfl rfl rfl (pc0 := 44) (pc' := 47) (same := false) rfl (hb hby d4_44) rfl (decide_eq_false fun q => ne_t1_a1 (Value.ref.inj q)) (by decide) (by decide) hr) ?_
  refine Goes.step (T2 := s₁) (g2 := (mkF m 48 #[rv t1, iv 0, iv 0, rv a1, rv a2, rv a3] [(.ref t1)])) (fun _ hr => XS.aloadN X0.here hx rfl (hb hby d4_47) rfl rfl hr) ?_
  refine Goes.step (T2 := s₁) (g2 := (mkF m 50 #[rv t1, iv 0, iv 0, rv a1, rv a2, rv a3] [(.ref a2), (.ref t1)])) (fun _ hr => XS.aload X0.here hx rfl (hb hby d4_48) rfl rfl hr) ?_
  refine Goes.step (T2 := s₁) (g2 := (mkF m 53 #[rv t1, iv 0, iv 0, rv a1, rv a2, rv a3] [])) (fun _ hr => Jvm.RoadKit.acmp (g := (mkF m 50 #[rv t1, iv 0, iv 0, rv a1, rv a2, rv a3] [(.ref a2), (.ref t1)])) X0 hx rfl rfl rfl (pc0 := 50) (pc' := 53) (same := false) rfl (hb hby d4_50) rfl (decide_eq_false fun q => ne_t1_a2 (Value.ref.inj q)) (by decide) (by decide) hr) ?_
  refine Goes.step (T2 := s₁) (g2 := (mkF m 54 #[rv t1, iv 0, iv 0, rv a1, rv a2, rv a3] [(.ref t1)])) (fun _ hr => XS.aloadN X0.here hx rfl (hb hby d4_53) rfl rfl hr) ?_
  refine Goes.step (T2 := s₁) (g2 := (mkF m 56 #[rv t1, iv 0, iv 0, rv a1, rv a2, rv a3] [(.ref a3), (.ref t1)])) (fun _ hr => XS.aload X0.here hx rfl (hb hby d4_54) rfl rfl hr) ?_
  refine Goes.step (T2 := s₁) (g2 := (mkF m 59 #[rv t1, iv 0, iv 0, rv a1, rv a2, rv a3] [])) (fun _ hr => Jvm.RoadKit.acmp (g := (mkF m 56 #[rv t1, iv 0, iv 0, rv a1, rv a2, rv a3] [(.ref a3), (.ref t1)])) X0 hx rfl rfl rfl (pc0 := 56) (pc' := 59) (same := false) rfl (hb hby d4_56) rfl (decide_eq_false fun q => ne_t1_a3 (Value.ref.inj q)) (by decide) (by decide) hr) ?_
  refine Goes.step (T2 := s₁) (g2 := (mkF m 60 #[rv t1, iv 0, iv 0, rv a1, rv a2, rv a3] [(.int (1 : Int32))])) (fun _ hr => XS.iconst X0.here hx rfl (hb hby d4_59) hr) ?_
  refine Goes.step (T2 := s₁) (g2 := (mkF m 64 #[rv t1, iv 0, iv 0, rv a1, rv a2, rv a3] [(.int (1 : Int32))])) (fun _ hr => XS.goto X0.here hx rfl (pc0 := 60) (pc' := 64) rfl (hb hby d4_60) (by decide) (by decide) hr) ?_
  exact Goes.ret (v := some (.int (1 : Int32))) X0 (by decide) (by decide) (fun h => by rw [Bd.returns] at h; cases h) ⟨rfl, N0, e0⟩ (fun fs hr => retN X0 hx (t := .boolean) Bd.returns (by simp) (hb hby d4_64) hr)
def Q_rm_exp10 (Z : State) (t1 : Addr) (a1 : Addr) (a2 : Addr) (a3 : Addr) (h0 : Heap) (n0 : Nat) (v : Option Value) (h : Heap) (L : List Loc) : Prop := v = some (.int (1 : Int32)) ∧ Fr n0 L ∧ h = h0
set_option maxRecDepth 65536 in
set_option maxHeartbeats 40000000 in
theorem rm_exp10 (l : Launch) (Z : State) (a0 : Array Value) (hw : ∀ d ∈ tables_1, d.before a0 Z = true) (ws : List Jvm.Cond) (t1 : Addr) (a1 : Addr) (a2 : Addr) (a3 : Addr) (h0 : Heap) (n0 : Nat) (Z0 : n0 ≤ h0.size) (O0 : Old Z n0 h0) (L_t1 : LenB Z h0 t1 (16384 : Int32)) (ne_t1_a1 : t1 ≠ a1) (ne_t1_a2 : t1 ≠ a2) (ne_t1_a3 : t1 ≠ a3) :
    MetFree l Y4 (head1 (Jvm.Cond.code Y4 method_4_code 6 (some .boolean) :: ws) ({ frames := 0, cells := 0, slots := 0, locals := 0 } : Room)) (fun a U => a = #[(.ref t1), (.int (1 : Int32)), (.int (0 : Int32)), (.ref a1), (.ref a2), (.ref a3)] ∧ Z.Warmed39 U.vm ∧ U.heap = h0) (fun _ _ _ _ _ => True) (fun _ U o U' => ∃ v L, o = .returned v ∧ Q_rm_exp10 Z t1 a1 a2 a3 h0 n0 v U'.heap L ∧ FrameEnd U o U' L ({ frames := 0, cells := 0, slots := 0, locals := 0 } : Room).cells ({ frames := 0, cells := 0, slots := 0, locals := 0 } : Room).slots) := by
  refine MetFree.of_bodySF (plainFor_of_name pn_com_example_api_policy_gateway_apipolicygateway_net_BufferPoolGivePinLaw) hisR ?_
  intro p e s m args below meth c s₁ Bd hml0 hP hK
  obtain ⟨rfl, hZ, hh⟩ := hP
  have hx := Bd.exec
  have hby := Bd.bytes
  have hml : c.maxLocals = 6 := hml0
  have hown : s.vm.findClass "com/example/api_policy_gateway/apipolicygateway/net/BufferPoolGivePinLaw" = some m.cls := findClass_of_methodNamed Bd.named
  have hnm := (name_of_methodNamed Bd.named Bd.method).1
  have X0 : Stand p l e ({ frames := 0, cells := 0, slots := 0, locals := 0 } : Room) s m #[(.ref t1), (.int (1 : Int32)), (.int (0 : Int32)), (.ref a1), (.ref a2), (.ref a3)] below meth c s₁ [] 0 0 := Stand.of_body Bd
  have e0 : s₁.heap = h0 := by rw [← hh, Bd.state]; rfl
  have N0 := Fr.nil n0
  refine Goes.out (l := l) (c := c) (R := ({ frames := 0, cells := 0, slots := 0, locals := 0 } : Room)) (Q := Q_rm_exp10 Z t1 a1 a2 a3 h0 n0) Bd.notSynchronized ?_
  refine Goes.cast (g2 := mkF m 0 #[rv t1, iv 1, iv 0, rv a1, rv a2, rv a3] []) (by first | (simp [entryFrame, mkF, argsToLocals, Value.category]; done) | rfl) ?_
  have K0 : Keep h0 h0 [] := Keep.refl h0 _
  have hws : ∀ x ∈ ([] : List Addr), n0 ≤ x := all0
  refine Goes.step (T2 := s₁) (g2 := (mkF m 1 #[rv t1, iv 1, iv 0, rv a1, rv a2, rv a3] [(.ref t1)])) (fun _ hr => XS.aloadN X0.here hx rfl (hb hby d4_0) rfl rfl hr) ?_
  refine Goes.step (T2 := s₁) (g2 := (mkF m 6 #[rv t1, iv 1, iv 0, rv a1, rv a2, rv a3] [])) (fun _ hr => Jvm.Free.XT.ifnonnullYes X0.here hx rfl (pc0 := 1) (pc' := 6) rfl (hb hby d4_1) rfl (by decide) (by decide) hr) ?_
  refine Goes.step (T2 := s₁) (g2 := (mkF m 7 #[rv t1, iv 1, iv 0, rv a1, rv a2, rv a3] [(.int (1 : Int32))])) (fun _ hr => XS.iloadN X0.here hx rfl (hb hby d4_6) rfl  hr) ?_
  refine Goes.step (T2 := s₁) (g2 := (mkF m 8 #[rv t1, iv 1, iv 0, rv a1, rv a2, rv a3] [(.int (0 : Int32)), (.int (1 : Int32))])) (fun _ hr => XS.iloadN X0.here hx rfl (hb hby d4_7) rfl  hr) ?_
  refine Goes.step (T2 := s₁) (g2 := (mkF m 34 #[rv t1, iv 1, iv 0, rv a1, rv a2, rv a3] [])) (fun _ hr => XS.icmpYes X0.here hx rfl (pc0 := 8) (pc' := 34) rfl (hb hby d4_8) rfl (flt (by decide : ¬ ((1 : Int32) < (0 : Int32)))).2.1 (by decide) (by decide) hr) ?_
  refine Goes.step (T2 := s₁) (g2 := (mkF m 35 #[rv t1, iv 1, iv 0, rv a1, rv a2, rv a3] [(.ref t1)])) (fun _ hr => XS.aloadN X0.here hx rfl (hb hby d4_34) rfl rfl hr) ?_
  obtain ⟨cl62, Ar62, S62, Nn62⟩ := id L_t1
  refine Goes.step (T2 := s₁) (g2 := (mkF m 36 #[rv t1, iv 1, iv 0, rv a1, rv a2, rv a3] [(.int (16384 : Int32))])) (fun t hr => X0.arraylength hx (own_at e0 Ar62.1) (State.isArrayOf_alike hZ.alike Ar62.2.1) (g := (mkF m 35 #[rv t1, iv 1, iv 0, rv a1, rv a2, rv a3] [(.ref t1)])) rfl rfl (hb hby d4_35) t (by rw [len_of S62 Nn62]; exact hr)) ?_
  refine Goes.step (T2 := s₁) (g2 := (mkF m 39 #[rv t1, iv 1, iv 0, rv a1, rv a2, rv a3] [(.int (16384 : Int32)), (.int (16384 : Int32))])) (fun _ hr => XS.sipush X0.here hx rfl (hb hby d4_36) hr) ?_
  refine Goes.step (T2 := s₁) (g2 := (mkF m 42 #[rv t1, iv 1, iv 0, rv a1, rv a2, rv a3] [])) (fun _ hr => XS.icmpNo X0.here hx rfl (hb hby d4_39) rfl (teq (by decide : (16384 : Int32) = (16384 : Int32))).2 hr) ?_
  refine Goes.step (T2 := s₁) (g2 := (mkF m 43 #[rv t1, iv 1, iv 0, rv a1, rv a2, rv a3] [(.ref t1)])) (fun _ hr => XS.aloadN X0.here hx rfl (hb hby d4_42) rfl rfl hr) ?_
  refine Goes.step (T2 := s₁) (g2 := (mkF m 44 #[rv t1, iv 1, iv 0, rv a1, rv a2, rv a3] [(.ref a1), (.ref t1)])) (fun _ hr => XS.aloadN X0.here hx rfl (hb hby d4_43) rfl rfl hr) ?_
  refine Goes.step (T2 := s₁) (g2 := (mkF m 47 #[rv t1, iv 1, iv 0, rv a1, rv a2, rv a3] [])) (fun _ hr => Jvm.RoadKit.acmp (g := (mkF m 44 #[rv t1, iv 1, iv 0, rv a1, rv a2, rv a3] [(.ref a1), (.ref t1)])) X0 hx rfl rfl rfl (pc0 := 44) (pc' := 47) (same := false) rfl (hb hby d4_44) rfl (decide_eq_false fun q => ne_t1_a1 (Value.ref.inj q)) (by decide) (by decide) hr) ?_
  refine Goes.step (T2 := s₁) (g2 := (mkF m 48 #[rv t1, iv 1, iv 0, rv a1, rv a2, rv a3] [(.ref t1)])) (fun _ hr => XS.aloadN X0.here hx rfl (hb hby d4_47) rfl rfl hr) ?_
  refine Goes.step (T2 := s₁) (g2 := (mkF m 50 #[rv t1, iv 1, iv 0, rv a1, rv a2, rv a3] [(.ref a2), (.ref t1)])) (fun _ hr => XS.aload X0.here hx rfl (hb hby d4_48) rfl rfl hr) ?_
  refine Goes.step (T2 := s₁) (g2 := (mkF m 53 #[rv t1, iv 1, iv 0, rv a1, rv a2, rv a3] [])) (fun _ hr => Jvm.RoadKit.acmp (g := (mkF m 50 #[rv t1, iv 1, iv 0, rv a1, rv a2, rv a3] [(.ref a2), (.ref t1)])) X0 hx rfl rfl rfl (pc0 := 50) (pc' := 53) (same := false) rfl (hb hby d4_50) rfl (decide_eq_false fun q => ne_t1_a2 (Value.ref.inj q)) (by decide) (by decide) hr) ?_
  refine Goes.step (T2 := s₁) (g2 := (mkF m 54 #[rv t1, iv 1, iv 0, rv a1, rv a2, rv a3] [(.ref t1)])) (fun _ hr => XS.aloadN X0.here hx rfl (hb hby d4_53) rfl rfl hr) ?_
  refine Goes.step (T2 := s₁) (g2 := (mkF m 56 #[rv t1, iv 1, iv 0, rv a1, rv a2, rv a3] [(.ref a3), (.ref t1)])) (fun _ hr => XS.aload X0.here hx rfl (hb hby d4_54) rfl rfl hr) ?_
  refine Goes.step (T2 := s₁) (g2 := (mkF m 59 #[rv t1, iv 1, iv 0, rv a1, rv a2, rv a3] [])) (fun _ hr => Jvm.RoadKit.acmp (g := (mkF m 56 #[rv t1, iv 1, iv 0, rv a1, rv a2, rv a3] [(.ref a3), (.ref t1)])) X0 hx rfl rfl rfl (pc0 := 56) (pc' := 59) (same := false) rfl (hb hby d4_56) rfl (decide_eq_false fun q => ne_t1_a3 (Value.ref.inj q)) (by decide) (by decide) hr) ?_
  refine Goes.step (T2 := s₁) (g2 := (mkF m 60 #[rv t1, iv 1, iv 0, rv a1, rv a2, rv a3] [(.int (1 : Int32))])) (fun _ hr => XS.iconst X0.here hx rfl (hb hby d4_59) hr) ?_
  refine Goes.step (T2 := s₁) (g2 := (mkF m 64 #[rv t1, iv 1, iv 0, rv a1, rv a2, rv a3] [(.int (1 : Int32))])) (fun _ hr => XS.goto X0.here hx rfl (pc0 := 60) (pc' := 64) rfl (hb hby d4_60) (by decide) (by decide) hr) ?_
  exact Goes.ret (v := some (.int (1 : Int32))) X0 (by decide) (by decide) (fun h => by rw [Bd.returns] at h; cases h) ⟨rfl, N0, e0⟩ (fun fs hr => retN X0 hx (t := .boolean) Bd.returns (by simp) (hb hby d4_64) hr)
def Q_rm_exp20 (Z : State) (t1 : Addr) (a1 : Addr) (a2 : Addr) (a3 : Addr) (h0 : Heap) (n0 : Nat) (v : Option Value) (h : Heap) (L : List Loc) : Prop := v = some (.int (1 : Int32)) ∧ Fr n0 L ∧ h = h0
set_option maxRecDepth 65536 in
set_option maxHeartbeats 40000000 in
theorem rm_exp20 (l : Launch) (Z : State) (a0 : Array Value) (hw : ∀ d ∈ tables_1, d.before a0 Z = true) (ws : List Jvm.Cond) (t1 : Addr) (a1 : Addr) (a2 : Addr) (a3 : Addr) (h0 : Heap) (n0 : Nat) (Z0 : n0 ≤ h0.size) (O0 : Old Z n0 h0) (L_t1 : LenB Z h0 t1 (16384 : Int32)) (ne_t1_a1 : t1 ≠ a1) (ne_t1_a2 : t1 ≠ a2) (ne_t1_a3 : t1 ≠ a3) :
    MetFree l Y4 (head1 (Jvm.Cond.code Y4 method_4_code 6 (some .boolean) :: ws) ({ frames := 0, cells := 0, slots := 0, locals := 0 } : Room)) (fun a U => a = #[(.ref t1), (.int (2 : Int32)), (.int (0 : Int32)), (.ref a1), (.ref a2), (.ref a3)] ∧ Z.Warmed39 U.vm ∧ U.heap = h0) (fun _ _ _ _ _ => True) (fun _ U o U' => ∃ v L, o = .returned v ∧ Q_rm_exp20 Z t1 a1 a2 a3 h0 n0 v U'.heap L ∧ FrameEnd U o U' L ({ frames := 0, cells := 0, slots := 0, locals := 0 } : Room).cells ({ frames := 0, cells := 0, slots := 0, locals := 0 } : Room).slots) := by
  refine MetFree.of_bodySF (plainFor_of_name pn_com_example_api_policy_gateway_apipolicygateway_net_BufferPoolGivePinLaw) hisR ?_
  intro p e s m args below meth c s₁ Bd hml0 hP hK
  obtain ⟨rfl, hZ, hh⟩ := hP
  have hx := Bd.exec
  have hby := Bd.bytes
  have hml : c.maxLocals = 6 := hml0
  have hown : s.vm.findClass "com/example/api_policy_gateway/apipolicygateway/net/BufferPoolGivePinLaw" = some m.cls := findClass_of_methodNamed Bd.named
  have hnm := (name_of_methodNamed Bd.named Bd.method).1
  have X0 : Stand p l e ({ frames := 0, cells := 0, slots := 0, locals := 0 } : Room) s m #[(.ref t1), (.int (2 : Int32)), (.int (0 : Int32)), (.ref a1), (.ref a2), (.ref a3)] below meth c s₁ [] 0 0 := Stand.of_body Bd
  have e0 : s₁.heap = h0 := by rw [← hh, Bd.state]; rfl
  have N0 := Fr.nil n0
  refine Goes.out (l := l) (c := c) (R := ({ frames := 0, cells := 0, slots := 0, locals := 0 } : Room)) (Q := Q_rm_exp20 Z t1 a1 a2 a3 h0 n0) Bd.notSynchronized ?_
  refine Goes.cast (g2 := mkF m 0 #[rv t1, iv 2, iv 0, rv a1, rv a2, rv a3] []) (by first | (simp [entryFrame, mkF, argsToLocals, Value.category]; done) | rfl) ?_
  have K0 : Keep h0 h0 [] := Keep.refl h0 _
  have hws : ∀ x ∈ ([] : List Addr), n0 ≤ x := all0
  refine Goes.step (T2 := s₁) (g2 := (mkF m 1 #[rv t1, iv 2, iv 0, rv a1, rv a2, rv a3] [(.ref t1)])) (fun _ hr => XS.aloadN X0.here hx rfl (hb hby d4_0) rfl rfl hr) ?_
  refine Goes.step (T2 := s₁) (g2 := (mkF m 6 #[rv t1, iv 2, iv 0, rv a1, rv a2, rv a3] [])) (fun _ hr => Jvm.Free.XT.ifnonnullYes X0.here hx rfl (pc0 := 1) (pc' := 6) rfl (hb hby d4_1) rfl (by decide) (by decide) hr) ?_
  refine Goes.step (T2 := s₁) (g2 := (mkF m 7 #[rv t1, iv 2, iv 0, rv a1, rv a2, rv a3] [(.int (2 : Int32))])) (fun _ hr => XS.iloadN X0.here hx rfl (hb hby d4_6) rfl  hr) ?_
  refine Goes.step (T2 := s₁) (g2 := (mkF m 8 #[rv t1, iv 2, iv 0, rv a1, rv a2, rv a3] [(.int (0 : Int32)), (.int (2 : Int32))])) (fun _ hr => XS.iloadN X0.here hx rfl (hb hby d4_7) rfl  hr) ?_
  refine Goes.step (T2 := s₁) (g2 := (mkF m 34 #[rv t1, iv 2, iv 0, rv a1, rv a2, rv a3] [])) (fun _ hr => XS.icmpYes X0.here hx rfl (pc0 := 8) (pc' := 34) rfl (hb hby d4_8) rfl (flt (by decide : ¬ ((2 : Int32) < (0 : Int32)))).2.1 (by decide) (by decide) hr) ?_
  refine Goes.step (T2 := s₁) (g2 := (mkF m 35 #[rv t1, iv 2, iv 0, rv a1, rv a2, rv a3] [(.ref t1)])) (fun _ hr => XS.aloadN X0.here hx rfl (hb hby d4_34) rfl rfl hr) ?_
  obtain ⟨cl63, Ar63, S63, Nn63⟩ := id L_t1
  refine Goes.step (T2 := s₁) (g2 := (mkF m 36 #[rv t1, iv 2, iv 0, rv a1, rv a2, rv a3] [(.int (16384 : Int32))])) (fun t hr => X0.arraylength hx (own_at e0 Ar63.1) (State.isArrayOf_alike hZ.alike Ar63.2.1) (g := (mkF m 35 #[rv t1, iv 2, iv 0, rv a1, rv a2, rv a3] [(.ref t1)])) rfl rfl (hb hby d4_35) t (by rw [len_of S63 Nn63]; exact hr)) ?_
  refine Goes.step (T2 := s₁) (g2 := (mkF m 39 #[rv t1, iv 2, iv 0, rv a1, rv a2, rv a3] [(.int (16384 : Int32)), (.int (16384 : Int32))])) (fun _ hr => XS.sipush X0.here hx rfl (hb hby d4_36) hr) ?_
  refine Goes.step (T2 := s₁) (g2 := (mkF m 42 #[rv t1, iv 2, iv 0, rv a1, rv a2, rv a3] [])) (fun _ hr => XS.icmpNo X0.here hx rfl (hb hby d4_39) rfl (teq (by decide : (16384 : Int32) = (16384 : Int32))).2 hr) ?_
  refine Goes.step (T2 := s₁) (g2 := (mkF m 43 #[rv t1, iv 2, iv 0, rv a1, rv a2, rv a3] [(.ref t1)])) (fun _ hr => XS.aloadN X0.here hx rfl (hb hby d4_42) rfl rfl hr) ?_
  refine Goes.step (T2 := s₁) (g2 := (mkF m 44 #[rv t1, iv 2, iv 0, rv a1, rv a2, rv a3] [(.ref a1), (.ref t1)])) (fun _ hr => XS.aloadN X0.here hx rfl (hb hby d4_43) rfl rfl hr) ?_
  refine Goes.step (T2 := s₁) (g2 := (mkF m 47 #[rv t1, iv 2, iv 0, rv a1, rv a2, rv a3] [])) (fun _ hr => Jvm.RoadKit.acmp (g := (mkF m 44 #[rv t1, iv 2, iv 0, rv a1, rv a2, rv a3] [(.ref a1), (.ref t1)])) X0 hx rfl rfl rfl (pc0 := 44) (pc' := 47) (same := false) rfl (hb hby d4_44) rfl (decide_eq_false fun q => ne_t1_a1 (Value.ref.inj q)) (by decide) (by decide) hr) ?_
  refine Goes.step (T2 := s₁) (g2 := (mkF m 48 #[rv t1, iv 2, iv 0, rv a1, rv a2, rv a3] [(.ref t1)])) (fun _ hr => XS.aloadN X0.here hx rfl (hb hby d4_47) rfl rfl hr) ?_
  refine Goes.step (T2 := s₁) (g2 := (mkF m 50 #[rv t1, iv 2, iv 0, rv a1, rv a2, rv a3] [(.ref a2), (.ref t1)])) (fun _ hr => XS.aload X0.here hx rfl (hb hby d4_48) rfl rfl hr) ?_
  refine Goes.step (T2 := s₁) (g2 := (mkF m 53 #[rv t1, iv 2, iv 0, rv a1, rv a2, rv a3] [])) (fun _ hr => Jvm.RoadKit.acmp (g := (mkF m 50 #[rv t1, iv 2, iv 0, rv a1, rv a2, rv a3] [(.ref a2), (.ref t1)])) X0 hx rfl rfl rfl (pc0 := 50) (pc' := 53) (same := false) rfl (hb hby d4_50) rfl (decide_eq_false fun q => ne_t1_a2 (Value.ref.inj q)) (by decide) (by decide) hr) ?_
  refine Goes.step (T2 := s₁) (g2 := (mkF m 54 #[rv t1, iv 2, iv 0, rv a1, rv a2, rv a3] [(.ref t1)])) (fun _ hr => XS.aloadN X0.here hx rfl (hb hby d4_53) rfl rfl hr) ?_
  refine Goes.step (T2 := s₁) (g2 := (mkF m 56 #[rv t1, iv 2, iv 0, rv a1, rv a2, rv a3] [(.ref a3), (.ref t1)])) (fun _ hr => XS.aload X0.here hx rfl (hb hby d4_54) rfl rfl hr) ?_
  refine Goes.step (T2 := s₁) (g2 := (mkF m 59 #[rv t1, iv 2, iv 0, rv a1, rv a2, rv a3] [])) (fun _ hr => Jvm.RoadKit.acmp (g := (mkF m 56 #[rv t1, iv 2, iv 0, rv a1, rv a2, rv a3] [(.ref a3), (.ref t1)])) X0 hx rfl rfl rfl (pc0 := 56) (pc' := 59) (same := false) rfl (hb hby d4_56) rfl (decide_eq_false fun q => ne_t1_a3 (Value.ref.inj q)) (by decide) (by decide) hr) ?_
  refine Goes.step (T2 := s₁) (g2 := (mkF m 60 #[rv t1, iv 2, iv 0, rv a1, rv a2, rv a3] [(.int (1 : Int32))])) (fun _ hr => XS.iconst X0.here hx rfl (hb hby d4_59) hr) ?_
  refine Goes.step (T2 := s₁) (g2 := (mkF m 64 #[rv t1, iv 2, iv 0, rv a1, rv a2, rv a3] [(.int (1 : Int32))])) (fun _ hr => XS.goto X0.here hx rfl (pc0 := 60) (pc' := 64) rfl (hb hby d4_60) (by decide) (by decide) hr) ?_
  exact Goes.ret (v := some (.int (1 : Int32))) X0 (by decide) (by decide) (fun h => by rw [Bd.returns] at h; cases h) ⟨rfl, N0, e0⟩ (fun fs hr => retN X0 hx (t := .boolean) Bd.returns (by simp) (hb hby d4_64) hr)
def Q_rm_exp30 (Z : State) (t1 : Addr) (a1 : Addr) (a2 : Addr) (a3 : Addr) (h0 : Heap) (n0 : Nat) (v : Option Value) (h : Heap) (L : List Loc) : Prop := v = some (.int (1 : Int32)) ∧ Fr n0 L ∧ h = h0
set_option maxRecDepth 65536 in
set_option maxHeartbeats 40000000 in
theorem rm_exp30 (l : Launch) (Z : State) (a0 : Array Value) (hw : ∀ d ∈ tables_1, d.before a0 Z = true) (ws : List Jvm.Cond) (t1 : Addr) (a1 : Addr) (a2 : Addr) (a3 : Addr) (h0 : Heap) (n0 : Nat) (Z0 : n0 ≤ h0.size) (O0 : Old Z n0 h0) (L_t1 : LenB Z h0 t1 (16384 : Int32)) (ne_t1_a1 : t1 ≠ a1) (ne_t1_a2 : t1 ≠ a2) (ne_t1_a3 : t1 ≠ a3) :
    MetFree l Y4 (head1 (Jvm.Cond.code Y4 method_4_code 6 (some .boolean) :: ws) ({ frames := 0, cells := 0, slots := 0, locals := 0 } : Room)) (fun a U => a = #[(.ref t1), (.int (3 : Int32)), (.int (0 : Int32)), (.ref a1), (.ref a2), (.ref a3)] ∧ Z.Warmed39 U.vm ∧ U.heap = h0) (fun _ _ _ _ _ => True) (fun _ U o U' => ∃ v L, o = .returned v ∧ Q_rm_exp30 Z t1 a1 a2 a3 h0 n0 v U'.heap L ∧ FrameEnd U o U' L ({ frames := 0, cells := 0, slots := 0, locals := 0 } : Room).cells ({ frames := 0, cells := 0, slots := 0, locals := 0 } : Room).slots) := by
  refine MetFree.of_bodySF (plainFor_of_name pn_com_example_api_policy_gateway_apipolicygateway_net_BufferPoolGivePinLaw) hisR ?_
  intro p e s m args below meth c s₁ Bd hml0 hP hK
  obtain ⟨rfl, hZ, hh⟩ := hP
  have hx := Bd.exec
  have hby := Bd.bytes
  have hml : c.maxLocals = 6 := hml0
  have hown : s.vm.findClass "com/example/api_policy_gateway/apipolicygateway/net/BufferPoolGivePinLaw" = some m.cls := findClass_of_methodNamed Bd.named
  have hnm := (name_of_methodNamed Bd.named Bd.method).1
  have X0 : Stand p l e ({ frames := 0, cells := 0, slots := 0, locals := 0 } : Room) s m #[(.ref t1), (.int (3 : Int32)), (.int (0 : Int32)), (.ref a1), (.ref a2), (.ref a3)] below meth c s₁ [] 0 0 := Stand.of_body Bd
  have e0 : s₁.heap = h0 := by rw [← hh, Bd.state]; rfl
  have N0 := Fr.nil n0
  refine Goes.out (l := l) (c := c) (R := ({ frames := 0, cells := 0, slots := 0, locals := 0 } : Room)) (Q := Q_rm_exp30 Z t1 a1 a2 a3 h0 n0) Bd.notSynchronized ?_
  refine Goes.cast (g2 := mkF m 0 #[rv t1, iv 3, iv 0, rv a1, rv a2, rv a3] []) (by first | (simp [entryFrame, mkF, argsToLocals, Value.category]; done) | rfl) ?_
  have K0 : Keep h0 h0 [] := Keep.refl h0 _
  have hws : ∀ x ∈ ([] : List Addr), n0 ≤ x := all0
  refine Goes.step (T2 := s₁) (g2 := (mkF m 1 #[rv t1, iv 3, iv 0, rv a1, rv a2, rv a3] [(.ref t1)])) (fun _ hr => XS.aloadN X0.here hx rfl (hb hby d4_0) rfl rfl hr) ?_
  refine Goes.step (T2 := s₁) (g2 := (mkF m 6 #[rv t1, iv 3, iv 0, rv a1, rv a2, rv a3] [])) (fun _ hr => Jvm.Free.XT.ifnonnullYes X0.here hx rfl (pc0 := 1) (pc' := 6) rfl (hb hby d4_1) rfl (by decide) (by decide) hr) ?_
  refine Goes.step (T2 := s₁) (g2 := (mkF m 7 #[rv t1, iv 3, iv 0, rv a1, rv a2, rv a3] [(.int (3 : Int32))])) (fun _ hr => XS.iloadN X0.here hx rfl (hb hby d4_6) rfl  hr) ?_
  refine Goes.step (T2 := s₁) (g2 := (mkF m 8 #[rv t1, iv 3, iv 0, rv a1, rv a2, rv a3] [(.int (0 : Int32)), (.int (3 : Int32))])) (fun _ hr => XS.iloadN X0.here hx rfl (hb hby d4_7) rfl  hr) ?_
  refine Goes.step (T2 := s₁) (g2 := (mkF m 34 #[rv t1, iv 3, iv 0, rv a1, rv a2, rv a3] [])) (fun _ hr => XS.icmpYes X0.here hx rfl (pc0 := 8) (pc' := 34) rfl (hb hby d4_8) rfl (flt (by decide : ¬ ((3 : Int32) < (0 : Int32)))).2.1 (by decide) (by decide) hr) ?_
  refine Goes.step (T2 := s₁) (g2 := (mkF m 35 #[rv t1, iv 3, iv 0, rv a1, rv a2, rv a3] [(.ref t1)])) (fun _ hr => XS.aloadN X0.here hx rfl (hb hby d4_34) rfl rfl hr) ?_
  obtain ⟨cl64, Ar64, S64, Nn64⟩ := id L_t1
  refine Goes.step (T2 := s₁) (g2 := (mkF m 36 #[rv t1, iv 3, iv 0, rv a1, rv a2, rv a3] [(.int (16384 : Int32))])) (fun t hr => X0.arraylength hx (own_at e0 Ar64.1) (State.isArrayOf_alike hZ.alike Ar64.2.1) (g := (mkF m 35 #[rv t1, iv 3, iv 0, rv a1, rv a2, rv a3] [(.ref t1)])) rfl rfl (hb hby d4_35) t (by rw [len_of S64 Nn64]; exact hr)) ?_
  refine Goes.step (T2 := s₁) (g2 := (mkF m 39 #[rv t1, iv 3, iv 0, rv a1, rv a2, rv a3] [(.int (16384 : Int32)), (.int (16384 : Int32))])) (fun _ hr => XS.sipush X0.here hx rfl (hb hby d4_36) hr) ?_
  refine Goes.step (T2 := s₁) (g2 := (mkF m 42 #[rv t1, iv 3, iv 0, rv a1, rv a2, rv a3] [])) (fun _ hr => XS.icmpNo X0.here hx rfl (hb hby d4_39) rfl (teq (by decide : (16384 : Int32) = (16384 : Int32))).2 hr) ?_
  refine Goes.step (T2 := s₁) (g2 := (mkF m 43 #[rv t1, iv 3, iv 0, rv a1, rv a2, rv a3] [(.ref t1)])) (fun _ hr => XS.aloadN X0.here hx rfl (hb hby d4_42) rfl rfl hr) ?_
  refine Goes.step (T2 := s₁) (g2 := (mkF m 44 #[rv t1, iv 3, iv 0, rv a1, rv a2, rv a3] [(.ref a1), (.ref t1)])) (fun _ hr => XS.aloadN X0.here hx rfl (hb hby d4_43) rfl rfl hr) ?_
  refine Goes.step (T2 := s₁) (g2 := (mkF m 47 #[rv t1, iv 3, iv 0, rv a1, rv a2, rv a3] [])) (fun _ hr => Jvm.RoadKit.acmp (g := (mkF m 44 #[rv t1, iv 3, iv 0, rv a1, rv a2, rv a3] [(.ref a1), (.ref t1)])) X0 hx rfl rfl rfl (pc0 := 44) (pc' := 47) (same := false) rfl (hb hby d4_44) rfl (decide_eq_false fun q => ne_t1_a1 (Value.ref.inj q)) (by decide) (by decide) hr) ?_
  refine Goes.step (T2 := s₁) (g2 := (mkF m 48 #[rv t1, iv 3, iv 0, rv a1, rv a2, rv a3] [(.ref t1)])) (fun _ hr => XS.aloadN X0.here hx rfl (hb hby d4_47) rfl rfl hr) ?_
  refine Goes.step (T2 := s₁) (g2 := (mkF m 50 #[rv t1, iv 3, iv 0, rv a1, rv a2, rv a3] [(.ref a2), (.ref t1)])) (fun _ hr => XS.aload X0.here hx rfl (hb hby d4_48) rfl rfl hr) ?_
  refine Goes.step (T2 := s₁) (g2 := (mkF m 53 #[rv t1, iv 3, iv 0, rv a1, rv a2, rv a3] [])) (fun _ hr => Jvm.RoadKit.acmp (g := (mkF m 50 #[rv t1, iv 3, iv 0, rv a1, rv a2, rv a3] [(.ref a2), (.ref t1)])) X0 hx rfl rfl rfl (pc0 := 50) (pc' := 53) (same := false) rfl (hb hby d4_50) rfl (decide_eq_false fun q => ne_t1_a2 (Value.ref.inj q)) (by decide) (by decide) hr) ?_
  refine Goes.step (T2 := s₁) (g2 := (mkF m 54 #[rv t1, iv 3, iv 0, rv a1, rv a2, rv a3] [(.ref t1)])) (fun _ hr => XS.aloadN X0.here hx rfl (hb hby d4_53) rfl rfl hr) ?_
  refine Goes.step (T2 := s₁) (g2 := (mkF m 56 #[rv t1, iv 3, iv 0, rv a1, rv a2, rv a3] [(.ref a3), (.ref t1)])) (fun _ hr => XS.aload X0.here hx rfl (hb hby d4_54) rfl rfl hr) ?_
  refine Goes.step (T2 := s₁) (g2 := (mkF m 59 #[rv t1, iv 3, iv 0, rv a1, rv a2, rv a3] [])) (fun _ hr => Jvm.RoadKit.acmp (g := (mkF m 56 #[rv t1, iv 3, iv 0, rv a1, rv a2, rv a3] [(.ref a3), (.ref t1)])) X0 hx rfl rfl rfl (pc0 := 56) (pc' := 59) (same := false) rfl (hb hby d4_56) rfl (decide_eq_false fun q => ne_t1_a3 (Value.ref.inj q)) (by decide) (by decide) hr) ?_
  refine Goes.step (T2 := s₁) (g2 := (mkF m 60 #[rv t1, iv 3, iv 0, rv a1, rv a2, rv a3] [(.int (1 : Int32))])) (fun _ hr => XS.iconst X0.here hx rfl (hb hby d4_59) hr) ?_
  refine Goes.step (T2 := s₁) (g2 := (mkF m 64 #[rv t1, iv 3, iv 0, rv a1, rv a2, rv a3] [(.int (1 : Int32))])) (fun _ hr => XS.goto X0.here hx rfl (pc0 := 60) (pc' := 64) rfl (hb hby d4_60) (by decide) (by decide) hr) ?_
  exact Goes.ret (v := some (.int (1 : Int32))) X0 (by decide) (by decide) (fun h => by rw [Bd.returns] at h; cases h) ⟨rfl, N0, e0⟩ (fun fs hr => retN X0 hx (t := .boolean) Bd.returns (by simp) (hb hby d4_64) hr)
theorem d4_11 : decode method_4_code 11 = .ok (.aload_n 0, 1) := by decide +kernel
theorem d4_12 : decode method_4_code 12 = .ok (.iload_n 2, 1) := by decide +kernel
theorem d4_13 : decode method_4_code 13 = .ok (.iconst 1, 1) := by decide +kernel
theorem d4_14 : decode method_4_code 14 = .ok (.isub, 1) := by decide +kernel
theorem d4_15 : decode method_4_code 15 = .ok (.iload_n 1, 1) := by decide +kernel
theorem d4_16 : decode method_4_code 16 = .ok (.isub, 1) := by decide +kernel
theorem d4_17 : decode method_4_code 17 = .ok (.aload_n 3, 1) := by decide +kernel
theorem d4_18 : decode method_4_code 18 = .ok (.aload 4, 2) := by decide +kernel
theorem d4_20 : decode method_4_code 20 = .ok (.aload 5, 2) := by decide +kernel
theorem d4_22 : decode method_4_code 22 = .ok (.invokestatic 24, 3) := by decide +kernel
theorem d4_25 : decode method_4_code 25 = .ok (.if_acmp .ne 7, 3) := by decide +kernel
theorem d4_28 : decode method_4_code 28 = .ok (.iconst 1, 1) := by decide +kernel
theorem d4_29 : decode method_4_code 29 = .ok (.goto 4, 3) := by decide +kernel
theorem d4_33 : decode method_4_code 33 = .ok (.ireturn, 1) := by decide +kernel
def Q_rm_exp01 (Z : State) (a1 : Addr) (a2 : Addr) (a3 : Addr) (h0 : Heap) (n0 : Nat) (v : Option Value) (h : Heap) (L : List Loc) : Prop := v = some (.int (1 : Int32)) ∧ Fr n0 L ∧ h = h0
set_option maxRecDepth 65536 in
set_option maxHeartbeats 40000000 in
theorem rm_exp01 (l : Launch) (Z : State) (a0 : Array Value) (hw : ∀ d ∈ tables_1, d.before a0 Z = true) (ws : List Jvm.Cond) (a1 : Addr) (a2 : Addr) (a3 : Addr) (h0 : Heap) (n0 : Nat) (Z0 : n0 ≤ h0.size) (O0 : Old Z n0 h0) :
    MetFree l Y4 (head1 (Jvm.Cond.code Y4 method_4_code 6 (some .boolean) :: ws) ({ frames := 1, cells := 0, slots := 0, locals := 16 } : Room)) (fun a U => a = #[(.ref a1), (.int (0 : Int32)), (.int (1 : Int32)), (.ref a1), (.ref a2), (.ref a3)] ∧ Z.Warmed39 U.vm ∧ U.heap = h0) (fun _ _ _ _ _ => True) (fun _ U o U' => ∃ v L, o = .returned v ∧ Q_rm_exp01 Z a1 a2 a3 h0 n0 v U'.heap L ∧ FrameEnd U o U' L ({ frames := 1, cells := 0, slots := 0, locals := 16 } : Room).cells ({ frames := 1, cells := 0, slots := 0, locals := 16 } : Room).slots) := by
  refine MetFree.of_bodySF (plainFor_of_name pn_com_example_api_policy_gateway_apipolicygateway_net_BufferPoolGivePinLaw) hisR ?_
  intro p e s m args below meth c s₁ Bd hml0 hP hK
  obtain ⟨rfl, hZ, hh⟩ := hP
  have hx := Bd.exec
  have hby := Bd.bytes
  have hml : c.maxLocals = 6 := hml0
  have hown : s.vm.findClass "com/example/api_policy_gateway/apipolicygateway/net/BufferPoolGivePinLaw" = some m.cls := findClass_of_methodNamed Bd.named
  have hnm := (name_of_methodNamed Bd.named Bd.method).1
  have X0 : Stand p l e ({ frames := 1, cells := 0, slots := 0, locals := 16 } : Room) s m #[(.ref a1), (.int (0 : Int32)), (.int (1 : Int32)), (.ref a1), (.ref a2), (.ref a3)] below meth c s₁ [] 0 0 := Stand.of_body Bd
  have e0 : s₁.heap = h0 := by rw [← hh, Bd.state]; rfl
  have N0 := Fr.nil n0
  refine Goes.out (l := l) (c := c) (R := ({ frames := 1, cells := 0, slots := 0, locals := 16 } : Room)) (Q := Q_rm_exp01 Z a1 a2 a3 h0 n0) Bd.notSynchronized ?_
  refine Goes.cast (g2 := mkF m 0 #[rv a1, iv 0, iv 1, rv a1, rv a2, rv a3] []) (by first | (simp [entryFrame, mkF, argsToLocals, Value.category]; done) | rfl) ?_
  have K0 : Keep h0 h0 [] := Keep.refl h0 _
  have hws : ∀ x ∈ ([] : List Addr), n0 ≤ x := all0
  refine Goes.step (T2 := s₁) (g2 := (mkF m 1 #[rv a1, iv 0, iv 1, rv a1, rv a2, rv a3] [(.ref a1)])) (fun _ hr => XS.aloadN X0.here hx rfl (hb hby d4_0) rfl rfl hr) ?_
  refine Goes.step (T2 := s₁) (g2 := (mkF m 6 #[rv a1, iv 0, iv 1, rv a1, rv a2, rv a3] [])) (fun _ hr => Jvm.Free.XT.ifnonnullYes X0.here hx rfl (pc0 := 1) (pc' := 6) rfl (hb hby d4_1) rfl (by decide) (by decide) hr) ?_
  refine Goes.step (T2 := s₁) (g2 := (mkF m 7 #[rv a1, iv 0, iv 1, rv a1, rv a2, rv a3] [(.int (0 : Int32))])) (fun _ hr => XS.iloadN X0.here hx rfl (hb hby d4_6) rfl  hr) ?_
  refine Goes.step (T2 := s₁) (g2 := (mkF m 8 #[rv a1, iv 0, iv 1, rv a1, rv a2, rv a3] [(.int (1 : Int32)), (.int (0 : Int32))])) (fun _ hr => XS.iloadN X0.here hx rfl (hb hby d4_7) rfl  hr) ?_
  refine Goes.step (T2 := s₁) (g2 := (mkF m 11 #[rv a1, iv 0, iv 1, rv a1, rv a2, rv a3] [])) (fun _ hr => XS.icmpNo X0.here hx rfl (hb hby d4_8) rfl (tlt (by decide : (0 : Int32) < (1 : Int32))).2.1 hr) ?_
  refine Goes.step (T2 := s₁) (g2 := (mkF m 12 #[rv a1, iv 0, iv 1, rv a1, rv a2, rv a3] [(.ref a1)])) (fun _ hr => XS.aloadN X0.here hx rfl (hb hby d4_11) rfl rfl hr) ?_
  refine Goes.step (T2 := s₁) (g2 := (mkF m 13 #[rv a1, iv 0, iv 1, rv a1, rv a2, rv a3] [(.int (1 : Int32)), (.ref a1)])) (fun _ hr => XS.iloadN X0.here hx rfl (hb hby d4_12) rfl  hr) ?_
  refine Goes.step (T2 := s₁) (g2 := (mkF m 14 #[rv a1, iv 0, iv 1, rv a1, rv a2, rv a3] [(.int (1 : Int32)), (.int (1 : Int32)), (.ref a1)])) (fun _ hr => XS.iconst X0.here hx rfl (hb hby d4_13) hr) ?_
  refine Goes.step (T2 := s₁) (g2 := (mkF m 15 #[rv a1, iv 0, iv 1, rv a1, rv a2, rv a3] [(.int (0 : Int32)), (.ref a1)])) (fun _ hr => XS.isub X0.here hx rfl (hb hby d4_14) rfl hr) ?_
  refine Goes.step (T2 := s₁) (g2 := (mkF m 16 #[rv a1, iv 0, iv 1, rv a1, rv a2, rv a3] [(.int (0 : Int32)), (.int (0 : Int32)), (.ref a1)])) (fun _ hr => XS.iloadN X0.here hx rfl (hb hby d4_15) rfl  hr) ?_
  refine Goes.step (T2 := s₁) (g2 := (mkF m 17 #[rv a1, iv 0, iv 1, rv a1, rv a2, rv a3] [(.int (0 : Int32)), (.ref a1)])) (fun _ hr => XS.isub X0.here hx rfl (hb hby d4_16) rfl hr) ?_
  refine Goes.step (T2 := s₁) (g2 := (mkF m 18 #[rv a1, iv 0, iv 1, rv a1, rv a2, rv a3] [(.ref a1), (.int (0 : Int32)), (.ref a1)])) (fun _ hr => XS.aloadN X0.here hx rfl (hb hby d4_17) rfl rfl hr) ?_
  refine Goes.step (T2 := s₁) (g2 := (mkF m 20 #[rv a1, iv 0, iv 1, rv a1, rv a2, rv a3] [(.ref a2), (.ref a1), (.int (0 : Int32)), (.ref a1)])) (fun _ hr => XS.aload X0.here hx rfl (hb hby d4_18) rfl rfl hr) ?_
  refine Goes.step (T2 := s₁) (g2 := (mkF m 22 #[rv a1, iv 0, iv 1, rv a1, rv a2, rv a3] [(.ref a3), (.ref a2), (.ref a1), (.int (0 : Int32)), (.ref a1)])) (fun _ hr => XS.aload X0.here hx rfl (hb hby d4_20) rfl rfl hr) ?_
  have Zs65 : n0 ≤ h0.size := Nat.le_trans Z0 K0.1
  obtain ⟨_, _, ⟨T66, L66, k66, n66⟩, -, X66, ⟨Lc66, hQ66, l66, y66, z66⟩, st66⟩ := Jvm.LawKit.callS X0 hx (y := Y3) hown (mvT hZ (tw hw 31 rfl)) (mvT hZ (tw hw 32 rfl)) (mvT hZ (tw hw 23 rfl)) (mvT hZ (tw hw 33 rfl)) (by decide) (backOf (W := 1) (rm_pick0 l Z a0 hw [] a1 a2 a3 h0 n0 Zs65 (Old.keep O0 K0 hws)) hZ (tw hw 33 rfl) (tw hw 23 rfl) (by decide) (by decide)) (g := (mkF m 22 #[rv a1, iv 0, iv 1, rv a1, rv a2, rv a3] [(.ref a3), (.ref a2), (.ref a1), (.int (0 : Int32)), (.ref a1)])) rfl (by rw [hml]; rfl) (argsL := [(.int (0 : Int32)), (.ref a1), (.ref a2), (.ref a3)]) (rest := [(.ref a1)]) (lenOf pd_0 rfl) rfl (by show 2 * 0 + _ ≤ _; exact Nat.le_of_eq rfl) (hb hby d4_22) (fun _ _ => ⟨rfl, e0, (by decide : 0 + 0 ≤ _), (by decide : 0 + 0 ≤ _)⟩)
  dsimp only [Pt.U, Pt.locs, Pt.cells, Pt.slots] at X66 l66 y66 z66 st66 hQ66
  subst l66 y66 z66
  obtain ⟨rfl, N66q, e66⟩ := hQ66
  have N66 := Fr.app N0 N66q
  refine Goes.step (T2 := T66) (g2 := (mkF m 25 #[rv a1, iv 0, iv 1, rv a1, rv a2, rv a3] [(.ref a1), (.ref a1)])) st66 ?_
  refine Goes.step (T2 := T66) (g2 := (mkF m 28 #[rv a1, iv 0, iv 1, rv a1, rv a2, rv a3] [])) (fun _ hr => Jvm.RoadKit.acmp (g := (mkF m 25 #[rv a1, iv 0, iv 1, rv a1, rv a2, rv a3] [(.ref a1), (.ref a1)])) X66 hx rfl rfl rfl (pc0 := 25) (pc' := 28) (same := true) rfl (hb hby d4_25) rfl (decide_eq_true rfl) (by decide) (by decide) hr) ?_
  refine Goes.step (T2 := T66) (g2 := (mkF m 29 #[rv a1, iv 0, iv 1, rv a1, rv a2, rv a3] [(.int (1 : Int32))])) (fun _ hr => XS.iconst X66.here hx rfl (hb hby d4_28) hr) ?_
  refine Goes.step (T2 := T66) (g2 := (mkF m 33 #[rv a1, iv 0, iv 1, rv a1, rv a2, rv a3] [(.int (1 : Int32))])) (fun _ hr => XS.goto X66.here hx rfl (pc0 := 29) (pc' := 33) rfl (hb hby d4_29) (by decide) (by decide) hr) ?_
  exact Goes.ret (v := some (.int (1 : Int32))) X66 (by decide) (by decide) (fun h => by rw [Bd.returns] at h; cases h) ⟨rfl, N66, e66⟩ (fun fs hr => retN X66 hx (t := .boolean) Bd.returns (by simp) (hb hby d4_33) hr)
def Q_rm_exp11 (Z : State) (t1 : Addr) (a1 : Addr) (a2 : Addr) (a3 : Addr) (h0 : Heap) (n0 : Nat) (v : Option Value) (h : Heap) (L : List Loc) : Prop := v = some (.int (1 : Int32)) ∧ Fr n0 L ∧ h = h0
set_option maxRecDepth 65536 in
set_option maxHeartbeats 40000000 in
theorem rm_exp11 (l : Launch) (Z : State) (a0 : Array Value) (hw : ∀ d ∈ tables_1, d.before a0 Z = true) (ws : List Jvm.Cond) (t1 : Addr) (a1 : Addr) (a2 : Addr) (a3 : Addr) (h0 : Heap) (n0 : Nat) (Z0 : n0 ≤ h0.size) (O0 : Old Z n0 h0) (L_t1 : LenB Z h0 t1 (16384 : Int32)) (ne_t1_a1 : t1 ≠ a1) (ne_t1_a2 : t1 ≠ a2) (ne_t1_a3 : t1 ≠ a3) :
    MetFree l Y4 (head1 (Jvm.Cond.code Y4 method_4_code 6 (some .boolean) :: ws) ({ frames := 0, cells := 0, slots := 0, locals := 0 } : Room)) (fun a U => a = #[(.ref t1), (.int (1 : Int32)), (.int (1 : Int32)), (.ref a1), (.ref a2), (.ref a3)] ∧ Z.Warmed39 U.vm ∧ U.heap = h0) (fun _ _ _ _ _ => True) (fun _ U o U' => ∃ v L, o = .returned v ∧ Q_rm_exp11 Z t1 a1 a2 a3 h0 n0 v U'.heap L ∧ FrameEnd U o U' L ({ frames := 0, cells := 0, slots := 0, locals := 0 } : Room).cells ({ frames := 0, cells := 0, slots := 0, locals := 0 } : Room).slots) := by
  refine MetFree.of_bodySF (plainFor_of_name pn_com_example_api_policy_gateway_apipolicygateway_net_BufferPoolGivePinLaw) hisR ?_
  intro p e s m args below meth c s₁ Bd hml0 hP hK
  obtain ⟨rfl, hZ, hh⟩ := hP
  have hx := Bd.exec
  have hby := Bd.bytes
  have hml : c.maxLocals = 6 := hml0
  have hown : s.vm.findClass "com/example/api_policy_gateway/apipolicygateway/net/BufferPoolGivePinLaw" = some m.cls := findClass_of_methodNamed Bd.named
  have hnm := (name_of_methodNamed Bd.named Bd.method).1
  have X0 : Stand p l e ({ frames := 0, cells := 0, slots := 0, locals := 0 } : Room) s m #[(.ref t1), (.int (1 : Int32)), (.int (1 : Int32)), (.ref a1), (.ref a2), (.ref a3)] below meth c s₁ [] 0 0 := Stand.of_body Bd
  have e0 : s₁.heap = h0 := by rw [← hh, Bd.state]; rfl
  have N0 := Fr.nil n0
  refine Goes.out (l := l) (c := c) (R := ({ frames := 0, cells := 0, slots := 0, locals := 0 } : Room)) (Q := Q_rm_exp11 Z t1 a1 a2 a3 h0 n0) Bd.notSynchronized ?_
  refine Goes.cast (g2 := mkF m 0 #[rv t1, iv 1, iv 1, rv a1, rv a2, rv a3] []) (by first | (simp [entryFrame, mkF, argsToLocals, Value.category]; done) | rfl) ?_
  have K0 : Keep h0 h0 [] := Keep.refl h0 _
  have hws : ∀ x ∈ ([] : List Addr), n0 ≤ x := all0
  refine Goes.step (T2 := s₁) (g2 := (mkF m 1 #[rv t1, iv 1, iv 1, rv a1, rv a2, rv a3] [(.ref t1)])) (fun _ hr => XS.aloadN X0.here hx rfl (hb hby d4_0) rfl rfl hr) ?_
  refine Goes.step (T2 := s₁) (g2 := (mkF m 6 #[rv t1, iv 1, iv 1, rv a1, rv a2, rv a3] [])) (fun _ hr => Jvm.Free.XT.ifnonnullYes X0.here hx rfl (pc0 := 1) (pc' := 6) rfl (hb hby d4_1) rfl (by decide) (by decide) hr) ?_
  refine Goes.step (T2 := s₁) (g2 := (mkF m 7 #[rv t1, iv 1, iv 1, rv a1, rv a2, rv a3] [(.int (1 : Int32))])) (fun _ hr => XS.iloadN X0.here hx rfl (hb hby d4_6) rfl  hr) ?_
  refine Goes.step (T2 := s₁) (g2 := (mkF m 8 #[rv t1, iv 1, iv 1, rv a1, rv a2, rv a3] [(.int (1 : Int32)), (.int (1 : Int32))])) (fun _ hr => XS.iloadN X0.here hx rfl (hb hby d4_7) rfl  hr) ?_
  refine Goes.step (T2 := s₁) (g2 := (mkF m 34 #[rv t1, iv 1, iv 1, rv a1, rv a2, rv a3] [])) (fun _ hr => XS.icmpYes X0.here hx rfl (pc0 := 8) (pc' := 34) rfl (hb hby d4_8) rfl (flt (by decide : ¬ ((1 : Int32) < (1 : Int32)))).2.1 (by decide) (by decide) hr) ?_
  refine Goes.step (T2 := s₁) (g2 := (mkF m 35 #[rv t1, iv 1, iv 1, rv a1, rv a2, rv a3] [(.ref t1)])) (fun _ hr => XS.aloadN X0.here hx rfl (hb hby d4_34) rfl rfl hr) ?_
  obtain ⟨cl67, Ar67, S67, Nn67⟩ := id L_t1
  refine Goes.step (T2 := s₁) (g2 := (mkF m 36 #[rv t1, iv 1, iv 1, rv a1, rv a2, rv a3] [(.int (16384 : Int32))])) (fun t hr => X0.arraylength hx (own_at e0 Ar67.1) (State.isArrayOf_alike hZ.alike Ar67.2.1) (g := (mkF m 35 #[rv t1, iv 1, iv 1, rv a1, rv a2, rv a3] [(.ref t1)])) rfl rfl (hb hby d4_35) t (by rw [len_of S67 Nn67]; exact hr)) ?_
  refine Goes.step (T2 := s₁) (g2 := (mkF m 39 #[rv t1, iv 1, iv 1, rv a1, rv a2, rv a3] [(.int (16384 : Int32)), (.int (16384 : Int32))])) (fun _ hr => XS.sipush X0.here hx rfl (hb hby d4_36) hr) ?_
  refine Goes.step (T2 := s₁) (g2 := (mkF m 42 #[rv t1, iv 1, iv 1, rv a1, rv a2, rv a3] [])) (fun _ hr => XS.icmpNo X0.here hx rfl (hb hby d4_39) rfl (teq (by decide : (16384 : Int32) = (16384 : Int32))).2 hr) ?_
  refine Goes.step (T2 := s₁) (g2 := (mkF m 43 #[rv t1, iv 1, iv 1, rv a1, rv a2, rv a3] [(.ref t1)])) (fun _ hr => XS.aloadN X0.here hx rfl (hb hby d4_42) rfl rfl hr) ?_
  refine Goes.step (T2 := s₁) (g2 := (mkF m 44 #[rv t1, iv 1, iv 1, rv a1, rv a2, rv a3] [(.ref a1), (.ref t1)])) (fun _ hr => XS.aloadN X0.here hx rfl (hb hby d4_43) rfl rfl hr) ?_
  refine Goes.step (T2 := s₁) (g2 := (mkF m 47 #[rv t1, iv 1, iv 1, rv a1, rv a2, rv a3] [])) (fun _ hr => Jvm.RoadKit.acmp (g := (mkF m 44 #[rv t1, iv 1, iv 1, rv a1, rv a2, rv a3] [(.ref a1), (.ref t1)])) X0 hx rfl rfl rfl (pc0 := 44) (pc' := 47) (same := false) rfl (hb hby d4_44) rfl (decide_eq_false fun q => ne_t1_a1 (Value.ref.inj q)) (by decide) (by decide) hr) ?_
  refine Goes.step (T2 := s₁) (g2 := (mkF m 48 #[rv t1, iv 1, iv 1, rv a1, rv a2, rv a3] [(.ref t1)])) (fun _ hr => XS.aloadN X0.here hx rfl (hb hby d4_47) rfl rfl hr) ?_
  refine Goes.step (T2 := s₁) (g2 := (mkF m 50 #[rv t1, iv 1, iv 1, rv a1, rv a2, rv a3] [(.ref a2), (.ref t1)])) (fun _ hr => XS.aload X0.here hx rfl (hb hby d4_48) rfl rfl hr) ?_
  refine Goes.step (T2 := s₁) (g2 := (mkF m 53 #[rv t1, iv 1, iv 1, rv a1, rv a2, rv a3] [])) (fun _ hr => Jvm.RoadKit.acmp (g := (mkF m 50 #[rv t1, iv 1, iv 1, rv a1, rv a2, rv a3] [(.ref a2), (.ref t1)])) X0 hx rfl rfl rfl (pc0 := 50) (pc' := 53) (same := false) rfl (hb hby d4_50) rfl (decide_eq_false fun q => ne_t1_a2 (Value.ref.inj q)) (by decide) (by decide) hr) ?_
  refine Goes.step (T2 := s₁) (g2 := (mkF m 54 #[rv t1, iv 1, iv 1, rv a1, rv a2, rv a3] [(.ref t1)])) (fun _ hr => XS.aloadN X0.here hx rfl (hb hby d4_53) rfl rfl hr) ?_
  refine Goes.step (T2 := s₁) (g2 := (mkF m 56 #[rv t1, iv 1, iv 1, rv a1, rv a2, rv a3] [(.ref a3), (.ref t1)])) (fun _ hr => XS.aload X0.here hx rfl (hb hby d4_54) rfl rfl hr) ?_
  refine Goes.step (T2 := s₁) (g2 := (mkF m 59 #[rv t1, iv 1, iv 1, rv a1, rv a2, rv a3] [])) (fun _ hr => Jvm.RoadKit.acmp (g := (mkF m 56 #[rv t1, iv 1, iv 1, rv a1, rv a2, rv a3] [(.ref a3), (.ref t1)])) X0 hx rfl rfl rfl (pc0 := 56) (pc' := 59) (same := false) rfl (hb hby d4_56) rfl (decide_eq_false fun q => ne_t1_a3 (Value.ref.inj q)) (by decide) (by decide) hr) ?_
  refine Goes.step (T2 := s₁) (g2 := (mkF m 60 #[rv t1, iv 1, iv 1, rv a1, rv a2, rv a3] [(.int (1 : Int32))])) (fun _ hr => XS.iconst X0.here hx rfl (hb hby d4_59) hr) ?_
  refine Goes.step (T2 := s₁) (g2 := (mkF m 64 #[rv t1, iv 1, iv 1, rv a1, rv a2, rv a3] [(.int (1 : Int32))])) (fun _ hr => XS.goto X0.here hx rfl (pc0 := 60) (pc' := 64) rfl (hb hby d4_60) (by decide) (by decide) hr) ?_
  exact Goes.ret (v := some (.int (1 : Int32))) X0 (by decide) (by decide) (fun h => by rw [Bd.returns] at h; cases h) ⟨rfl, N0, e0⟩ (fun fs hr => retN X0 hx (t := .boolean) Bd.returns (by simp) (hb hby d4_64) hr)
def Q_rm_exp21 (Z : State) (t1 : Addr) (a1 : Addr) (a2 : Addr) (a3 : Addr) (h0 : Heap) (n0 : Nat) (v : Option Value) (h : Heap) (L : List Loc) : Prop := v = some (.int (1 : Int32)) ∧ Fr n0 L ∧ h = h0
set_option maxRecDepth 65536 in
set_option maxHeartbeats 40000000 in
theorem rm_exp21 (l : Launch) (Z : State) (a0 : Array Value) (hw : ∀ d ∈ tables_1, d.before a0 Z = true) (ws : List Jvm.Cond) (t1 : Addr) (a1 : Addr) (a2 : Addr) (a3 : Addr) (h0 : Heap) (n0 : Nat) (Z0 : n0 ≤ h0.size) (O0 : Old Z n0 h0) (L_t1 : LenB Z h0 t1 (16384 : Int32)) (ne_t1_a1 : t1 ≠ a1) (ne_t1_a2 : t1 ≠ a2) (ne_t1_a3 : t1 ≠ a3) :
    MetFree l Y4 (head1 (Jvm.Cond.code Y4 method_4_code 6 (some .boolean) :: ws) ({ frames := 0, cells := 0, slots := 0, locals := 0 } : Room)) (fun a U => a = #[(.ref t1), (.int (2 : Int32)), (.int (1 : Int32)), (.ref a1), (.ref a2), (.ref a3)] ∧ Z.Warmed39 U.vm ∧ U.heap = h0) (fun _ _ _ _ _ => True) (fun _ U o U' => ∃ v L, o = .returned v ∧ Q_rm_exp21 Z t1 a1 a2 a3 h0 n0 v U'.heap L ∧ FrameEnd U o U' L ({ frames := 0, cells := 0, slots := 0, locals := 0 } : Room).cells ({ frames := 0, cells := 0, slots := 0, locals := 0 } : Room).slots) := by
  refine MetFree.of_bodySF (plainFor_of_name pn_com_example_api_policy_gateway_apipolicygateway_net_BufferPoolGivePinLaw) hisR ?_
  intro p e s m args below meth c s₁ Bd hml0 hP hK
  obtain ⟨rfl, hZ, hh⟩ := hP
  have hx := Bd.exec
  have hby := Bd.bytes
  have hml : c.maxLocals = 6 := hml0
  have hown : s.vm.findClass "com/example/api_policy_gateway/apipolicygateway/net/BufferPoolGivePinLaw" = some m.cls := findClass_of_methodNamed Bd.named
  have hnm := (name_of_methodNamed Bd.named Bd.method).1
  have X0 : Stand p l e ({ frames := 0, cells := 0, slots := 0, locals := 0 } : Room) s m #[(.ref t1), (.int (2 : Int32)), (.int (1 : Int32)), (.ref a1), (.ref a2), (.ref a3)] below meth c s₁ [] 0 0 := Stand.of_body Bd
  have e0 : s₁.heap = h0 := by rw [← hh, Bd.state]; rfl
  have N0 := Fr.nil n0
  refine Goes.out (l := l) (c := c) (R := ({ frames := 0, cells := 0, slots := 0, locals := 0 } : Room)) (Q := Q_rm_exp21 Z t1 a1 a2 a3 h0 n0) Bd.notSynchronized ?_
  refine Goes.cast (g2 := mkF m 0 #[rv t1, iv 2, iv 1, rv a1, rv a2, rv a3] []) (by first | (simp [entryFrame, mkF, argsToLocals, Value.category]; done) | rfl) ?_
  have K0 : Keep h0 h0 [] := Keep.refl h0 _
  have hws : ∀ x ∈ ([] : List Addr), n0 ≤ x := all0
  refine Goes.step (T2 := s₁) (g2 := (mkF m 1 #[rv t1, iv 2, iv 1, rv a1, rv a2, rv a3] [(.ref t1)])) (fun _ hr => XS.aloadN X0.here hx rfl (hb hby d4_0) rfl rfl hr) ?_
  refine Goes.step (T2 := s₁) (g2 := (mkF m 6 #[rv t1, iv 2, iv 1, rv a1, rv a2, rv a3] [])) (fun _ hr => Jvm.Free.XT.ifnonnullYes X0.here hx rfl (pc0 := 1) (pc' := 6) rfl (hb hby d4_1) rfl (by decide) (by decide) hr) ?_
  refine Goes.step (T2 := s₁) (g2 := (mkF m 7 #[rv t1, iv 2, iv 1, rv a1, rv a2, rv a3] [(.int (2 : Int32))])) (fun _ hr => XS.iloadN X0.here hx rfl (hb hby d4_6) rfl  hr) ?_
  refine Goes.step (T2 := s₁) (g2 := (mkF m 8 #[rv t1, iv 2, iv 1, rv a1, rv a2, rv a3] [(.int (1 : Int32)), (.int (2 : Int32))])) (fun _ hr => XS.iloadN X0.here hx rfl (hb hby d4_7) rfl  hr) ?_
  refine Goes.step (T2 := s₁) (g2 := (mkF m 34 #[rv t1, iv 2, iv 1, rv a1, rv a2, rv a3] [])) (fun _ hr => XS.icmpYes X0.here hx rfl (pc0 := 8) (pc' := 34) rfl (hb hby d4_8) rfl (flt (by decide : ¬ ((2 : Int32) < (1 : Int32)))).2.1 (by decide) (by decide) hr) ?_
  refine Goes.step (T2 := s₁) (g2 := (mkF m 35 #[rv t1, iv 2, iv 1, rv a1, rv a2, rv a3] [(.ref t1)])) (fun _ hr => XS.aloadN X0.here hx rfl (hb hby d4_34) rfl rfl hr) ?_
  obtain ⟨cl68, Ar68, S68, Nn68⟩ := id L_t1
  refine Goes.step (T2 := s₁) (g2 := (mkF m 36 #[rv t1, iv 2, iv 1, rv a1, rv a2, rv a3] [(.int (16384 : Int32))])) (fun t hr => X0.arraylength hx (own_at e0 Ar68.1) (State.isArrayOf_alike hZ.alike Ar68.2.1) (g := (mkF m 35 #[rv t1, iv 2, iv 1, rv a1, rv a2, rv a3] [(.ref t1)])) rfl rfl (hb hby d4_35) t (by rw [len_of S68 Nn68]; exact hr)) ?_
  refine Goes.step (T2 := s₁) (g2 := (mkF m 39 #[rv t1, iv 2, iv 1, rv a1, rv a2, rv a3] [(.int (16384 : Int32)), (.int (16384 : Int32))])) (fun _ hr => XS.sipush X0.here hx rfl (hb hby d4_36) hr) ?_
  refine Goes.step (T2 := s₁) (g2 := (mkF m 42 #[rv t1, iv 2, iv 1, rv a1, rv a2, rv a3] [])) (fun _ hr => XS.icmpNo X0.here hx rfl (hb hby d4_39) rfl (teq (by decide : (16384 : Int32) = (16384 : Int32))).2 hr) ?_
  refine Goes.step (T2 := s₁) (g2 := (mkF m 43 #[rv t1, iv 2, iv 1, rv a1, rv a2, rv a3] [(.ref t1)])) (fun _ hr => XS.aloadN X0.here hx rfl (hb hby d4_42) rfl rfl hr) ?_
  refine Goes.step (T2 := s₁) (g2 := (mkF m 44 #[rv t1, iv 2, iv 1, rv a1, rv a2, rv a3] [(.ref a1), (.ref t1)])) (fun _ hr => XS.aloadN X0.here hx rfl (hb hby d4_43) rfl rfl hr) ?_
  refine Goes.step (T2 := s₁) (g2 := (mkF m 47 #[rv t1, iv 2, iv 1, rv a1, rv a2, rv a3] [])) (fun _ hr => Jvm.RoadKit.acmp (g := (mkF m 44 #[rv t1, iv 2, iv 1, rv a1, rv a2, rv a3] [(.ref a1), (.ref t1)])) X0 hx rfl rfl rfl (pc0 := 44) (pc' := 47) (same := false) rfl (hb hby d4_44) rfl (decide_eq_false fun q => ne_t1_a1 (Value.ref.inj q)) (by decide) (by decide) hr) ?_
  refine Goes.step (T2 := s₁) (g2 := (mkF m 48 #[rv t1, iv 2, iv 1, rv a1, rv a2, rv a3] [(.ref t1)])) (fun _ hr => XS.aloadN X0.here hx rfl (hb hby d4_47) rfl rfl hr) ?_
  refine Goes.step (T2 := s₁) (g2 := (mkF m 50 #[rv t1, iv 2, iv 1, rv a1, rv a2, rv a3] [(.ref a2), (.ref t1)])) (fun _ hr => XS.aload X0.here hx rfl (hb hby d4_48) rfl rfl hr) ?_
  refine Goes.step (T2 := s₁) (g2 := (mkF m 53 #[rv t1, iv 2, iv 1, rv a1, rv a2, rv a3] [])) (fun _ hr => Jvm.RoadKit.acmp (g := (mkF m 50 #[rv t1, iv 2, iv 1, rv a1, rv a2, rv a3] [(.ref a2), (.ref t1)])) X0 hx rfl rfl rfl (pc0 := 50) (pc' := 53) (same := false) rfl (hb hby d4_50) rfl (decide_eq_false fun q => ne_t1_a2 (Value.ref.inj q)) (by decide) (by decide) hr) ?_
  refine Goes.step (T2 := s₁) (g2 := (mkF m 54 #[rv t1, iv 2, iv 1, rv a1, rv a2, rv a3] [(.ref t1)])) (fun _ hr => XS.aloadN X0.here hx rfl (hb hby d4_53) rfl rfl hr) ?_
  refine Goes.step (T2 := s₁) (g2 := (mkF m 56 #[rv t1, iv 2, iv 1, rv a1, rv a2, rv a3] [(.ref a3), (.ref t1)])) (fun _ hr => XS.aload X0.here hx rfl (hb hby d4_54) rfl rfl hr) ?_
  refine Goes.step (T2 := s₁) (g2 := (mkF m 59 #[rv t1, iv 2, iv 1, rv a1, rv a2, rv a3] [])) (fun _ hr => Jvm.RoadKit.acmp (g := (mkF m 56 #[rv t1, iv 2, iv 1, rv a1, rv a2, rv a3] [(.ref a3), (.ref t1)])) X0 hx rfl rfl rfl (pc0 := 56) (pc' := 59) (same := false) rfl (hb hby d4_56) rfl (decide_eq_false fun q => ne_t1_a3 (Value.ref.inj q)) (by decide) (by decide) hr) ?_
  refine Goes.step (T2 := s₁) (g2 := (mkF m 60 #[rv t1, iv 2, iv 1, rv a1, rv a2, rv a3] [(.int (1 : Int32))])) (fun _ hr => XS.iconst X0.here hx rfl (hb hby d4_59) hr) ?_
  refine Goes.step (T2 := s₁) (g2 := (mkF m 64 #[rv t1, iv 2, iv 1, rv a1, rv a2, rv a3] [(.int (1 : Int32))])) (fun _ hr => XS.goto X0.here hx rfl (pc0 := 60) (pc' := 64) rfl (hb hby d4_60) (by decide) (by decide) hr) ?_
  exact Goes.ret (v := some (.int (1 : Int32))) X0 (by decide) (by decide) (fun h => by rw [Bd.returns] at h; cases h) ⟨rfl, N0, e0⟩ (fun fs hr => retN X0 hx (t := .boolean) Bd.returns (by simp) (hb hby d4_64) hr)
def Q_rm_exp31 (Z : State) (t1 : Addr) (a1 : Addr) (a2 : Addr) (a3 : Addr) (h0 : Heap) (n0 : Nat) (v : Option Value) (h : Heap) (L : List Loc) : Prop := v = some (.int (1 : Int32)) ∧ Fr n0 L ∧ h = h0
set_option maxRecDepth 65536 in
set_option maxHeartbeats 40000000 in
theorem rm_exp31 (l : Launch) (Z : State) (a0 : Array Value) (hw : ∀ d ∈ tables_1, d.before a0 Z = true) (ws : List Jvm.Cond) (t1 : Addr) (a1 : Addr) (a2 : Addr) (a3 : Addr) (h0 : Heap) (n0 : Nat) (Z0 : n0 ≤ h0.size) (O0 : Old Z n0 h0) (L_t1 : LenB Z h0 t1 (16384 : Int32)) (ne_t1_a1 : t1 ≠ a1) (ne_t1_a2 : t1 ≠ a2) (ne_t1_a3 : t1 ≠ a3) :
    MetFree l Y4 (head1 (Jvm.Cond.code Y4 method_4_code 6 (some .boolean) :: ws) ({ frames := 0, cells := 0, slots := 0, locals := 0 } : Room)) (fun a U => a = #[(.ref t1), (.int (3 : Int32)), (.int (1 : Int32)), (.ref a1), (.ref a2), (.ref a3)] ∧ Z.Warmed39 U.vm ∧ U.heap = h0) (fun _ _ _ _ _ => True) (fun _ U o U' => ∃ v L, o = .returned v ∧ Q_rm_exp31 Z t1 a1 a2 a3 h0 n0 v U'.heap L ∧ FrameEnd U o U' L ({ frames := 0, cells := 0, slots := 0, locals := 0 } : Room).cells ({ frames := 0, cells := 0, slots := 0, locals := 0 } : Room).slots) := by
  refine MetFree.of_bodySF (plainFor_of_name pn_com_example_api_policy_gateway_apipolicygateway_net_BufferPoolGivePinLaw) hisR ?_
  intro p e s m args below meth c s₁ Bd hml0 hP hK
  obtain ⟨rfl, hZ, hh⟩ := hP
  have hx := Bd.exec
  have hby := Bd.bytes
  have hml : c.maxLocals = 6 := hml0
  have hown : s.vm.findClass "com/example/api_policy_gateway/apipolicygateway/net/BufferPoolGivePinLaw" = some m.cls := findClass_of_methodNamed Bd.named
  have hnm := (name_of_methodNamed Bd.named Bd.method).1
  have X0 : Stand p l e ({ frames := 0, cells := 0, slots := 0, locals := 0 } : Room) s m #[(.ref t1), (.int (3 : Int32)), (.int (1 : Int32)), (.ref a1), (.ref a2), (.ref a3)] below meth c s₁ [] 0 0 := Stand.of_body Bd
  have e0 : s₁.heap = h0 := by rw [← hh, Bd.state]; rfl
  have N0 := Fr.nil n0
  refine Goes.out (l := l) (c := c) (R := ({ frames := 0, cells := 0, slots := 0, locals := 0 } : Room)) (Q := Q_rm_exp31 Z t1 a1 a2 a3 h0 n0) Bd.notSynchronized ?_
  refine Goes.cast (g2 := mkF m 0 #[rv t1, iv 3, iv 1, rv a1, rv a2, rv a3] []) (by first | (simp [entryFrame, mkF, argsToLocals, Value.category]; done) | rfl) ?_
  have K0 : Keep h0 h0 [] := Keep.refl h0 _
  have hws : ∀ x ∈ ([] : List Addr), n0 ≤ x := all0
  refine Goes.step (T2 := s₁) (g2 := (mkF m 1 #[rv t1, iv 3, iv 1, rv a1, rv a2, rv a3] [(.ref t1)])) (fun _ hr => XS.aloadN X0.here hx rfl (hb hby d4_0) rfl rfl hr) ?_
  refine Goes.step (T2 := s₁) (g2 := (mkF m 6 #[rv t1, iv 3, iv 1, rv a1, rv a2, rv a3] [])) (fun _ hr => Jvm.Free.XT.ifnonnullYes X0.here hx rfl (pc0 := 1) (pc' := 6) rfl (hb hby d4_1) rfl (by decide) (by decide) hr) ?_
  refine Goes.step (T2 := s₁) (g2 := (mkF m 7 #[rv t1, iv 3, iv 1, rv a1, rv a2, rv a3] [(.int (3 : Int32))])) (fun _ hr => XS.iloadN X0.here hx rfl (hb hby d4_6) rfl  hr) ?_
  refine Goes.step (T2 := s₁) (g2 := (mkF m 8 #[rv t1, iv 3, iv 1, rv a1, rv a2, rv a3] [(.int (1 : Int32)), (.int (3 : Int32))])) (fun _ hr => XS.iloadN X0.here hx rfl (hb hby d4_7) rfl  hr) ?_
  refine Goes.step (T2 := s₁) (g2 := (mkF m 34 #[rv t1, iv 3, iv 1, rv a1, rv a2, rv a3] [])) (fun _ hr => XS.icmpYes X0.here hx rfl (pc0 := 8) (pc' := 34) rfl (hb hby d4_8) rfl (flt (by decide : ¬ ((3 : Int32) < (1 : Int32)))).2.1 (by decide) (by decide) hr) ?_
  refine Goes.step (T2 := s₁) (g2 := (mkF m 35 #[rv t1, iv 3, iv 1, rv a1, rv a2, rv a3] [(.ref t1)])) (fun _ hr => XS.aloadN X0.here hx rfl (hb hby d4_34) rfl rfl hr) ?_
  obtain ⟨cl69, Ar69, S69, Nn69⟩ := id L_t1
  refine Goes.step (T2 := s₁) (g2 := (mkF m 36 #[rv t1, iv 3, iv 1, rv a1, rv a2, rv a3] [(.int (16384 : Int32))])) (fun t hr => X0.arraylength hx (own_at e0 Ar69.1) (State.isArrayOf_alike hZ.alike Ar69.2.1) (g := (mkF m 35 #[rv t1, iv 3, iv 1, rv a1, rv a2, rv a3] [(.ref t1)])) rfl rfl (hb hby d4_35) t (by rw [len_of S69 Nn69]; exact hr)) ?_
  refine Goes.step (T2 := s₁) (g2 := (mkF m 39 #[rv t1, iv 3, iv 1, rv a1, rv a2, rv a3] [(.int (16384 : Int32)), (.int (16384 : Int32))])) (fun _ hr => XS.sipush X0.here hx rfl (hb hby d4_36) hr) ?_
  refine Goes.step (T2 := s₁) (g2 := (mkF m 42 #[rv t1, iv 3, iv 1, rv a1, rv a2, rv a3] [])) (fun _ hr => XS.icmpNo X0.here hx rfl (hb hby d4_39) rfl (teq (by decide : (16384 : Int32) = (16384 : Int32))).2 hr) ?_
  refine Goes.step (T2 := s₁) (g2 := (mkF m 43 #[rv t1, iv 3, iv 1, rv a1, rv a2, rv a3] [(.ref t1)])) (fun _ hr => XS.aloadN X0.here hx rfl (hb hby d4_42) rfl rfl hr) ?_
  refine Goes.step (T2 := s₁) (g2 := (mkF m 44 #[rv t1, iv 3, iv 1, rv a1, rv a2, rv a3] [(.ref a1), (.ref t1)])) (fun _ hr => XS.aloadN X0.here hx rfl (hb hby d4_43) rfl rfl hr) ?_
  refine Goes.step (T2 := s₁) (g2 := (mkF m 47 #[rv t1, iv 3, iv 1, rv a1, rv a2, rv a3] [])) (fun _ hr => Jvm.RoadKit.acmp (g := (mkF m 44 #[rv t1, iv 3, iv 1, rv a1, rv a2, rv a3] [(.ref a1), (.ref t1)])) X0 hx rfl rfl rfl (pc0 := 44) (pc' := 47) (same := false) rfl (hb hby d4_44) rfl (decide_eq_false fun q => ne_t1_a1 (Value.ref.inj q)) (by decide) (by decide) hr) ?_
  refine Goes.step (T2 := s₁) (g2 := (mkF m 48 #[rv t1, iv 3, iv 1, rv a1, rv a2, rv a3] [(.ref t1)])) (fun _ hr => XS.aloadN X0.here hx rfl (hb hby d4_47) rfl rfl hr) ?_
  refine Goes.step (T2 := s₁) (g2 := (mkF m 50 #[rv t1, iv 3, iv 1, rv a1, rv a2, rv a3] [(.ref a2), (.ref t1)])) (fun _ hr => XS.aload X0.here hx rfl (hb hby d4_48) rfl rfl hr) ?_
  refine Goes.step (T2 := s₁) (g2 := (mkF m 53 #[rv t1, iv 3, iv 1, rv a1, rv a2, rv a3] [])) (fun _ hr => Jvm.RoadKit.acmp (g := (mkF m 50 #[rv t1, iv 3, iv 1, rv a1, rv a2, rv a3] [(.ref a2), (.ref t1)])) X0 hx rfl rfl rfl (pc0 := 50) (pc' := 53) (same := false) rfl (hb hby d4_50) rfl (decide_eq_false fun q => ne_t1_a2 (Value.ref.inj q)) (by decide) (by decide) hr) ?_
  refine Goes.step (T2 := s₁) (g2 := (mkF m 54 #[rv t1, iv 3, iv 1, rv a1, rv a2, rv a3] [(.ref t1)])) (fun _ hr => XS.aloadN X0.here hx rfl (hb hby d4_53) rfl rfl hr) ?_
  refine Goes.step (T2 := s₁) (g2 := (mkF m 56 #[rv t1, iv 3, iv 1, rv a1, rv a2, rv a3] [(.ref a3), (.ref t1)])) (fun _ hr => XS.aload X0.here hx rfl (hb hby d4_54) rfl rfl hr) ?_
  refine Goes.step (T2 := s₁) (g2 := (mkF m 59 #[rv t1, iv 3, iv 1, rv a1, rv a2, rv a3] [])) (fun _ hr => Jvm.RoadKit.acmp (g := (mkF m 56 #[rv t1, iv 3, iv 1, rv a1, rv a2, rv a3] [(.ref a3), (.ref t1)])) X0 hx rfl rfl rfl (pc0 := 56) (pc' := 59) (same := false) rfl (hb hby d4_56) rfl (decide_eq_false fun q => ne_t1_a3 (Value.ref.inj q)) (by decide) (by decide) hr) ?_
  refine Goes.step (T2 := s₁) (g2 := (mkF m 60 #[rv t1, iv 3, iv 1, rv a1, rv a2, rv a3] [(.int (1 : Int32))])) (fun _ hr => XS.iconst X0.here hx rfl (hb hby d4_59) hr) ?_
  refine Goes.step (T2 := s₁) (g2 := (mkF m 64 #[rv t1, iv 3, iv 1, rv a1, rv a2, rv a3] [(.int (1 : Int32))])) (fun _ hr => XS.goto X0.here hx rfl (pc0 := 60) (pc' := 64) rfl (hb hby d4_60) (by decide) (by decide) hr) ?_
  exact Goes.ret (v := some (.int (1 : Int32))) X0 (by decide) (by decide) (fun h => by rw [Bd.returns] at h; cases h) ⟨rfl, N0, e0⟩ (fun fs hr => retN X0 hx (t := .boolean) Bd.returns (by simp) (hb hby d4_64) hr)
def Q_rm_exp02 (Z : State) (a1 : Addr) (a2 : Addr) (a3 : Addr) (h0 : Heap) (n0 : Nat) (v : Option Value) (h : Heap) (L : List Loc) : Prop := v = some (.int (1 : Int32)) ∧ Fr n0 L ∧ h = h0
set_option maxRecDepth 65536 in
set_option maxHeartbeats 40000000 in
theorem rm_exp02 (l : Launch) (Z : State) (a0 : Array Value) (hw : ∀ d ∈ tables_1, d.before a0 Z = true) (ws : List Jvm.Cond) (a1 : Addr) (a2 : Addr) (a3 : Addr) (h0 : Heap) (n0 : Nat) (Z0 : n0 ≤ h0.size) (O0 : Old Z n0 h0) :
    MetFree l Y4 (head1 (Jvm.Cond.code Y4 method_4_code 6 (some .boolean) :: ws) ({ frames := 1, cells := 0, slots := 0, locals := 16 } : Room)) (fun a U => a = #[(.ref a2), (.int (0 : Int32)), (.int (2 : Int32)), (.ref a1), (.ref a2), (.ref a3)] ∧ Z.Warmed39 U.vm ∧ U.heap = h0) (fun _ _ _ _ _ => True) (fun _ U o U' => ∃ v L, o = .returned v ∧ Q_rm_exp02 Z a1 a2 a3 h0 n0 v U'.heap L ∧ FrameEnd U o U' L ({ frames := 1, cells := 0, slots := 0, locals := 16 } : Room).cells ({ frames := 1, cells := 0, slots := 0, locals := 16 } : Room).slots) := by
  refine MetFree.of_bodySF (plainFor_of_name pn_com_example_api_policy_gateway_apipolicygateway_net_BufferPoolGivePinLaw) hisR ?_
  intro p e s m args below meth c s₁ Bd hml0 hP hK
  obtain ⟨rfl, hZ, hh⟩ := hP
  have hx := Bd.exec
  have hby := Bd.bytes
  have hml : c.maxLocals = 6 := hml0
  have hown : s.vm.findClass "com/example/api_policy_gateway/apipolicygateway/net/BufferPoolGivePinLaw" = some m.cls := findClass_of_methodNamed Bd.named
  have hnm := (name_of_methodNamed Bd.named Bd.method).1
  have X0 : Stand p l e ({ frames := 1, cells := 0, slots := 0, locals := 16 } : Room) s m #[(.ref a2), (.int (0 : Int32)), (.int (2 : Int32)), (.ref a1), (.ref a2), (.ref a3)] below meth c s₁ [] 0 0 := Stand.of_body Bd
  have e0 : s₁.heap = h0 := by rw [← hh, Bd.state]; rfl
  have N0 := Fr.nil n0
  refine Goes.out (l := l) (c := c) (R := ({ frames := 1, cells := 0, slots := 0, locals := 16 } : Room)) (Q := Q_rm_exp02 Z a1 a2 a3 h0 n0) Bd.notSynchronized ?_
  refine Goes.cast (g2 := mkF m 0 #[rv a2, iv 0, iv 2, rv a1, rv a2, rv a3] []) (by first | (simp [entryFrame, mkF, argsToLocals, Value.category]; done) | rfl) ?_
  have K0 : Keep h0 h0 [] := Keep.refl h0 _
  have hws : ∀ x ∈ ([] : List Addr), n0 ≤ x := all0
  refine Goes.step (T2 := s₁) (g2 := (mkF m 1 #[rv a2, iv 0, iv 2, rv a1, rv a2, rv a3] [(.ref a2)])) (fun _ hr => XS.aloadN X0.here hx rfl (hb hby d4_0) rfl rfl hr) ?_
  refine Goes.step (T2 := s₁) (g2 := (mkF m 6 #[rv a2, iv 0, iv 2, rv a1, rv a2, rv a3] [])) (fun _ hr => Jvm.Free.XT.ifnonnullYes X0.here hx rfl (pc0 := 1) (pc' := 6) rfl (hb hby d4_1) rfl (by decide) (by decide) hr) ?_
  refine Goes.step (T2 := s₁) (g2 := (mkF m 7 #[rv a2, iv 0, iv 2, rv a1, rv a2, rv a3] [(.int (0 : Int32))])) (fun _ hr => XS.iloadN X0.here hx rfl (hb hby d4_6) rfl  hr) ?_
  refine Goes.step (T2 := s₁) (g2 := (mkF m 8 #[rv a2, iv 0, iv 2, rv a1, rv a2, rv a3] [(.int (2 : Int32)), (.int (0 : Int32))])) (fun _ hr => XS.iloadN X0.here hx rfl (hb hby d4_7) rfl  hr) ?_
  refine Goes.step (T2 := s₁) (g2 := (mkF m 11 #[rv a2, iv 0, iv 2, rv a1, rv a2, rv a3] [])) (fun _ hr => XS.icmpNo X0.here hx rfl (hb hby d4_8) rfl (tlt (by decide : (0 : Int32) < (2 : Int32))).2.1 hr) ?_
  refine Goes.step (T2 := s₁) (g2 := (mkF m 12 #[rv a2, iv 0, iv 2, rv a1, rv a2, rv a3] [(.ref a2)])) (fun _ hr => XS.aloadN X0.here hx rfl (hb hby d4_11) rfl rfl hr) ?_
  refine Goes.step (T2 := s₁) (g2 := (mkF m 13 #[rv a2, iv 0, iv 2, rv a1, rv a2, rv a3] [(.int (2 : Int32)), (.ref a2)])) (fun _ hr => XS.iloadN X0.here hx rfl (hb hby d4_12) rfl  hr) ?_
  refine Goes.step (T2 := s₁) (g2 := (mkF m 14 #[rv a2, iv 0, iv 2, rv a1, rv a2, rv a3] [(.int (1 : Int32)), (.int (2 : Int32)), (.ref a2)])) (fun _ hr => XS.iconst X0.here hx rfl (hb hby d4_13) hr) ?_
  refine Goes.step (T2 := s₁) (g2 := (mkF m 15 #[rv a2, iv 0, iv 2, rv a1, rv a2, rv a3] [(.int (1 : Int32)), (.ref a2)])) (fun _ hr => XS.isub X0.here hx rfl (hb hby d4_14) rfl hr) ?_
  refine Goes.step (T2 := s₁) (g2 := (mkF m 16 #[rv a2, iv 0, iv 2, rv a1, rv a2, rv a3] [(.int (0 : Int32)), (.int (1 : Int32)), (.ref a2)])) (fun _ hr => XS.iloadN X0.here hx rfl (hb hby d4_15) rfl  hr) ?_
  refine Goes.step (T2 := s₁) (g2 := (mkF m 17 #[rv a2, iv 0, iv 2, rv a1, rv a2, rv a3] [(.int (1 : Int32)), (.ref a2)])) (fun _ hr => XS.isub X0.here hx rfl (hb hby d4_16) rfl hr) ?_
  refine Goes.step (T2 := s₁) (g2 := (mkF m 18 #[rv a2, iv 0, iv 2, rv a1, rv a2, rv a3] [(.ref a1), (.int (1 : Int32)), (.ref a2)])) (fun _ hr => XS.aloadN X0.here hx rfl (hb hby d4_17) rfl rfl hr) ?_
  refine Goes.step (T2 := s₁) (g2 := (mkF m 20 #[rv a2, iv 0, iv 2, rv a1, rv a2, rv a3] [(.ref a2), (.ref a1), (.int (1 : Int32)), (.ref a2)])) (fun _ hr => XS.aload X0.here hx rfl (hb hby d4_18) rfl rfl hr) ?_
  refine Goes.step (T2 := s₁) (g2 := (mkF m 22 #[rv a2, iv 0, iv 2, rv a1, rv a2, rv a3] [(.ref a3), (.ref a2), (.ref a1), (.int (1 : Int32)), (.ref a2)])) (fun _ hr => XS.aload X0.here hx rfl (hb hby d4_20) rfl rfl hr) ?_
  have Zs70 : n0 ≤ h0.size := Nat.le_trans Z0 K0.1
  obtain ⟨_, _, ⟨T71, L71, k71, n71⟩, -, X71, ⟨Lc71, hQ71, l71, y71, z71⟩, st71⟩ := Jvm.LawKit.callS X0 hx (y := Y3) hown (mvT hZ (tw hw 31 rfl)) (mvT hZ (tw hw 32 rfl)) (mvT hZ (tw hw 23 rfl)) (mvT hZ (tw hw 33 rfl)) (by decide) (backOf (W := 1) (rm_pick1 l Z a0 hw [] a1 a2 a3 h0 n0 Zs70 (Old.keep O0 K0 hws)) hZ (tw hw 33 rfl) (tw hw 23 rfl) (by decide) (by decide)) (g := (mkF m 22 #[rv a2, iv 0, iv 2, rv a1, rv a2, rv a3] [(.ref a3), (.ref a2), (.ref a1), (.int (1 : Int32)), (.ref a2)])) rfl (by rw [hml]; rfl) (argsL := [(.int (1 : Int32)), (.ref a1), (.ref a2), (.ref a3)]) (rest := [(.ref a2)]) (lenOf pd_0 rfl) rfl (by show 2 * 0 + _ ≤ _; exact Nat.le_of_eq rfl) (hb hby d4_22) (fun _ _ => ⟨rfl, e0, (by decide : 0 + 0 ≤ _), (by decide : 0 + 0 ≤ _)⟩)
  dsimp only [Pt.U, Pt.locs, Pt.cells, Pt.slots] at X71 l71 y71 z71 st71 hQ71
  subst l71 y71 z71
  obtain ⟨rfl, N71q, e71⟩ := hQ71
  have N71 := Fr.app N0 N71q
  refine Goes.step (T2 := T71) (g2 := (mkF m 25 #[rv a2, iv 0, iv 2, rv a1, rv a2, rv a3] [(.ref a2), (.ref a2)])) st71 ?_
  refine Goes.step (T2 := T71) (g2 := (mkF m 28 #[rv a2, iv 0, iv 2, rv a1, rv a2, rv a3] [])) (fun _ hr => Jvm.RoadKit.acmp (g := (mkF m 25 #[rv a2, iv 0, iv 2, rv a1, rv a2, rv a3] [(.ref a2), (.ref a2)])) X71 hx rfl rfl rfl (pc0 := 25) (pc' := 28) (same := true) rfl (hb hby d4_25) rfl (decide_eq_true rfl) (by decide) (by decide) hr) ?_
  refine Goes.step (T2 := T71) (g2 := (mkF m 29 #[rv a2, iv 0, iv 2, rv a1, rv a2, rv a3] [(.int (1 : Int32))])) (fun _ hr => XS.iconst X71.here hx rfl (hb hby d4_28) hr) ?_
  refine Goes.step (T2 := T71) (g2 := (mkF m 33 #[rv a2, iv 0, iv 2, rv a1, rv a2, rv a3] [(.int (1 : Int32))])) (fun _ hr => XS.goto X71.here hx rfl (pc0 := 29) (pc' := 33) rfl (hb hby d4_29) (by decide) (by decide) hr) ?_
  exact Goes.ret (v := some (.int (1 : Int32))) X71 (by decide) (by decide) (fun h => by rw [Bd.returns] at h; cases h) ⟨rfl, N71, e71⟩ (fun fs hr => retN X71 hx (t := .boolean) Bd.returns (by simp) (hb hby d4_33) hr)
def Q_rm_exp12 (Z : State) (a1 : Addr) (a2 : Addr) (a3 : Addr) (h0 : Heap) (n0 : Nat) (v : Option Value) (h : Heap) (L : List Loc) : Prop := v = some (.int (1 : Int32)) ∧ Fr n0 L ∧ h = h0
set_option maxRecDepth 65536 in
set_option maxHeartbeats 40000000 in
theorem rm_exp12 (l : Launch) (Z : State) (a0 : Array Value) (hw : ∀ d ∈ tables_1, d.before a0 Z = true) (ws : List Jvm.Cond) (a1 : Addr) (a2 : Addr) (a3 : Addr) (h0 : Heap) (n0 : Nat) (Z0 : n0 ≤ h0.size) (O0 : Old Z n0 h0) :
    MetFree l Y4 (head1 (Jvm.Cond.code Y4 method_4_code 6 (some .boolean) :: ws) ({ frames := 1, cells := 0, slots := 0, locals := 16 } : Room)) (fun a U => a = #[(.ref a1), (.int (1 : Int32)), (.int (2 : Int32)), (.ref a1), (.ref a2), (.ref a3)] ∧ Z.Warmed39 U.vm ∧ U.heap = h0) (fun _ _ _ _ _ => True) (fun _ U o U' => ∃ v L, o = .returned v ∧ Q_rm_exp12 Z a1 a2 a3 h0 n0 v U'.heap L ∧ FrameEnd U o U' L ({ frames := 1, cells := 0, slots := 0, locals := 16 } : Room).cells ({ frames := 1, cells := 0, slots := 0, locals := 16 } : Room).slots) := by
  refine MetFree.of_bodySF (plainFor_of_name pn_com_example_api_policy_gateway_apipolicygateway_net_BufferPoolGivePinLaw) hisR ?_
  intro p e s m args below meth c s₁ Bd hml0 hP hK
  obtain ⟨rfl, hZ, hh⟩ := hP
  have hx := Bd.exec
  have hby := Bd.bytes
  have hml : c.maxLocals = 6 := hml0
  have hown : s.vm.findClass "com/example/api_policy_gateway/apipolicygateway/net/BufferPoolGivePinLaw" = some m.cls := findClass_of_methodNamed Bd.named
  have hnm := (name_of_methodNamed Bd.named Bd.method).1
  have X0 : Stand p l e ({ frames := 1, cells := 0, slots := 0, locals := 16 } : Room) s m #[(.ref a1), (.int (1 : Int32)), (.int (2 : Int32)), (.ref a1), (.ref a2), (.ref a3)] below meth c s₁ [] 0 0 := Stand.of_body Bd
  have e0 : s₁.heap = h0 := by rw [← hh, Bd.state]; rfl
  have N0 := Fr.nil n0
  refine Goes.out (l := l) (c := c) (R := ({ frames := 1, cells := 0, slots := 0, locals := 16 } : Room)) (Q := Q_rm_exp12 Z a1 a2 a3 h0 n0) Bd.notSynchronized ?_
  refine Goes.cast (g2 := mkF m 0 #[rv a1, iv 1, iv 2, rv a1, rv a2, rv a3] []) (by first | (simp [entryFrame, mkF, argsToLocals, Value.category]; done) | rfl) ?_
  have K0 : Keep h0 h0 [] := Keep.refl h0 _
  have hws : ∀ x ∈ ([] : List Addr), n0 ≤ x := all0
  refine Goes.step (T2 := s₁) (g2 := (mkF m 1 #[rv a1, iv 1, iv 2, rv a1, rv a2, rv a3] [(.ref a1)])) (fun _ hr => XS.aloadN X0.here hx rfl (hb hby d4_0) rfl rfl hr) ?_
  refine Goes.step (T2 := s₁) (g2 := (mkF m 6 #[rv a1, iv 1, iv 2, rv a1, rv a2, rv a3] [])) (fun _ hr => Jvm.Free.XT.ifnonnullYes X0.here hx rfl (pc0 := 1) (pc' := 6) rfl (hb hby d4_1) rfl (by decide) (by decide) hr) ?_
  refine Goes.step (T2 := s₁) (g2 := (mkF m 7 #[rv a1, iv 1, iv 2, rv a1, rv a2, rv a3] [(.int (1 : Int32))])) (fun _ hr => XS.iloadN X0.here hx rfl (hb hby d4_6) rfl  hr) ?_
  refine Goes.step (T2 := s₁) (g2 := (mkF m 8 #[rv a1, iv 1, iv 2, rv a1, rv a2, rv a3] [(.int (2 : Int32)), (.int (1 : Int32))])) (fun _ hr => XS.iloadN X0.here hx rfl (hb hby d4_7) rfl  hr) ?_
  refine Goes.step (T2 := s₁) (g2 := (mkF m 11 #[rv a1, iv 1, iv 2, rv a1, rv a2, rv a3] [])) (fun _ hr => XS.icmpNo X0.here hx rfl (hb hby d4_8) rfl (tlt (by decide : (1 : Int32) < (2 : Int32))).2.1 hr) ?_
  refine Goes.step (T2 := s₁) (g2 := (mkF m 12 #[rv a1, iv 1, iv 2, rv a1, rv a2, rv a3] [(.ref a1)])) (fun _ hr => XS.aloadN X0.here hx rfl (hb hby d4_11) rfl rfl hr) ?_
  refine Goes.step (T2 := s₁) (g2 := (mkF m 13 #[rv a1, iv 1, iv 2, rv a1, rv a2, rv a3] [(.int (2 : Int32)), (.ref a1)])) (fun _ hr => XS.iloadN X0.here hx rfl (hb hby d4_12) rfl  hr) ?_
  refine Goes.step (T2 := s₁) (g2 := (mkF m 14 #[rv a1, iv 1, iv 2, rv a1, rv a2, rv a3] [(.int (1 : Int32)), (.int (2 : Int32)), (.ref a1)])) (fun _ hr => XS.iconst X0.here hx rfl (hb hby d4_13) hr) ?_
  refine Goes.step (T2 := s₁) (g2 := (mkF m 15 #[rv a1, iv 1, iv 2, rv a1, rv a2, rv a3] [(.int (1 : Int32)), (.ref a1)])) (fun _ hr => XS.isub X0.here hx rfl (hb hby d4_14) rfl hr) ?_
  refine Goes.step (T2 := s₁) (g2 := (mkF m 16 #[rv a1, iv 1, iv 2, rv a1, rv a2, rv a3] [(.int (1 : Int32)), (.int (1 : Int32)), (.ref a1)])) (fun _ hr => XS.iloadN X0.here hx rfl (hb hby d4_15) rfl  hr) ?_
  refine Goes.step (T2 := s₁) (g2 := (mkF m 17 #[rv a1, iv 1, iv 2, rv a1, rv a2, rv a3] [(.int (0 : Int32)), (.ref a1)])) (fun _ hr => XS.isub X0.here hx rfl (hb hby d4_16) rfl hr) ?_
  refine Goes.step (T2 := s₁) (g2 := (mkF m 18 #[rv a1, iv 1, iv 2, rv a1, rv a2, rv a3] [(.ref a1), (.int (0 : Int32)), (.ref a1)])) (fun _ hr => XS.aloadN X0.here hx rfl (hb hby d4_17) rfl rfl hr) ?_
  refine Goes.step (T2 := s₁) (g2 := (mkF m 20 #[rv a1, iv 1, iv 2, rv a1, rv a2, rv a3] [(.ref a2), (.ref a1), (.int (0 : Int32)), (.ref a1)])) (fun _ hr => XS.aload X0.here hx rfl (hb hby d4_18) rfl rfl hr) ?_
  refine Goes.step (T2 := s₁) (g2 := (mkF m 22 #[rv a1, iv 1, iv 2, rv a1, rv a2, rv a3] [(.ref a3), (.ref a2), (.ref a1), (.int (0 : Int32)), (.ref a1)])) (fun _ hr => XS.aload X0.here hx rfl (hb hby d4_20) rfl rfl hr) ?_
  have Zs72 : n0 ≤ h0.size := Nat.le_trans Z0 K0.1
  obtain ⟨_, _, ⟨T73, L73, k73, n73⟩, -, X73, ⟨Lc73, hQ73, l73, y73, z73⟩, st73⟩ := Jvm.LawKit.callS X0 hx (y := Y3) hown (mvT hZ (tw hw 31 rfl)) (mvT hZ (tw hw 32 rfl)) (mvT hZ (tw hw 23 rfl)) (mvT hZ (tw hw 33 rfl)) (by decide) (backOf (W := 1) (rm_pick0 l Z a0 hw [] a1 a2 a3 h0 n0 Zs72 (Old.keep O0 K0 hws)) hZ (tw hw 33 rfl) (tw hw 23 rfl) (by decide) (by decide)) (g := (mkF m 22 #[rv a1, iv 1, iv 2, rv a1, rv a2, rv a3] [(.ref a3), (.ref a2), (.ref a1), (.int (0 : Int32)), (.ref a1)])) rfl (by rw [hml]; rfl) (argsL := [(.int (0 : Int32)), (.ref a1), (.ref a2), (.ref a3)]) (rest := [(.ref a1)]) (lenOf pd_0 rfl) rfl (by show 2 * 0 + _ ≤ _; exact Nat.le_of_eq rfl) (hb hby d4_22) (fun _ _ => ⟨rfl, e0, (by decide : 0 + 0 ≤ _), (by decide : 0 + 0 ≤ _)⟩)
  dsimp only [Pt.U, Pt.locs, Pt.cells, Pt.slots] at X73 l73 y73 z73 st73 hQ73
  subst l73 y73 z73
  obtain ⟨rfl, N73q, e73⟩ := hQ73
  have N73 := Fr.app N0 N73q
  refine Goes.step (T2 := T73) (g2 := (mkF m 25 #[rv a1, iv 1, iv 2, rv a1, rv a2, rv a3] [(.ref a1), (.ref a1)])) st73 ?_
  refine Goes.step (T2 := T73) (g2 := (mkF m 28 #[rv a1, iv 1, iv 2, rv a1, rv a2, rv a3] [])) (fun _ hr => Jvm.RoadKit.acmp (g := (mkF m 25 #[rv a1, iv 1, iv 2, rv a1, rv a2, rv a3] [(.ref a1), (.ref a1)])) X73 hx rfl rfl rfl (pc0 := 25) (pc' := 28) (same := true) rfl (hb hby d4_25) rfl (decide_eq_true rfl) (by decide) (by decide) hr) ?_
  refine Goes.step (T2 := T73) (g2 := (mkF m 29 #[rv a1, iv 1, iv 2, rv a1, rv a2, rv a3] [(.int (1 : Int32))])) (fun _ hr => XS.iconst X73.here hx rfl (hb hby d4_28) hr) ?_
  refine Goes.step (T2 := T73) (g2 := (mkF m 33 #[rv a1, iv 1, iv 2, rv a1, rv a2, rv a3] [(.int (1 : Int32))])) (fun _ hr => XS.goto X73.here hx rfl (pc0 := 29) (pc' := 33) rfl (hb hby d4_29) (by decide) (by decide) hr) ?_
  exact Goes.ret (v := some (.int (1 : Int32))) X73 (by decide) (by decide) (fun h => by rw [Bd.returns] at h; cases h) ⟨rfl, N73, e73⟩ (fun fs hr => retN X73 hx (t := .boolean) Bd.returns (by simp) (hb hby d4_33) hr)
def Q_rm_exp22 (Z : State) (t1 : Addr) (a1 : Addr) (a2 : Addr) (a3 : Addr) (h0 : Heap) (n0 : Nat) (v : Option Value) (h : Heap) (L : List Loc) : Prop := v = some (.int (1 : Int32)) ∧ Fr n0 L ∧ h = h0
set_option maxRecDepth 65536 in
set_option maxHeartbeats 40000000 in
theorem rm_exp22 (l : Launch) (Z : State) (a0 : Array Value) (hw : ∀ d ∈ tables_1, d.before a0 Z = true) (ws : List Jvm.Cond) (t1 : Addr) (a1 : Addr) (a2 : Addr) (a3 : Addr) (h0 : Heap) (n0 : Nat) (Z0 : n0 ≤ h0.size) (O0 : Old Z n0 h0) (L_t1 : LenB Z h0 t1 (16384 : Int32)) (ne_t1_a1 : t1 ≠ a1) (ne_t1_a2 : t1 ≠ a2) (ne_t1_a3 : t1 ≠ a3) :
    MetFree l Y4 (head1 (Jvm.Cond.code Y4 method_4_code 6 (some .boolean) :: ws) ({ frames := 0, cells := 0, slots := 0, locals := 0 } : Room)) (fun a U => a = #[(.ref t1), (.int (2 : Int32)), (.int (2 : Int32)), (.ref a1), (.ref a2), (.ref a3)] ∧ Z.Warmed39 U.vm ∧ U.heap = h0) (fun _ _ _ _ _ => True) (fun _ U o U' => ∃ v L, o = .returned v ∧ Q_rm_exp22 Z t1 a1 a2 a3 h0 n0 v U'.heap L ∧ FrameEnd U o U' L ({ frames := 0, cells := 0, slots := 0, locals := 0 } : Room).cells ({ frames := 0, cells := 0, slots := 0, locals := 0 } : Room).slots) := by
  refine MetFree.of_bodySF (plainFor_of_name pn_com_example_api_policy_gateway_apipolicygateway_net_BufferPoolGivePinLaw) hisR ?_
  intro p e s m args below meth c s₁ Bd hml0 hP hK
  obtain ⟨rfl, hZ, hh⟩ := hP
  have hx := Bd.exec
  have hby := Bd.bytes
  have hml : c.maxLocals = 6 := hml0
  have hown : s.vm.findClass "com/example/api_policy_gateway/apipolicygateway/net/BufferPoolGivePinLaw" = some m.cls := findClass_of_methodNamed Bd.named
  have hnm := (name_of_methodNamed Bd.named Bd.method).1
  have X0 : Stand p l e ({ frames := 0, cells := 0, slots := 0, locals := 0 } : Room) s m #[(.ref t1), (.int (2 : Int32)), (.int (2 : Int32)), (.ref a1), (.ref a2), (.ref a3)] below meth c s₁ [] 0 0 := Stand.of_body Bd
  have e0 : s₁.heap = h0 := by rw [← hh, Bd.state]; rfl
  have N0 := Fr.nil n0
  refine Goes.out (l := l) (c := c) (R := ({ frames := 0, cells := 0, slots := 0, locals := 0 } : Room)) (Q := Q_rm_exp22 Z t1 a1 a2 a3 h0 n0) Bd.notSynchronized ?_
  refine Goes.cast (g2 := mkF m 0 #[rv t1, iv 2, iv 2, rv a1, rv a2, rv a3] []) (by first | (simp [entryFrame, mkF, argsToLocals, Value.category]; done) | rfl) ?_
  have K0 : Keep h0 h0 [] := Keep.refl h0 _
  have hws : ∀ x ∈ ([] : List Addr), n0 ≤ x := all0
  refine Goes.step (T2 := s₁) (g2 := (mkF m 1 #[rv t1, iv 2, iv 2, rv a1, rv a2, rv a3] [(.ref t1)])) (fun _ hr => XS.aloadN X0.here hx rfl (hb hby d4_0) rfl rfl hr) ?_
  refine Goes.step (T2 := s₁) (g2 := (mkF m 6 #[rv t1, iv 2, iv 2, rv a1, rv a2, rv a3] [])) (fun _ hr => Jvm.Free.XT.ifnonnullYes X0.here hx rfl (pc0 := 1) (pc' := 6) rfl (hb hby d4_1) rfl (by decide) (by decide) hr) ?_
  refine Goes.step (T2 := s₁) (g2 := (mkF m 7 #[rv t1, iv 2, iv 2, rv a1, rv a2, rv a3] [(.int (2 : Int32))])) (fun _ hr => XS.iloadN X0.here hx rfl (hb hby d4_6) rfl  hr) ?_
  refine Goes.step (T2 := s₁) (g2 := (mkF m 8 #[rv t1, iv 2, iv 2, rv a1, rv a2, rv a3] [(.int (2 : Int32)), (.int (2 : Int32))])) (fun _ hr => XS.iloadN X0.here hx rfl (hb hby d4_7) rfl  hr) ?_
  refine Goes.step (T2 := s₁) (g2 := (mkF m 34 #[rv t1, iv 2, iv 2, rv a1, rv a2, rv a3] [])) (fun _ hr => XS.icmpYes X0.here hx rfl (pc0 := 8) (pc' := 34) rfl (hb hby d4_8) rfl (flt (by decide : ¬ ((2 : Int32) < (2 : Int32)))).2.1 (by decide) (by decide) hr) ?_
  refine Goes.step (T2 := s₁) (g2 := (mkF m 35 #[rv t1, iv 2, iv 2, rv a1, rv a2, rv a3] [(.ref t1)])) (fun _ hr => XS.aloadN X0.here hx rfl (hb hby d4_34) rfl rfl hr) ?_
  obtain ⟨cl74, Ar74, S74, Nn74⟩ := id L_t1
  refine Goes.step (T2 := s₁) (g2 := (mkF m 36 #[rv t1, iv 2, iv 2, rv a1, rv a2, rv a3] [(.int (16384 : Int32))])) (fun t hr => X0.arraylength hx (own_at e0 Ar74.1) (State.isArrayOf_alike hZ.alike Ar74.2.1) (g := (mkF m 35 #[rv t1, iv 2, iv 2, rv a1, rv a2, rv a3] [(.ref t1)])) rfl rfl (hb hby d4_35) t (by rw [len_of S74 Nn74]; exact hr)) ?_
  refine Goes.step (T2 := s₁) (g2 := (mkF m 39 #[rv t1, iv 2, iv 2, rv a1, rv a2, rv a3] [(.int (16384 : Int32)), (.int (16384 : Int32))])) (fun _ hr => XS.sipush X0.here hx rfl (hb hby d4_36) hr) ?_
  refine Goes.step (T2 := s₁) (g2 := (mkF m 42 #[rv t1, iv 2, iv 2, rv a1, rv a2, rv a3] [])) (fun _ hr => XS.icmpNo X0.here hx rfl (hb hby d4_39) rfl (teq (by decide : (16384 : Int32) = (16384 : Int32))).2 hr) ?_
  refine Goes.step (T2 := s₁) (g2 := (mkF m 43 #[rv t1, iv 2, iv 2, rv a1, rv a2, rv a3] [(.ref t1)])) (fun _ hr => XS.aloadN X0.here hx rfl (hb hby d4_42) rfl rfl hr) ?_
  refine Goes.step (T2 := s₁) (g2 := (mkF m 44 #[rv t1, iv 2, iv 2, rv a1, rv a2, rv a3] [(.ref a1), (.ref t1)])) (fun _ hr => XS.aloadN X0.here hx rfl (hb hby d4_43) rfl rfl hr) ?_
  refine Goes.step (T2 := s₁) (g2 := (mkF m 47 #[rv t1, iv 2, iv 2, rv a1, rv a2, rv a3] [])) (fun _ hr => Jvm.RoadKit.acmp (g := (mkF m 44 #[rv t1, iv 2, iv 2, rv a1, rv a2, rv a3] [(.ref a1), (.ref t1)])) X0 hx rfl rfl rfl (pc0 := 44) (pc' := 47) (same := false) rfl (hb hby d4_44) rfl (decide_eq_false fun q => ne_t1_a1 (Value.ref.inj q)) (by decide) (by decide) hr) ?_
  refine Goes.step (T2 := s₁) (g2 := (mkF m 48 #[rv t1, iv 2, iv 2, rv a1, rv a2, rv a3] [(.ref t1)])) (fun _ hr => XS.aloadN X0.here hx rfl (hb hby d4_47) rfl rfl hr) ?_
  refine Goes.step (T2 := s₁) (g2 := (mkF m 50 #[rv t1, iv 2, iv 2, rv a1, rv a2, rv a3] [(.ref a2), (.ref t1)])) (fun _ hr => XS.aload X0.here hx rfl (hb hby d4_48) rfl rfl hr) ?_
  refine Goes.step (T2 := s₁) (g2 := (mkF m 53 #[rv t1, iv 2, iv 2, rv a1, rv a2, rv a3] [])) (fun _ hr => Jvm.RoadKit.acmp (g := (mkF m 50 #[rv t1, iv 2, iv 2, rv a1, rv a2, rv a3] [(.ref a2), (.ref t1)])) X0 hx rfl rfl rfl (pc0 := 50) (pc' := 53) (same := false) rfl (hb hby d4_50) rfl (decide_eq_false fun q => ne_t1_a2 (Value.ref.inj q)) (by decide) (by decide) hr) ?_
  refine Goes.step (T2 := s₁) (g2 := (mkF m 54 #[rv t1, iv 2, iv 2, rv a1, rv a2, rv a3] [(.ref t1)])) (fun _ hr => XS.aloadN X0.here hx rfl (hb hby d4_53) rfl rfl hr) ?_
  refine Goes.step (T2 := s₁) (g2 := (mkF m 56 #[rv t1, iv 2, iv 2, rv a1, rv a2, rv a3] [(.ref a3), (.ref t1)])) (fun _ hr => XS.aload X0.here hx rfl (hb hby d4_54) rfl rfl hr) ?_
  refine Goes.step (T2 := s₁) (g2 := (mkF m 59 #[rv t1, iv 2, iv 2, rv a1, rv a2, rv a3] [])) (fun _ hr => Jvm.RoadKit.acmp (g := (mkF m 56 #[rv t1, iv 2, iv 2, rv a1, rv a2, rv a3] [(.ref a3), (.ref t1)])) X0 hx rfl rfl rfl (pc0 := 56) (pc' := 59) (same := false) rfl (hb hby d4_56) rfl (decide_eq_false fun q => ne_t1_a3 (Value.ref.inj q)) (by decide) (by decide) hr) ?_
  refine Goes.step (T2 := s₁) (g2 := (mkF m 60 #[rv t1, iv 2, iv 2, rv a1, rv a2, rv a3] [(.int (1 : Int32))])) (fun _ hr => XS.iconst X0.here hx rfl (hb hby d4_59) hr) ?_
  refine Goes.step (T2 := s₁) (g2 := (mkF m 64 #[rv t1, iv 2, iv 2, rv a1, rv a2, rv a3] [(.int (1 : Int32))])) (fun _ hr => XS.goto X0.here hx rfl (pc0 := 60) (pc' := 64) rfl (hb hby d4_60) (by decide) (by decide) hr) ?_
  exact Goes.ret (v := some (.int (1 : Int32))) X0 (by decide) (by decide) (fun h => by rw [Bd.returns] at h; cases h) ⟨rfl, N0, e0⟩ (fun fs hr => retN X0 hx (t := .boolean) Bd.returns (by simp) (hb hby d4_64) hr)
def Q_rm_exp32 (Z : State) (t1 : Addr) (a1 : Addr) (a2 : Addr) (a3 : Addr) (h0 : Heap) (n0 : Nat) (v : Option Value) (h : Heap) (L : List Loc) : Prop := v = some (.int (1 : Int32)) ∧ Fr n0 L ∧ h = h0
set_option maxRecDepth 65536 in
set_option maxHeartbeats 40000000 in
theorem rm_exp32 (l : Launch) (Z : State) (a0 : Array Value) (hw : ∀ d ∈ tables_1, d.before a0 Z = true) (ws : List Jvm.Cond) (t1 : Addr) (a1 : Addr) (a2 : Addr) (a3 : Addr) (h0 : Heap) (n0 : Nat) (Z0 : n0 ≤ h0.size) (O0 : Old Z n0 h0) (L_t1 : LenB Z h0 t1 (16384 : Int32)) (ne_t1_a1 : t1 ≠ a1) (ne_t1_a2 : t1 ≠ a2) (ne_t1_a3 : t1 ≠ a3) :
    MetFree l Y4 (head1 (Jvm.Cond.code Y4 method_4_code 6 (some .boolean) :: ws) ({ frames := 0, cells := 0, slots := 0, locals := 0 } : Room)) (fun a U => a = #[(.ref t1), (.int (3 : Int32)), (.int (2 : Int32)), (.ref a1), (.ref a2), (.ref a3)] ∧ Z.Warmed39 U.vm ∧ U.heap = h0) (fun _ _ _ _ _ => True) (fun _ U o U' => ∃ v L, o = .returned v ∧ Q_rm_exp32 Z t1 a1 a2 a3 h0 n0 v U'.heap L ∧ FrameEnd U o U' L ({ frames := 0, cells := 0, slots := 0, locals := 0 } : Room).cells ({ frames := 0, cells := 0, slots := 0, locals := 0 } : Room).slots) := by
  refine MetFree.of_bodySF (plainFor_of_name pn_com_example_api_policy_gateway_apipolicygateway_net_BufferPoolGivePinLaw) hisR ?_
  intro p e s m args below meth c s₁ Bd hml0 hP hK
  obtain ⟨rfl, hZ, hh⟩ := hP
  have hx := Bd.exec
  have hby := Bd.bytes
  have hml : c.maxLocals = 6 := hml0
  have hown : s.vm.findClass "com/example/api_policy_gateway/apipolicygateway/net/BufferPoolGivePinLaw" = some m.cls := findClass_of_methodNamed Bd.named
  have hnm := (name_of_methodNamed Bd.named Bd.method).1
  have X0 : Stand p l e ({ frames := 0, cells := 0, slots := 0, locals := 0 } : Room) s m #[(.ref t1), (.int (3 : Int32)), (.int (2 : Int32)), (.ref a1), (.ref a2), (.ref a3)] below meth c s₁ [] 0 0 := Stand.of_body Bd
  have e0 : s₁.heap = h0 := by rw [← hh, Bd.state]; rfl
  have N0 := Fr.nil n0
  refine Goes.out (l := l) (c := c) (R := ({ frames := 0, cells := 0, slots := 0, locals := 0 } : Room)) (Q := Q_rm_exp32 Z t1 a1 a2 a3 h0 n0) Bd.notSynchronized ?_
  refine Goes.cast (g2 := mkF m 0 #[rv t1, iv 3, iv 2, rv a1, rv a2, rv a3] []) (by first | (simp [entryFrame, mkF, argsToLocals, Value.category]; done) | rfl) ?_
  have K0 : Keep h0 h0 [] := Keep.refl h0 _
  have hws : ∀ x ∈ ([] : List Addr), n0 ≤ x := all0
  refine Goes.step (T2 := s₁) (g2 := (mkF m 1 #[rv t1, iv 3, iv 2, rv a1, rv a2, rv a3] [(.ref t1)])) (fun _ hr => XS.aloadN X0.here hx rfl (hb hby d4_0) rfl rfl hr) ?_
  refine Goes.step (T2 := s₁) (g2 := (mkF m 6 #[rv t1, iv 3, iv 2, rv a1, rv a2, rv a3] [])) (fun _ hr => Jvm.Free.XT.ifnonnullYes X0.here hx rfl (pc0 := 1) (pc' := 6) rfl (hb hby d4_1) rfl (by decide) (by decide) hr) ?_
  refine Goes.step (T2 := s₁) (g2 := (mkF m 7 #[rv t1, iv 3, iv 2, rv a1, rv a2, rv a3] [(.int (3 : Int32))])) (fun _ hr => XS.iloadN X0.here hx rfl (hb hby d4_6) rfl  hr) ?_
  refine Goes.step (T2 := s₁) (g2 := (mkF m 8 #[rv t1, iv 3, iv 2, rv a1, rv a2, rv a3] [(.int (2 : Int32)), (.int (3 : Int32))])) (fun _ hr => XS.iloadN X0.here hx rfl (hb hby d4_7) rfl  hr) ?_
  refine Goes.step (T2 := s₁) (g2 := (mkF m 34 #[rv t1, iv 3, iv 2, rv a1, rv a2, rv a3] [])) (fun _ hr => XS.icmpYes X0.here hx rfl (pc0 := 8) (pc' := 34) rfl (hb hby d4_8) rfl (flt (by decide : ¬ ((3 : Int32) < (2 : Int32)))).2.1 (by decide) (by decide) hr) ?_
  refine Goes.step (T2 := s₁) (g2 := (mkF m 35 #[rv t1, iv 3, iv 2, rv a1, rv a2, rv a3] [(.ref t1)])) (fun _ hr => XS.aloadN X0.here hx rfl (hb hby d4_34) rfl rfl hr) ?_
  obtain ⟨cl75, Ar75, S75, Nn75⟩ := id L_t1
  refine Goes.step (T2 := s₁) (g2 := (mkF m 36 #[rv t1, iv 3, iv 2, rv a1, rv a2, rv a3] [(.int (16384 : Int32))])) (fun t hr => X0.arraylength hx (own_at e0 Ar75.1) (State.isArrayOf_alike hZ.alike Ar75.2.1) (g := (mkF m 35 #[rv t1, iv 3, iv 2, rv a1, rv a2, rv a3] [(.ref t1)])) rfl rfl (hb hby d4_35) t (by rw [len_of S75 Nn75]; exact hr)) ?_
  refine Goes.step (T2 := s₁) (g2 := (mkF m 39 #[rv t1, iv 3, iv 2, rv a1, rv a2, rv a3] [(.int (16384 : Int32)), (.int (16384 : Int32))])) (fun _ hr => XS.sipush X0.here hx rfl (hb hby d4_36) hr) ?_
  refine Goes.step (T2 := s₁) (g2 := (mkF m 42 #[rv t1, iv 3, iv 2, rv a1, rv a2, rv a3] [])) (fun _ hr => XS.icmpNo X0.here hx rfl (hb hby d4_39) rfl (teq (by decide : (16384 : Int32) = (16384 : Int32))).2 hr) ?_
  refine Goes.step (T2 := s₁) (g2 := (mkF m 43 #[rv t1, iv 3, iv 2, rv a1, rv a2, rv a3] [(.ref t1)])) (fun _ hr => XS.aloadN X0.here hx rfl (hb hby d4_42) rfl rfl hr) ?_
  refine Goes.step (T2 := s₁) (g2 := (mkF m 44 #[rv t1, iv 3, iv 2, rv a1, rv a2, rv a3] [(.ref a1), (.ref t1)])) (fun _ hr => XS.aloadN X0.here hx rfl (hb hby d4_43) rfl rfl hr) ?_
  refine Goes.step (T2 := s₁) (g2 := (mkF m 47 #[rv t1, iv 3, iv 2, rv a1, rv a2, rv a3] [])) (fun _ hr => Jvm.RoadKit.acmp (g := (mkF m 44 #[rv t1, iv 3, iv 2, rv a1, rv a2, rv a3] [(.ref a1), (.ref t1)])) X0 hx rfl rfl rfl (pc0 := 44) (pc' := 47) (same := false) rfl (hb hby d4_44) rfl (decide_eq_false fun q => ne_t1_a1 (Value.ref.inj q)) (by decide) (by decide) hr) ?_
  refine Goes.step (T2 := s₁) (g2 := (mkF m 48 #[rv t1, iv 3, iv 2, rv a1, rv a2, rv a3] [(.ref t1)])) (fun _ hr => XS.aloadN X0.here hx rfl (hb hby d4_47) rfl rfl hr) ?_
  refine Goes.step (T2 := s₁) (g2 := (mkF m 50 #[rv t1, iv 3, iv 2, rv a1, rv a2, rv a3] [(.ref a2), (.ref t1)])) (fun _ hr => XS.aload X0.here hx rfl (hb hby d4_48) rfl rfl hr) ?_
  refine Goes.step (T2 := s₁) (g2 := (mkF m 53 #[rv t1, iv 3, iv 2, rv a1, rv a2, rv a3] [])) (fun _ hr => Jvm.RoadKit.acmp (g := (mkF m 50 #[rv t1, iv 3, iv 2, rv a1, rv a2, rv a3] [(.ref a2), (.ref t1)])) X0 hx rfl rfl rfl (pc0 := 50) (pc' := 53) (same := false) rfl (hb hby d4_50) rfl (decide_eq_false fun q => ne_t1_a2 (Value.ref.inj q)) (by decide) (by decide) hr) ?_
  refine Goes.step (T2 := s₁) (g2 := (mkF m 54 #[rv t1, iv 3, iv 2, rv a1, rv a2, rv a3] [(.ref t1)])) (fun _ hr => XS.aloadN X0.here hx rfl (hb hby d4_53) rfl rfl hr) ?_
  refine Goes.step (T2 := s₁) (g2 := (mkF m 56 #[rv t1, iv 3, iv 2, rv a1, rv a2, rv a3] [(.ref a3), (.ref t1)])) (fun _ hr => XS.aload X0.here hx rfl (hb hby d4_54) rfl rfl hr) ?_
  refine Goes.step (T2 := s₁) (g2 := (mkF m 59 #[rv t1, iv 3, iv 2, rv a1, rv a2, rv a3] [])) (fun _ hr => Jvm.RoadKit.acmp (g := (mkF m 56 #[rv t1, iv 3, iv 2, rv a1, rv a2, rv a3] [(.ref a3), (.ref t1)])) X0 hx rfl rfl rfl (pc0 := 56) (pc' := 59) (same := false) rfl (hb hby d4_56) rfl (decide_eq_false fun q => ne_t1_a3 (Value.ref.inj q)) (by decide) (by decide) hr) ?_
  refine Goes.step (T2 := s₁) (g2 := (mkF m 60 #[rv t1, iv 3, iv 2, rv a1, rv a2, rv a3] [(.int (1 : Int32))])) (fun _ hr => XS.iconst X0.here hx rfl (hb hby d4_59) hr) ?_
  refine Goes.step (T2 := s₁) (g2 := (mkF m 64 #[rv t1, iv 3, iv 2, rv a1, rv a2, rv a3] [(.int (1 : Int32))])) (fun _ hr => XS.goto X0.here hx rfl (pc0 := 60) (pc' := 64) rfl (hb hby d4_60) (by decide) (by decide) hr) ?_
  exact Goes.ret (v := some (.int (1 : Int32))) X0 (by decide) (by decide) (fun h => by rw [Bd.returns] at h; cases h) ⟨rfl, N0, e0⟩ (fun fs hr => retN X0 hx (t := .boolean) Bd.returns (by simp) (hb hby d4_64) hr)
def Q_rm_exp03 (Z : State) (a1 : Addr) (a2 : Addr) (a3 : Addr) (h0 : Heap) (n0 : Nat) (v : Option Value) (h : Heap) (L : List Loc) : Prop := v = some (.int (1 : Int32)) ∧ Fr n0 L ∧ h = h0
set_option maxRecDepth 65536 in
set_option maxHeartbeats 40000000 in
theorem rm_exp03 (l : Launch) (Z : State) (a0 : Array Value) (hw : ∀ d ∈ tables_1, d.before a0 Z = true) (ws : List Jvm.Cond) (a1 : Addr) (a2 : Addr) (a3 : Addr) (h0 : Heap) (n0 : Nat) (Z0 : n0 ≤ h0.size) (O0 : Old Z n0 h0) :
    MetFree l Y4 (head1 (Jvm.Cond.code Y4 method_4_code 6 (some .boolean) :: ws) ({ frames := 1, cells := 0, slots := 0, locals := 16 } : Room)) (fun a U => a = #[(.ref a3), (.int (0 : Int32)), (.int (3 : Int32)), (.ref a1), (.ref a2), (.ref a3)] ∧ Z.Warmed39 U.vm ∧ U.heap = h0) (fun _ _ _ _ _ => True) (fun _ U o U' => ∃ v L, o = .returned v ∧ Q_rm_exp03 Z a1 a2 a3 h0 n0 v U'.heap L ∧ FrameEnd U o U' L ({ frames := 1, cells := 0, slots := 0, locals := 16 } : Room).cells ({ frames := 1, cells := 0, slots := 0, locals := 16 } : Room).slots) := by
  refine MetFree.of_bodySF (plainFor_of_name pn_com_example_api_policy_gateway_apipolicygateway_net_BufferPoolGivePinLaw) hisR ?_
  intro p e s m args below meth c s₁ Bd hml0 hP hK
  obtain ⟨rfl, hZ, hh⟩ := hP
  have hx := Bd.exec
  have hby := Bd.bytes
  have hml : c.maxLocals = 6 := hml0
  have hown : s.vm.findClass "com/example/api_policy_gateway/apipolicygateway/net/BufferPoolGivePinLaw" = some m.cls := findClass_of_methodNamed Bd.named
  have hnm := (name_of_methodNamed Bd.named Bd.method).1
  have X0 : Stand p l e ({ frames := 1, cells := 0, slots := 0, locals := 16 } : Room) s m #[(.ref a3), (.int (0 : Int32)), (.int (3 : Int32)), (.ref a1), (.ref a2), (.ref a3)] below meth c s₁ [] 0 0 := Stand.of_body Bd
  have e0 : s₁.heap = h0 := by rw [← hh, Bd.state]; rfl
  have N0 := Fr.nil n0
  refine Goes.out (l := l) (c := c) (R := ({ frames := 1, cells := 0, slots := 0, locals := 16 } : Room)) (Q := Q_rm_exp03 Z a1 a2 a3 h0 n0) Bd.notSynchronized ?_
  refine Goes.cast (g2 := mkF m 0 #[rv a3, iv 0, iv 3, rv a1, rv a2, rv a3] []) (by first | (simp [entryFrame, mkF, argsToLocals, Value.category]; done) | rfl) ?_
  have K0 : Keep h0 h0 [] := Keep.refl h0 _
  have hws : ∀ x ∈ ([] : List Addr), n0 ≤ x := all0
  refine Goes.step (T2 := s₁) (g2 := (mkF m 1 #[rv a3, iv 0, iv 3, rv a1, rv a2, rv a3] [(.ref a3)])) (fun _ hr => XS.aloadN X0.here hx rfl (hb hby d4_0) rfl rfl hr) ?_
  refine Goes.step (T2 := s₁) (g2 := (mkF m 6 #[rv a3, iv 0, iv 3, rv a1, rv a2, rv a3] [])) (fun _ hr => Jvm.Free.XT.ifnonnullYes X0.here hx rfl (pc0 := 1) (pc' := 6) rfl (hb hby d4_1) rfl (by decide) (by decide) hr) ?_
  refine Goes.step (T2 := s₁) (g2 := (mkF m 7 #[rv a3, iv 0, iv 3, rv a1, rv a2, rv a3] [(.int (0 : Int32))])) (fun _ hr => XS.iloadN X0.here hx rfl (hb hby d4_6) rfl  hr) ?_
  refine Goes.step (T2 := s₁) (g2 := (mkF m 8 #[rv a3, iv 0, iv 3, rv a1, rv a2, rv a3] [(.int (3 : Int32)), (.int (0 : Int32))])) (fun _ hr => XS.iloadN X0.here hx rfl (hb hby d4_7) rfl  hr) ?_
  refine Goes.step (T2 := s₁) (g2 := (mkF m 11 #[rv a3, iv 0, iv 3, rv a1, rv a2, rv a3] [])) (fun _ hr => XS.icmpNo X0.here hx rfl (hb hby d4_8) rfl (tlt (by decide : (0 : Int32) < (3 : Int32))).2.1 hr) ?_
  refine Goes.step (T2 := s₁) (g2 := (mkF m 12 #[rv a3, iv 0, iv 3, rv a1, rv a2, rv a3] [(.ref a3)])) (fun _ hr => XS.aloadN X0.here hx rfl (hb hby d4_11) rfl rfl hr) ?_
  refine Goes.step (T2 := s₁) (g2 := (mkF m 13 #[rv a3, iv 0, iv 3, rv a1, rv a2, rv a3] [(.int (3 : Int32)), (.ref a3)])) (fun _ hr => XS.iloadN X0.here hx rfl (hb hby d4_12) rfl  hr) ?_
  refine Goes.step (T2 := s₁) (g2 := (mkF m 14 #[rv a3, iv 0, iv 3, rv a1, rv a2, rv a3] [(.int (1 : Int32)), (.int (3 : Int32)), (.ref a3)])) (fun _ hr => XS.iconst X0.here hx rfl (hb hby d4_13) hr) ?_
  refine Goes.step (T2 := s₁) (g2 := (mkF m 15 #[rv a3, iv 0, iv 3, rv a1, rv a2, rv a3] [(.int (2 : Int32)), (.ref a3)])) (fun _ hr => XS.isub X0.here hx rfl (hb hby d4_14) rfl hr) ?_
  refine Goes.step (T2 := s₁) (g2 := (mkF m 16 #[rv a3, iv 0, iv 3, rv a1, rv a2, rv a3] [(.int (0 : Int32)), (.int (2 : Int32)), (.ref a3)])) (fun _ hr => XS.iloadN X0.here hx rfl (hb hby d4_15) rfl  hr) ?_
  refine Goes.step (T2 := s₁) (g2 := (mkF m 17 #[rv a3, iv 0, iv 3, rv a1, rv a2, rv a3] [(.int (2 : Int32)), (.ref a3)])) (fun _ hr => XS.isub X0.here hx rfl (hb hby d4_16) rfl hr) ?_
  refine Goes.step (T2 := s₁) (g2 := (mkF m 18 #[rv a3, iv 0, iv 3, rv a1, rv a2, rv a3] [(.ref a1), (.int (2 : Int32)), (.ref a3)])) (fun _ hr => XS.aloadN X0.here hx rfl (hb hby d4_17) rfl rfl hr) ?_
  refine Goes.step (T2 := s₁) (g2 := (mkF m 20 #[rv a3, iv 0, iv 3, rv a1, rv a2, rv a3] [(.ref a2), (.ref a1), (.int (2 : Int32)), (.ref a3)])) (fun _ hr => XS.aload X0.here hx rfl (hb hby d4_18) rfl rfl hr) ?_
  refine Goes.step (T2 := s₁) (g2 := (mkF m 22 #[rv a3, iv 0, iv 3, rv a1, rv a2, rv a3] [(.ref a3), (.ref a2), (.ref a1), (.int (2 : Int32)), (.ref a3)])) (fun _ hr => XS.aload X0.here hx rfl (hb hby d4_20) rfl rfl hr) ?_
  have Zs76 : n0 ≤ h0.size := Nat.le_trans Z0 K0.1
  obtain ⟨_, _, ⟨T77, L77, k77, n77⟩, -, X77, ⟨Lc77, hQ77, l77, y77, z77⟩, st77⟩ := Jvm.LawKit.callS X0 hx (y := Y3) hown (mvT hZ (tw hw 31 rfl)) (mvT hZ (tw hw 32 rfl)) (mvT hZ (tw hw 23 rfl)) (mvT hZ (tw hw 33 rfl)) (by decide) (backOf (W := 1) (rm_pick2 l Z a0 hw [] a1 a2 a3 h0 n0 Zs76 (Old.keep O0 K0 hws)) hZ (tw hw 33 rfl) (tw hw 23 rfl) (by decide) (by decide)) (g := (mkF m 22 #[rv a3, iv 0, iv 3, rv a1, rv a2, rv a3] [(.ref a3), (.ref a2), (.ref a1), (.int (2 : Int32)), (.ref a3)])) rfl (by rw [hml]; rfl) (argsL := [(.int (2 : Int32)), (.ref a1), (.ref a2), (.ref a3)]) (rest := [(.ref a3)]) (lenOf pd_0 rfl) rfl (by show 2 * 0 + _ ≤ _; exact Nat.le_of_eq rfl) (hb hby d4_22) (fun _ _ => ⟨rfl, e0, (by decide : 0 + 0 ≤ _), (by decide : 0 + 0 ≤ _)⟩)
  dsimp only [Pt.U, Pt.locs, Pt.cells, Pt.slots] at X77 l77 y77 z77 st77 hQ77
  subst l77 y77 z77
  obtain ⟨rfl, N77q, e77⟩ := hQ77
  have N77 := Fr.app N0 N77q
  refine Goes.step (T2 := T77) (g2 := (mkF m 25 #[rv a3, iv 0, iv 3, rv a1, rv a2, rv a3] [(.ref a3), (.ref a3)])) st77 ?_
  refine Goes.step (T2 := T77) (g2 := (mkF m 28 #[rv a3, iv 0, iv 3, rv a1, rv a2, rv a3] [])) (fun _ hr => Jvm.RoadKit.acmp (g := (mkF m 25 #[rv a3, iv 0, iv 3, rv a1, rv a2, rv a3] [(.ref a3), (.ref a3)])) X77 hx rfl rfl rfl (pc0 := 25) (pc' := 28) (same := true) rfl (hb hby d4_25) rfl (decide_eq_true rfl) (by decide) (by decide) hr) ?_
  refine Goes.step (T2 := T77) (g2 := (mkF m 29 #[rv a3, iv 0, iv 3, rv a1, rv a2, rv a3] [(.int (1 : Int32))])) (fun _ hr => XS.iconst X77.here hx rfl (hb hby d4_28) hr) ?_
  refine Goes.step (T2 := T77) (g2 := (mkF m 33 #[rv a3, iv 0, iv 3, rv a1, rv a2, rv a3] [(.int (1 : Int32))])) (fun _ hr => XS.goto X77.here hx rfl (pc0 := 29) (pc' := 33) rfl (hb hby d4_29) (by decide) (by decide) hr) ?_
  exact Goes.ret (v := some (.int (1 : Int32))) X77 (by decide) (by decide) (fun h => by rw [Bd.returns] at h; cases h) ⟨rfl, N77, e77⟩ (fun fs hr => retN X77 hx (t := .boolean) Bd.returns (by simp) (hb hby d4_33) hr)
def Q_rm_exp13 (Z : State) (a1 : Addr) (a2 : Addr) (a3 : Addr) (h0 : Heap) (n0 : Nat) (v : Option Value) (h : Heap) (L : List Loc) : Prop := v = some (.int (1 : Int32)) ∧ Fr n0 L ∧ h = h0
set_option maxRecDepth 65536 in
set_option maxHeartbeats 40000000 in
theorem rm_exp13 (l : Launch) (Z : State) (a0 : Array Value) (hw : ∀ d ∈ tables_1, d.before a0 Z = true) (ws : List Jvm.Cond) (a1 : Addr) (a2 : Addr) (a3 : Addr) (h0 : Heap) (n0 : Nat) (Z0 : n0 ≤ h0.size) (O0 : Old Z n0 h0) :
    MetFree l Y4 (head1 (Jvm.Cond.code Y4 method_4_code 6 (some .boolean) :: ws) ({ frames := 1, cells := 0, slots := 0, locals := 16 } : Room)) (fun a U => a = #[(.ref a2), (.int (1 : Int32)), (.int (3 : Int32)), (.ref a1), (.ref a2), (.ref a3)] ∧ Z.Warmed39 U.vm ∧ U.heap = h0) (fun _ _ _ _ _ => True) (fun _ U o U' => ∃ v L, o = .returned v ∧ Q_rm_exp13 Z a1 a2 a3 h0 n0 v U'.heap L ∧ FrameEnd U o U' L ({ frames := 1, cells := 0, slots := 0, locals := 16 } : Room).cells ({ frames := 1, cells := 0, slots := 0, locals := 16 } : Room).slots) := by
  refine MetFree.of_bodySF (plainFor_of_name pn_com_example_api_policy_gateway_apipolicygateway_net_BufferPoolGivePinLaw) hisR ?_
  intro p e s m args below meth c s₁ Bd hml0 hP hK
  obtain ⟨rfl, hZ, hh⟩ := hP
  have hx := Bd.exec
  have hby := Bd.bytes
  have hml : c.maxLocals = 6 := hml0
  have hown : s.vm.findClass "com/example/api_policy_gateway/apipolicygateway/net/BufferPoolGivePinLaw" = some m.cls := findClass_of_methodNamed Bd.named
  have hnm := (name_of_methodNamed Bd.named Bd.method).1
  have X0 : Stand p l e ({ frames := 1, cells := 0, slots := 0, locals := 16 } : Room) s m #[(.ref a2), (.int (1 : Int32)), (.int (3 : Int32)), (.ref a1), (.ref a2), (.ref a3)] below meth c s₁ [] 0 0 := Stand.of_body Bd
  have e0 : s₁.heap = h0 := by rw [← hh, Bd.state]; rfl
  have N0 := Fr.nil n0
  refine Goes.out (l := l) (c := c) (R := ({ frames := 1, cells := 0, slots := 0, locals := 16 } : Room)) (Q := Q_rm_exp13 Z a1 a2 a3 h0 n0) Bd.notSynchronized ?_
  refine Goes.cast (g2 := mkF m 0 #[rv a2, iv 1, iv 3, rv a1, rv a2, rv a3] []) (by first | (simp [entryFrame, mkF, argsToLocals, Value.category]; done) | rfl) ?_
  have K0 : Keep h0 h0 [] := Keep.refl h0 _
  have hws : ∀ x ∈ ([] : List Addr), n0 ≤ x := all0
  refine Goes.step (T2 := s₁) (g2 := (mkF m 1 #[rv a2, iv 1, iv 3, rv a1, rv a2, rv a3] [(.ref a2)])) (fun _ hr => XS.aloadN X0.here hx rfl (hb hby d4_0) rfl rfl hr) ?_
  refine Goes.step (T2 := s₁) (g2 := (mkF m 6 #[rv a2, iv 1, iv 3, rv a1, rv a2, rv a3] [])) (fun _ hr => Jvm.Free.XT.ifnonnullYes X0.here hx rfl (pc0 := 1) (pc' := 6) rfl (hb hby d4_1) rfl (by decide) (by decide) hr) ?_
  refine Goes.step (T2 := s₁) (g2 := (mkF m 7 #[rv a2, iv 1, iv 3, rv a1, rv a2, rv a3] [(.int (1 : Int32))])) (fun _ hr => XS.iloadN X0.here hx rfl (hb hby d4_6) rfl  hr) ?_
  refine Goes.step (T2 := s₁) (g2 := (mkF m 8 #[rv a2, iv 1, iv 3, rv a1, rv a2, rv a3] [(.int (3 : Int32)), (.int (1 : Int32))])) (fun _ hr => XS.iloadN X0.here hx rfl (hb hby d4_7) rfl  hr) ?_
  refine Goes.step (T2 := s₁) (g2 := (mkF m 11 #[rv a2, iv 1, iv 3, rv a1, rv a2, rv a3] [])) (fun _ hr => XS.icmpNo X0.here hx rfl (hb hby d4_8) rfl (tlt (by decide : (1 : Int32) < (3 : Int32))).2.1 hr) ?_
  refine Goes.step (T2 := s₁) (g2 := (mkF m 12 #[rv a2, iv 1, iv 3, rv a1, rv a2, rv a3] [(.ref a2)])) (fun _ hr => XS.aloadN X0.here hx rfl (hb hby d4_11) rfl rfl hr) ?_
  refine Goes.step (T2 := s₁) (g2 := (mkF m 13 #[rv a2, iv 1, iv 3, rv a1, rv a2, rv a3] [(.int (3 : Int32)), (.ref a2)])) (fun _ hr => XS.iloadN X0.here hx rfl (hb hby d4_12) rfl  hr) ?_
  refine Goes.step (T2 := s₁) (g2 := (mkF m 14 #[rv a2, iv 1, iv 3, rv a1, rv a2, rv a3] [(.int (1 : Int32)), (.int (3 : Int32)), (.ref a2)])) (fun _ hr => XS.iconst X0.here hx rfl (hb hby d4_13) hr) ?_
  refine Goes.step (T2 := s₁) (g2 := (mkF m 15 #[rv a2, iv 1, iv 3, rv a1, rv a2, rv a3] [(.int (2 : Int32)), (.ref a2)])) (fun _ hr => XS.isub X0.here hx rfl (hb hby d4_14) rfl hr) ?_
  refine Goes.step (T2 := s₁) (g2 := (mkF m 16 #[rv a2, iv 1, iv 3, rv a1, rv a2, rv a3] [(.int (1 : Int32)), (.int (2 : Int32)), (.ref a2)])) (fun _ hr => XS.iloadN X0.here hx rfl (hb hby d4_15) rfl  hr) ?_
  refine Goes.step (T2 := s₁) (g2 := (mkF m 17 #[rv a2, iv 1, iv 3, rv a1, rv a2, rv a3] [(.int (1 : Int32)), (.ref a2)])) (fun _ hr => XS.isub X0.here hx rfl (hb hby d4_16) rfl hr) ?_
  refine Goes.step (T2 := s₁) (g2 := (mkF m 18 #[rv a2, iv 1, iv 3, rv a1, rv a2, rv a3] [(.ref a1), (.int (1 : Int32)), (.ref a2)])) (fun _ hr => XS.aloadN X0.here hx rfl (hb hby d4_17) rfl rfl hr) ?_
  refine Goes.step (T2 := s₁) (g2 := (mkF m 20 #[rv a2, iv 1, iv 3, rv a1, rv a2, rv a3] [(.ref a2), (.ref a1), (.int (1 : Int32)), (.ref a2)])) (fun _ hr => XS.aload X0.here hx rfl (hb hby d4_18) rfl rfl hr) ?_
  refine Goes.step (T2 := s₁) (g2 := (mkF m 22 #[rv a2, iv 1, iv 3, rv a1, rv a2, rv a3] [(.ref a3), (.ref a2), (.ref a1), (.int (1 : Int32)), (.ref a2)])) (fun _ hr => XS.aload X0.here hx rfl (hb hby d4_20) rfl rfl hr) ?_
  have Zs78 : n0 ≤ h0.size := Nat.le_trans Z0 K0.1
  obtain ⟨_, _, ⟨T79, L79, k79, n79⟩, -, X79, ⟨Lc79, hQ79, l79, y79, z79⟩, st79⟩ := Jvm.LawKit.callS X0 hx (y := Y3) hown (mvT hZ (tw hw 31 rfl)) (mvT hZ (tw hw 32 rfl)) (mvT hZ (tw hw 23 rfl)) (mvT hZ (tw hw 33 rfl)) (by decide) (backOf (W := 1) (rm_pick1 l Z a0 hw [] a1 a2 a3 h0 n0 Zs78 (Old.keep O0 K0 hws)) hZ (tw hw 33 rfl) (tw hw 23 rfl) (by decide) (by decide)) (g := (mkF m 22 #[rv a2, iv 1, iv 3, rv a1, rv a2, rv a3] [(.ref a3), (.ref a2), (.ref a1), (.int (1 : Int32)), (.ref a2)])) rfl (by rw [hml]; rfl) (argsL := [(.int (1 : Int32)), (.ref a1), (.ref a2), (.ref a3)]) (rest := [(.ref a2)]) (lenOf pd_0 rfl) rfl (by show 2 * 0 + _ ≤ _; exact Nat.le_of_eq rfl) (hb hby d4_22) (fun _ _ => ⟨rfl, e0, (by decide : 0 + 0 ≤ _), (by decide : 0 + 0 ≤ _)⟩)
  dsimp only [Pt.U, Pt.locs, Pt.cells, Pt.slots] at X79 l79 y79 z79 st79 hQ79
  subst l79 y79 z79
  obtain ⟨rfl, N79q, e79⟩ := hQ79
  have N79 := Fr.app N0 N79q
  refine Goes.step (T2 := T79) (g2 := (mkF m 25 #[rv a2, iv 1, iv 3, rv a1, rv a2, rv a3] [(.ref a2), (.ref a2)])) st79 ?_
  refine Goes.step (T2 := T79) (g2 := (mkF m 28 #[rv a2, iv 1, iv 3, rv a1, rv a2, rv a3] [])) (fun _ hr => Jvm.RoadKit.acmp (g := (mkF m 25 #[rv a2, iv 1, iv 3, rv a1, rv a2, rv a3] [(.ref a2), (.ref a2)])) X79 hx rfl rfl rfl (pc0 := 25) (pc' := 28) (same := true) rfl (hb hby d4_25) rfl (decide_eq_true rfl) (by decide) (by decide) hr) ?_
  refine Goes.step (T2 := T79) (g2 := (mkF m 29 #[rv a2, iv 1, iv 3, rv a1, rv a2, rv a3] [(.int (1 : Int32))])) (fun _ hr => XS.iconst X79.here hx rfl (hb hby d4_28) hr) ?_
  refine Goes.step (T2 := T79) (g2 := (mkF m 33 #[rv a2, iv 1, iv 3, rv a1, rv a2, rv a3] [(.int (1 : Int32))])) (fun _ hr => XS.goto X79.here hx rfl (pc0 := 29) (pc' := 33) rfl (hb hby d4_29) (by decide) (by decide) hr) ?_
  exact Goes.ret (v := some (.int (1 : Int32))) X79 (by decide) (by decide) (fun h => by rw [Bd.returns] at h; cases h) ⟨rfl, N79, e79⟩ (fun fs hr => retN X79 hx (t := .boolean) Bd.returns (by simp) (hb hby d4_33) hr)
def Q_rm_exp23 (Z : State) (a1 : Addr) (a2 : Addr) (a3 : Addr) (h0 : Heap) (n0 : Nat) (v : Option Value) (h : Heap) (L : List Loc) : Prop := v = some (.int (1 : Int32)) ∧ Fr n0 L ∧ h = h0
set_option maxRecDepth 65536 in
set_option maxHeartbeats 40000000 in
theorem rm_exp23 (l : Launch) (Z : State) (a0 : Array Value) (hw : ∀ d ∈ tables_1, d.before a0 Z = true) (ws : List Jvm.Cond) (a1 : Addr) (a2 : Addr) (a3 : Addr) (h0 : Heap) (n0 : Nat) (Z0 : n0 ≤ h0.size) (O0 : Old Z n0 h0) :
    MetFree l Y4 (head1 (Jvm.Cond.code Y4 method_4_code 6 (some .boolean) :: ws) ({ frames := 1, cells := 0, slots := 0, locals := 16 } : Room)) (fun a U => a = #[(.ref a1), (.int (2 : Int32)), (.int (3 : Int32)), (.ref a1), (.ref a2), (.ref a3)] ∧ Z.Warmed39 U.vm ∧ U.heap = h0) (fun _ _ _ _ _ => True) (fun _ U o U' => ∃ v L, o = .returned v ∧ Q_rm_exp23 Z a1 a2 a3 h0 n0 v U'.heap L ∧ FrameEnd U o U' L ({ frames := 1, cells := 0, slots := 0, locals := 16 } : Room).cells ({ frames := 1, cells := 0, slots := 0, locals := 16 } : Room).slots) := by
  refine MetFree.of_bodySF (plainFor_of_name pn_com_example_api_policy_gateway_apipolicygateway_net_BufferPoolGivePinLaw) hisR ?_
  intro p e s m args below meth c s₁ Bd hml0 hP hK
  obtain ⟨rfl, hZ, hh⟩ := hP
  have hx := Bd.exec
  have hby := Bd.bytes
  have hml : c.maxLocals = 6 := hml0
  have hown : s.vm.findClass "com/example/api_policy_gateway/apipolicygateway/net/BufferPoolGivePinLaw" = some m.cls := findClass_of_methodNamed Bd.named
  have hnm := (name_of_methodNamed Bd.named Bd.method).1
  have X0 : Stand p l e ({ frames := 1, cells := 0, slots := 0, locals := 16 } : Room) s m #[(.ref a1), (.int (2 : Int32)), (.int (3 : Int32)), (.ref a1), (.ref a2), (.ref a3)] below meth c s₁ [] 0 0 := Stand.of_body Bd
  have e0 : s₁.heap = h0 := by rw [← hh, Bd.state]; rfl
  have N0 := Fr.nil n0
  refine Goes.out (l := l) (c := c) (R := ({ frames := 1, cells := 0, slots := 0, locals := 16 } : Room)) (Q := Q_rm_exp23 Z a1 a2 a3 h0 n0) Bd.notSynchronized ?_
  refine Goes.cast (g2 := mkF m 0 #[rv a1, iv 2, iv 3, rv a1, rv a2, rv a3] []) (by first | (simp [entryFrame, mkF, argsToLocals, Value.category]; done) | rfl) ?_
  have K0 : Keep h0 h0 [] := Keep.refl h0 _
  have hws : ∀ x ∈ ([] : List Addr), n0 ≤ x := all0
  refine Goes.step (T2 := s₁) (g2 := (mkF m 1 #[rv a1, iv 2, iv 3, rv a1, rv a2, rv a3] [(.ref a1)])) (fun _ hr => XS.aloadN X0.here hx rfl (hb hby d4_0) rfl rfl hr) ?_
  refine Goes.step (T2 := s₁) (g2 := (mkF m 6 #[rv a1, iv 2, iv 3, rv a1, rv a2, rv a3] [])) (fun _ hr => Jvm.Free.XT.ifnonnullYes X0.here hx rfl (pc0 := 1) (pc' := 6) rfl (hb hby d4_1) rfl (by decide) (by decide) hr) ?_
  refine Goes.step (T2 := s₁) (g2 := (mkF m 7 #[rv a1, iv 2, iv 3, rv a1, rv a2, rv a3] [(.int (2 : Int32))])) (fun _ hr => XS.iloadN X0.here hx rfl (hb hby d4_6) rfl  hr) ?_
  refine Goes.step (T2 := s₁) (g2 := (mkF m 8 #[rv a1, iv 2, iv 3, rv a1, rv a2, rv a3] [(.int (3 : Int32)), (.int (2 : Int32))])) (fun _ hr => XS.iloadN X0.here hx rfl (hb hby d4_7) rfl  hr) ?_
  refine Goes.step (T2 := s₁) (g2 := (mkF m 11 #[rv a1, iv 2, iv 3, rv a1, rv a2, rv a3] [])) (fun _ hr => XS.icmpNo X0.here hx rfl (hb hby d4_8) rfl (tlt (by decide : (2 : Int32) < (3 : Int32))).2.1 hr) ?_
  refine Goes.step (T2 := s₁) (g2 := (mkF m 12 #[rv a1, iv 2, iv 3, rv a1, rv a2, rv a3] [(.ref a1)])) (fun _ hr => XS.aloadN X0.here hx rfl (hb hby d4_11) rfl rfl hr) ?_
  refine Goes.step (T2 := s₁) (g2 := (mkF m 13 #[rv a1, iv 2, iv 3, rv a1, rv a2, rv a3] [(.int (3 : Int32)), (.ref a1)])) (fun _ hr => XS.iloadN X0.here hx rfl (hb hby d4_12) rfl  hr) ?_
  refine Goes.step (T2 := s₁) (g2 := (mkF m 14 #[rv a1, iv 2, iv 3, rv a1, rv a2, rv a3] [(.int (1 : Int32)), (.int (3 : Int32)), (.ref a1)])) (fun _ hr => XS.iconst X0.here hx rfl (hb hby d4_13) hr) ?_
  refine Goes.step (T2 := s₁) (g2 := (mkF m 15 #[rv a1, iv 2, iv 3, rv a1, rv a2, rv a3] [(.int (2 : Int32)), (.ref a1)])) (fun _ hr => XS.isub X0.here hx rfl (hb hby d4_14) rfl hr) ?_
  refine Goes.step (T2 := s₁) (g2 := (mkF m 16 #[rv a1, iv 2, iv 3, rv a1, rv a2, rv a3] [(.int (2 : Int32)), (.int (2 : Int32)), (.ref a1)])) (fun _ hr => XS.iloadN X0.here hx rfl (hb hby d4_15) rfl  hr) ?_
  refine Goes.step (T2 := s₁) (g2 := (mkF m 17 #[rv a1, iv 2, iv 3, rv a1, rv a2, rv a3] [(.int (0 : Int32)), (.ref a1)])) (fun _ hr => XS.isub X0.here hx rfl (hb hby d4_16) rfl hr) ?_
  refine Goes.step (T2 := s₁) (g2 := (mkF m 18 #[rv a1, iv 2, iv 3, rv a1, rv a2, rv a3] [(.ref a1), (.int (0 : Int32)), (.ref a1)])) (fun _ hr => XS.aloadN X0.here hx rfl (hb hby d4_17) rfl rfl hr) ?_
  refine Goes.step (T2 := s₁) (g2 := (mkF m 20 #[rv a1, iv 2, iv 3, rv a1, rv a2, rv a3] [(.ref a2), (.ref a1), (.int (0 : Int32)), (.ref a1)])) (fun _ hr => XS.aload X0.here hx rfl (hb hby d4_18) rfl rfl hr) ?_
  refine Goes.step (T2 := s₁) (g2 := (mkF m 22 #[rv a1, iv 2, iv 3, rv a1, rv a2, rv a3] [(.ref a3), (.ref a2), (.ref a1), (.int (0 : Int32)), (.ref a1)])) (fun _ hr => XS.aload X0.here hx rfl (hb hby d4_20) rfl rfl hr) ?_
  have Zs80 : n0 ≤ h0.size := Nat.le_trans Z0 K0.1
  obtain ⟨_, _, ⟨T81, L81, k81, n81⟩, -, X81, ⟨Lc81, hQ81, l81, y81, z81⟩, st81⟩ := Jvm.LawKit.callS X0 hx (y := Y3) hown (mvT hZ (tw hw 31 rfl)) (mvT hZ (tw hw 32 rfl)) (mvT hZ (tw hw 23 rfl)) (mvT hZ (tw hw 33 rfl)) (by decide) (backOf (W := 1) (rm_pick0 l Z a0 hw [] a1 a2 a3 h0 n0 Zs80 (Old.keep O0 K0 hws)) hZ (tw hw 33 rfl) (tw hw 23 rfl) (by decide) (by decide)) (g := (mkF m 22 #[rv a1, iv 2, iv 3, rv a1, rv a2, rv a3] [(.ref a3), (.ref a2), (.ref a1), (.int (0 : Int32)), (.ref a1)])) rfl (by rw [hml]; rfl) (argsL := [(.int (0 : Int32)), (.ref a1), (.ref a2), (.ref a3)]) (rest := [(.ref a1)]) (lenOf pd_0 rfl) rfl (by show 2 * 0 + _ ≤ _; exact Nat.le_of_eq rfl) (hb hby d4_22) (fun _ _ => ⟨rfl, e0, (by decide : 0 + 0 ≤ _), (by decide : 0 + 0 ≤ _)⟩)
  dsimp only [Pt.U, Pt.locs, Pt.cells, Pt.slots] at X81 l81 y81 z81 st81 hQ81
  subst l81 y81 z81
  obtain ⟨rfl, N81q, e81⟩ := hQ81
  have N81 := Fr.app N0 N81q
  refine Goes.step (T2 := T81) (g2 := (mkF m 25 #[rv a1, iv 2, iv 3, rv a1, rv a2, rv a3] [(.ref a1), (.ref a1)])) st81 ?_
  refine Goes.step (T2 := T81) (g2 := (mkF m 28 #[rv a1, iv 2, iv 3, rv a1, rv a2, rv a3] [])) (fun _ hr => Jvm.RoadKit.acmp (g := (mkF m 25 #[rv a1, iv 2, iv 3, rv a1, rv a2, rv a3] [(.ref a1), (.ref a1)])) X81 hx rfl rfl rfl (pc0 := 25) (pc' := 28) (same := true) rfl (hb hby d4_25) rfl (decide_eq_true rfl) (by decide) (by decide) hr) ?_
  refine Goes.step (T2 := T81) (g2 := (mkF m 29 #[rv a1, iv 2, iv 3, rv a1, rv a2, rv a3] [(.int (1 : Int32))])) (fun _ hr => XS.iconst X81.here hx rfl (hb hby d4_28) hr) ?_
  refine Goes.step (T2 := T81) (g2 := (mkF m 33 #[rv a1, iv 2, iv 3, rv a1, rv a2, rv a3] [(.int (1 : Int32))])) (fun _ hr => XS.goto X81.here hx rfl (pc0 := 29) (pc' := 33) rfl (hb hby d4_29) (by decide) (by decide) hr) ?_
  exact Goes.ret (v := some (.int (1 : Int32))) X81 (by decide) (by decide) (fun h => by rw [Bd.returns] at h; cases h) ⟨rfl, N81, e81⟩ (fun fs hr => retN X81 hx (t := .boolean) Bd.returns (by simp) (hb hby d4_33) hr)
def Q_rm_exp33 (Z : State) (t1 : Addr) (a1 : Addr) (a2 : Addr) (a3 : Addr) (h0 : Heap) (n0 : Nat) (v : Option Value) (h : Heap) (L : List Loc) : Prop := v = some (.int (1 : Int32)) ∧ Fr n0 L ∧ h = h0
set_option maxRecDepth 65536 in
set_option maxHeartbeats 40000000 in
theorem rm_exp33 (l : Launch) (Z : State) (a0 : Array Value) (hw : ∀ d ∈ tables_1, d.before a0 Z = true) (ws : List Jvm.Cond) (t1 : Addr) (a1 : Addr) (a2 : Addr) (a3 : Addr) (h0 : Heap) (n0 : Nat) (Z0 : n0 ≤ h0.size) (O0 : Old Z n0 h0) (L_t1 : LenB Z h0 t1 (16384 : Int32)) (ne_t1_a1 : t1 ≠ a1) (ne_t1_a2 : t1 ≠ a2) (ne_t1_a3 : t1 ≠ a3) :
    MetFree l Y4 (head1 (Jvm.Cond.code Y4 method_4_code 6 (some .boolean) :: ws) ({ frames := 0, cells := 0, slots := 0, locals := 0 } : Room)) (fun a U => a = #[(.ref t1), (.int (3 : Int32)), (.int (3 : Int32)), (.ref a1), (.ref a2), (.ref a3)] ∧ Z.Warmed39 U.vm ∧ U.heap = h0) (fun _ _ _ _ _ => True) (fun _ U o U' => ∃ v L, o = .returned v ∧ Q_rm_exp33 Z t1 a1 a2 a3 h0 n0 v U'.heap L ∧ FrameEnd U o U' L ({ frames := 0, cells := 0, slots := 0, locals := 0 } : Room).cells ({ frames := 0, cells := 0, slots := 0, locals := 0 } : Room).slots) := by
  refine MetFree.of_bodySF (plainFor_of_name pn_com_example_api_policy_gateway_apipolicygateway_net_BufferPoolGivePinLaw) hisR ?_
  intro p e s m args below meth c s₁ Bd hml0 hP hK
  obtain ⟨rfl, hZ, hh⟩ := hP
  have hx := Bd.exec
  have hby := Bd.bytes
  have hml : c.maxLocals = 6 := hml0
  have hown : s.vm.findClass "com/example/api_policy_gateway/apipolicygateway/net/BufferPoolGivePinLaw" = some m.cls := findClass_of_methodNamed Bd.named
  have hnm := (name_of_methodNamed Bd.named Bd.method).1
  have X0 : Stand p l e ({ frames := 0, cells := 0, slots := 0, locals := 0 } : Room) s m #[(.ref t1), (.int (3 : Int32)), (.int (3 : Int32)), (.ref a1), (.ref a2), (.ref a3)] below meth c s₁ [] 0 0 := Stand.of_body Bd
  have e0 : s₁.heap = h0 := by rw [← hh, Bd.state]; rfl
  have N0 := Fr.nil n0
  refine Goes.out (l := l) (c := c) (R := ({ frames := 0, cells := 0, slots := 0, locals := 0 } : Room)) (Q := Q_rm_exp33 Z t1 a1 a2 a3 h0 n0) Bd.notSynchronized ?_
  refine Goes.cast (g2 := mkF m 0 #[rv t1, iv 3, iv 3, rv a1, rv a2, rv a3] []) (by first | (simp [entryFrame, mkF, argsToLocals, Value.category]; done) | rfl) ?_
  have K0 : Keep h0 h0 [] := Keep.refl h0 _
  have hws : ∀ x ∈ ([] : List Addr), n0 ≤ x := all0
  refine Goes.step (T2 := s₁) (g2 := (mkF m 1 #[rv t1, iv 3, iv 3, rv a1, rv a2, rv a3] [(.ref t1)])) (fun _ hr => XS.aloadN X0.here hx rfl (hb hby d4_0) rfl rfl hr) ?_
  refine Goes.step (T2 := s₁) (g2 := (mkF m 6 #[rv t1, iv 3, iv 3, rv a1, rv a2, rv a3] [])) (fun _ hr => Jvm.Free.XT.ifnonnullYes X0.here hx rfl (pc0 := 1) (pc' := 6) rfl (hb hby d4_1) rfl (by decide) (by decide) hr) ?_
  refine Goes.step (T2 := s₁) (g2 := (mkF m 7 #[rv t1, iv 3, iv 3, rv a1, rv a2, rv a3] [(.int (3 : Int32))])) (fun _ hr => XS.iloadN X0.here hx rfl (hb hby d4_6) rfl  hr) ?_
  refine Goes.step (T2 := s₁) (g2 := (mkF m 8 #[rv t1, iv 3, iv 3, rv a1, rv a2, rv a3] [(.int (3 : Int32)), (.int (3 : Int32))])) (fun _ hr => XS.iloadN X0.here hx rfl (hb hby d4_7) rfl  hr) ?_
  refine Goes.step (T2 := s₁) (g2 := (mkF m 34 #[rv t1, iv 3, iv 3, rv a1, rv a2, rv a3] [])) (fun _ hr => XS.icmpYes X0.here hx rfl (pc0 := 8) (pc' := 34) rfl (hb hby d4_8) rfl (flt (by decide : ¬ ((3 : Int32) < (3 : Int32)))).2.1 (by decide) (by decide) hr) ?_
  refine Goes.step (T2 := s₁) (g2 := (mkF m 35 #[rv t1, iv 3, iv 3, rv a1, rv a2, rv a3] [(.ref t1)])) (fun _ hr => XS.aloadN X0.here hx rfl (hb hby d4_34) rfl rfl hr) ?_
  obtain ⟨cl82, Ar82, S82, Nn82⟩ := id L_t1
  refine Goes.step (T2 := s₁) (g2 := (mkF m 36 #[rv t1, iv 3, iv 3, rv a1, rv a2, rv a3] [(.int (16384 : Int32))])) (fun t hr => X0.arraylength hx (own_at e0 Ar82.1) (State.isArrayOf_alike hZ.alike Ar82.2.1) (g := (mkF m 35 #[rv t1, iv 3, iv 3, rv a1, rv a2, rv a3] [(.ref t1)])) rfl rfl (hb hby d4_35) t (by rw [len_of S82 Nn82]; exact hr)) ?_
  refine Goes.step (T2 := s₁) (g2 := (mkF m 39 #[rv t1, iv 3, iv 3, rv a1, rv a2, rv a3] [(.int (16384 : Int32)), (.int (16384 : Int32))])) (fun _ hr => XS.sipush X0.here hx rfl (hb hby d4_36) hr) ?_
  refine Goes.step (T2 := s₁) (g2 := (mkF m 42 #[rv t1, iv 3, iv 3, rv a1, rv a2, rv a3] [])) (fun _ hr => XS.icmpNo X0.here hx rfl (hb hby d4_39) rfl (teq (by decide : (16384 : Int32) = (16384 : Int32))).2 hr) ?_
  refine Goes.step (T2 := s₁) (g2 := (mkF m 43 #[rv t1, iv 3, iv 3, rv a1, rv a2, rv a3] [(.ref t1)])) (fun _ hr => XS.aloadN X0.here hx rfl (hb hby d4_42) rfl rfl hr) ?_
  refine Goes.step (T2 := s₁) (g2 := (mkF m 44 #[rv t1, iv 3, iv 3, rv a1, rv a2, rv a3] [(.ref a1), (.ref t1)])) (fun _ hr => XS.aloadN X0.here hx rfl (hb hby d4_43) rfl rfl hr) ?_
  refine Goes.step (T2 := s₁) (g2 := (mkF m 47 #[rv t1, iv 3, iv 3, rv a1, rv a2, rv a3] [])) (fun _ hr => Jvm.RoadKit.acmp (g := (mkF m 44 #[rv t1, iv 3, iv 3, rv a1, rv a2, rv a3] [(.ref a1), (.ref t1)])) X0 hx rfl rfl rfl (pc0 := 44) (pc' := 47) (same := false) rfl (hb hby d4_44) rfl (decide_eq_false fun q => ne_t1_a1 (Value.ref.inj q)) (by decide) (by decide) hr) ?_
  refine Goes.step (T2 := s₁) (g2 := (mkF m 48 #[rv t1, iv 3, iv 3, rv a1, rv a2, rv a3] [(.ref t1)])) (fun _ hr => XS.aloadN X0.here hx rfl (hb hby d4_47) rfl rfl hr) ?_
  refine Goes.step (T2 := s₁) (g2 := (mkF m 50 #[rv t1, iv 3, iv 3, rv a1, rv a2, rv a3] [(.ref a2), (.ref t1)])) (fun _ hr => XS.aload X0.here hx rfl (hb hby d4_48) rfl rfl hr) ?_
  refine Goes.step (T2 := s₁) (g2 := (mkF m 53 #[rv t1, iv 3, iv 3, rv a1, rv a2, rv a3] [])) (fun _ hr => Jvm.RoadKit.acmp (g := (mkF m 50 #[rv t1, iv 3, iv 3, rv a1, rv a2, rv a3] [(.ref a2), (.ref t1)])) X0 hx rfl rfl rfl (pc0 := 50) (pc' := 53) (same := false) rfl (hb hby d4_50) rfl (decide_eq_false fun q => ne_t1_a2 (Value.ref.inj q)) (by decide) (by decide) hr) ?_
  refine Goes.step (T2 := s₁) (g2 := (mkF m 54 #[rv t1, iv 3, iv 3, rv a1, rv a2, rv a3] [(.ref t1)])) (fun _ hr => XS.aloadN X0.here hx rfl (hb hby d4_53) rfl rfl hr) ?_
  refine Goes.step (T2 := s₁) (g2 := (mkF m 56 #[rv t1, iv 3, iv 3, rv a1, rv a2, rv a3] [(.ref a3), (.ref t1)])) (fun _ hr => XS.aload X0.here hx rfl (hb hby d4_54) rfl rfl hr) ?_
  refine Goes.step (T2 := s₁) (g2 := (mkF m 59 #[rv t1, iv 3, iv 3, rv a1, rv a2, rv a3] [])) (fun _ hr => Jvm.RoadKit.acmp (g := (mkF m 56 #[rv t1, iv 3, iv 3, rv a1, rv a2, rv a3] [(.ref a3), (.ref t1)])) X0 hx rfl rfl rfl (pc0 := 56) (pc' := 59) (same := false) rfl (hb hby d4_56) rfl (decide_eq_false fun q => ne_t1_a3 (Value.ref.inj q)) (by decide) (by decide) hr) ?_
  refine Goes.step (T2 := s₁) (g2 := (mkF m 60 #[rv t1, iv 3, iv 3, rv a1, rv a2, rv a3] [(.int (1 : Int32))])) (fun _ hr => XS.iconst X0.here hx rfl (hb hby d4_59) hr) ?_
  refine Goes.step (T2 := s₁) (g2 := (mkF m 64 #[rv t1, iv 3, iv 3, rv a1, rv a2, rv a3] [(.int (1 : Int32))])) (fun _ hr => XS.goto X0.here hx rfl (pc0 := 60) (pc' := 64) rfl (hb hby d4_60) (by decide) (by decide) hr) ?_
  exact Goes.ret (v := some (.int (1 : Int32))) X0 (by decide) (by decide) (fun h => by rw [Bd.returns] at h; cases h) ⟨rfl, N0, e0⟩ (fun fs hr => retN X0 hx (t := .boolean) Bd.returns (by simp) (hb hby d4_64) hr)
def Q_rm_law (Z : State) (p1 : Int32) (h0 : Heap) (n0 : Nat) (v : Option Value) (h : Heap) (L : List Loc) : Prop := v = some (.int (1 : Int32)) ∧ Fr n0 L
set_option maxRecDepth 65536 in
set_option maxHeartbeats 40000000 in
theorem rm_law (l : Launch) (Z : State) (a0 : Array Value) (hw : ∀ d ∈ tables_1, d.before a0 Z = true) (ws : List Jvm.Cond) (p1 : Int32) (h0 : Heap) (n0 : Nat) (Z0 : n0 ≤ h0.size) (O0 : Old Z n0 h0) :
    MetFree l x (head1 (Jvm.Cond.code x code maxLocals ret :: ws) room_1) (fun a U => a = #[(.int p1)] ∧ Z.Warmed39 U.vm ∧ U.heap = h0) (fun _ _ _ _ _ => True) (fun _ U o U' => ∃ v L, o = .returned v ∧ Q_rm_law Z p1 h0 n0 v U'.heap L ∧ FrameEnd U o U' L room_1.cells room_1.slots) := by
  refine MetFree.of_bodySF (plainFor_of_name pn_com_example_api_policy_gateway_apipolicygateway_net_BufferPoolGivePinLaw) hisR ?_
  intro p e s m args below meth c s₁ Bd hml0 hP hK
  obtain ⟨rfl, hZ, hh⟩ := hP
  have hx := Bd.exec
  have hby := Bd.bytes
  have hml : c.maxLocals = 12 := hml0
  have hown : s.vm.findClass "com/example/api_policy_gateway/apipolicygateway/net/BufferPoolGivePinLaw" = some m.cls := findClass_of_methodNamed Bd.named
  have hnm := (name_of_methodNamed Bd.named Bd.method).1
  have X0 : Stand p l e room_1 s m #[(.int p1)] below meth c s₁ [] 0 0 := Stand.of_body Bd
  have e0 : s₁.heap = h0 := by rw [← hh, Bd.state]; rfl
  have N0 := Fr.nil n0
  refine Goes.out (l := l) (c := c) (R := room_1) (Q := Q_rm_law Z p1 h0 n0) Bd.notSynchronized ?_
  refine Goes.cast (g2 := mkF m 0 #[iv p1, .unset, .unset, .unset, .unset, .unset, .unset, .unset, .unset, .unset, .unset, .unset] []) (by first | (simp [entryFrame, mkF, argsToLocals, Value.category, maxLocals]; done) | rfl) ?_
  have K0 : Keep h0 h0 [] := Keep.refl h0 _
  have hws : ∀ x ∈ ([] : List Addr), n0 ≤ x := all0
  obtain ⟨T83, h83, X83, e83, E83, A83, D83, -, st83⟩ := newO X0 hx hZ hown (tw hw 0 rfl) (tw hw 1 rfl) (tw hw 2 rfl) e0 (g := (mkF m 0 #[iv p1, .unset, .unset, .unset, .unset, .unset, .unset, .unset, .unset, .unset, .unset, .unset] [])) rfl (hb hby at_0) (by decide) (by decide)
  obtain ⟨b83, g83⟩ : ∃ z, z = h0.size := ⟨_, rfl⟩
  rw [← g83] at A83 D83 st83
  have sz_b83 : h0.size ≤ b83 := Nat.le_trans K0.1 (Nat.le_of_eq g83.symm)
  have ge_b83 : n0 ≤ b83 := Nat.le_trans Z0 sz_b83
  have K83 : Keep h0 h83 [] := K0.ext E83
  have F_b83_spare_83 : Fld Z h83 b83 "com/example/api_policy_gateway/apipolicygateway/net/BufferPool" "spare" "[[B" .null := D83 (Or.inr (tw hw 12 rfl)) (ty := (.array (.array .byte))) (by decide)
  have F_b83_spareCount_83 : Fld Z h83 b83 "com/example/api_policy_gateway/apipolicygateway/net/BufferPool" "spareCount" "I" (.int (0 : Int32)) := D83 (Or.inl (tw hw 20 rfl)) (ty := .int) (by decide)
  refine Goes.step (T2 := T83) (g2 := (mkF m 3 #[iv p1, .unset, .unset, .unset, .unset, .unset, .unset, .unset, .unset, .unset, .unset, .unset] [(.ref b83)])) st83 ?_
  refine Goes.step (T2 := T83) (g2 := (mkF m 4 #[iv p1, .unset, .unset, .unset, .unset, .unset, .unset, .unset, .unset, .unset, .unset, .unset] [(.ref b83), (.ref b83)])) (fun _ hr => XS.dup X83.here hx rfl (hb hby at_3) rfl rfl hr) ?_
  have Zs84 : n0 ≤ h83.size := Nat.le_trans Z0 K83.1
  obtain ⟨_, _, ⟨T85, L85, k85, n85⟩, -, X85, ⟨Lc85, hQ85, l85, y85, z85⟩, st85⟩ := X83.specialBack hx (y := Y0) rfl hown (mvT hZ (tw hw 3 rfl)) (mvT hZ (tw hw 4 rfl)) (mvT hZ (tw hw 5 rfl)) (by decide) (backOf (W := 1) (rm_pool l Z a0 hw [] b83 h83 n0 Zs84 (Old.keep O0 K83 hws) A83 F_b83_spare_83 F_b83_spareCount_83 ge_b83) hZ (tw hw 5 rfl) (tw hw 2 rfl) (by decide) (by decide)) (g := (mkF m 4 #[iv p1, .unset, .unset, .unset, .unset, .unset, .unset, .unset, .unset, .unset, .unset, .unset] [(.ref b83), (.ref b83)])) rfl (by rw [hml]; rfl) (Steps.refl _) (a := b83) (argsL := []) (rest := [(.ref b83)]) (lenOf pd_1 rfl) rfl (by show 2 * 0 + _ ≤ _; exact Nat.le_of_eq rfl) (hb hby at_4) (fun _ _ => ⟨rfl, e83, (by decide : 1 + 1 ≤ _), (by decide : 2 + 64 ≤ _)⟩)
  dsimp only [Pt.U, Pt.locs, Pt.cells, Pt.slots] at X85 l85 y85 z85 st85 hQ85
  subst l85 y85 z85
  obtain ⟨sp85, k85, rfl, N85q, Kc85, P85_0, P85_1, P85_2, P85_3, P85_4⟩ := hQ85
  have N85 := Fr.app N0 N85q
  have E_b83_85 : Exa Z T85.heap b83 "com/example/api_policy_gateway/apipolicygateway/net/BufferPool" := A83.keep Kc85
  have K85 : Keep h0 T85.heap [] := K83.trans Kc85 (allS (Or.inr sz_b83) all0)
  have sz_sp85 : h0.size ≤ sp85 := Nat.le_trans K83.1 P85_0
  have ge_sp85 : n0 ≤ sp85 := Nat.le_trans Z0 sz_sp85
  have F_b83_spare_85c : Fld Z T85.heap b83 "com/example/api_policy_gateway/apipolicygateway/net/BufferPool" "spare" "[[B" (.ref sp85) := P85_1
  have F_b83_spareCount_85c : Fld Z T85.heap b83 "com/example/api_policy_gateway/apipolicygateway/net/BufferPool" "spareCount" "I" (.int (0 : Int32)) := P85_2
  have V_sp85_85c : Arv Z T85.heap sp85 k85 (.array .byte) (64 : Int32) [.null, .null, .null] .null := P85_3
  refine Goes.step (T2 := T85) (g2 := (mkF m 7 #[iv p1, .unset, .unset, .unset, .unset, .unset, .unset, .unset, .unset, .unset, .unset, .unset] [(.ref b83)])) (fun _ hr => st85.trans hr) ?_
  refine Goes.step (T2 := T85) (g2 := (mkF m 8 #[iv p1, rv b83, .unset, .unset, .unset, .unset, .unset, .unset, .unset, .unset, .unset, .unset] [])) (fun _ hr => XS.astoreN X85.here hx rfl (hb hby at_7) rfl rfl (l' := #[iv p1, rv b83, .unset, .unset, .unset, .unset, .unset, .unset, .unset, .unset, .unset, .unset]) rfl hr) ?_
  refine Goes.step (T2 := T85) (g2 := (mkF m 11 #[iv p1, rv b83, .unset, .unset, .unset, .unset, .unset, .unset, .unset, .unset, .unset, .unset] [(.int (16384 : Int32))])) (fun _ hr => XS.sipush X85.here hx rfl (hb hby at_8) hr) ?_
  obtain ⟨T86, h86, k86, X86, e86, E86, A86, Ax86, st86⟩ := newPE X85 hx hZ (tw hw 13 rfl) rfl (g := (mkF m 11 #[iv p1, rv b83, .unset, .unset, .unset, .unset, .unset, .unset, .unset, .unset, .unset, .unset] [(.int (16384 : Int32))])) rfl (hb hby at_11) rfl (by decide) (cap := 16384) (by decide) (by decide) (by decide) (by decide) (ad := "[B") (by decide)
  obtain ⟨b86, g86⟩ : ∃ z, z = T85.heap.size := ⟨_, rfl⟩
  rw [← g86] at A86 Ax86 st86
  have sz_b86 : h0.size ≤ b86 := Nat.le_trans K85.1 (Nat.le_of_eq g86.symm)
  have ge_b86 : n0 ≤ b86 := Nat.le_trans Z0 sz_b86
  have E_b83_86 : Exa Z h86 b83 "com/example/api_policy_gateway/apipolicygateway/net/BufferPool" := E_b83_85.ext E86
  have F_b83_spare_86 : Fld Z h86 b83 "com/example/api_policy_gateway/apipolicygateway/net/BufferPool" "spare" "[[B" (.ref sp85) := F_b83_spare_85c.ext E86
  have F_b83_spareCount_86 : Fld Z h86 b83 "com/example/api_policy_gateway/apipolicygateway/net/BufferPool" "spareCount" "I" (.int (0 : Int32)) := F_b83_spareCount_85c.ext E86
  have V_sp85_86 : Arv Z h86 sp85 k85 (.array .byte) (64 : Int32) [.null, .null, .null] .null := V_sp85_85c.ext E86
  have K86 : Keep h0 h86 [] := K85.ext E86
  have V_b86_86 : Arv Z h86 b86 k86 .byte (16384 : Int32) [] (.int (0 : Int32)) := Arv.new A86 (by decide)
  refine Goes.step (T2 := T86) (g2 := (mkF m 13 #[iv p1, rv b83, .unset, .unset, .unset, .unset, .unset, .unset, .unset, .unset, .unset, .unset] [(.ref b86)])) st86 ?_
  refine Goes.step (T2 := T86) (g2 := (mkF m 14 #[iv p1, rv b83, rv b86, .unset, .unset, .unset, .unset, .unset, .unset, .unset, .unset, .unset] [])) (fun _ hr => XS.astoreN X86.here hx rfl (hb hby at_13) rfl rfl (l' := #[iv p1, rv b83, rv b86, .unset, .unset, .unset, .unset, .unset, .unset, .unset, .unset, .unset]) rfl hr) ?_
  refine Goes.step (T2 := T86) (g2 := (mkF m 17 #[iv p1, rv b83, rv b86, .unset, .unset, .unset, .unset, .unset, .unset, .unset, .unset, .unset] [(.int (16384 : Int32))])) (fun _ hr => XS.sipush X86.here hx rfl (hb hby at_14) hr) ?_
  obtain ⟨T87, h87, k87, X87, e87, E87, A87, Ax87, st87⟩ := newPE X86 hx hZ (tw hw 13 rfl) e86 (g := (mkF m 17 #[iv p1, rv b83, rv b86, .unset, .unset, .unset, .unset, .unset, .unset, .unset, .unset, .unset] [(.int (16384 : Int32))])) rfl (hb hby at_17) rfl (by decide) (cap := 16384) (by decide) (by decide) (by decide) (by decide) (ad := "[B") (by decide)
  obtain ⟨b87, g87⟩ : ∃ z, z = h86.size := ⟨_, rfl⟩
  rw [← g87] at A87 Ax87 st87
  have sz_b87 : h0.size ≤ b87 := Nat.le_trans K86.1 (Nat.le_of_eq g87.symm)
  have ge_b87 : n0 ≤ b87 := Nat.le_trans Z0 sz_b87
  have E_b83_87 : Exa Z h87 b83 "com/example/api_policy_gateway/apipolicygateway/net/BufferPool" := E_b83_86.ext E87
  have F_b83_spare_87 : Fld Z h87 b83 "com/example/api_policy_gateway/apipolicygateway/net/BufferPool" "spare" "[[B" (.ref sp85) := F_b83_spare_86.ext E87
  have F_b83_spareCount_87 : Fld Z h87 b83 "com/example/api_policy_gateway/apipolicygateway/net/BufferPool" "spareCount" "I" (.int (0 : Int32)) := F_b83_spareCount_86.ext E87
  have V_sp85_87 : Arv Z h87 sp85 k85 (.array .byte) (64 : Int32) [.null, .null, .null] .null := V_sp85_86.ext E87
  have V_b86_87 : Arv Z h87 b86 k86 .byte (16384 : Int32) [] (.int (0 : Int32)) := V_b86_86.ext E87
  have E_b86_87 : Exa Z h87 b86 "[B" := Ax86.ext E87
  have K87 : Keep h0 h87 [] := K86.ext E87
  have V_b87_87 : Arv Z h87 b87 k87 .byte (16384 : Int32) [] (.int (0 : Int32)) := Arv.new A87 (by decide)
  refine Goes.step (T2 := T87) (g2 := (mkF m 19 #[iv p1, rv b83, rv b86, .unset, .unset, .unset, .unset, .unset, .unset, .unset, .unset, .unset] [(.ref b87)])) st87 ?_
  refine Goes.step (T2 := T87) (g2 := (mkF m 20 #[iv p1, rv b83, rv b86, rv b87, .unset, .unset, .unset, .unset, .unset, .unset, .unset, .unset] [])) (fun _ hr => XS.astoreN X87.here hx rfl (hb hby at_19) rfl rfl (l' := #[iv p1, rv b83, rv b86, rv b87, .unset, .unset, .unset, .unset, .unset, .unset, .unset, .unset]) rfl hr) ?_
  refine Goes.step (T2 := T87) (g2 := (mkF m 23 #[iv p1, rv b83, rv b86, rv b87, .unset, .unset, .unset, .unset, .unset, .unset, .unset, .unset] [(.int (16384 : Int32))])) (fun _ hr => XS.sipush X87.here hx rfl (hb hby at_20) hr) ?_
  obtain ⟨T88, h88, k88, X88, e88, E88, A88, Ax88, st88⟩ := newPE X87 hx hZ (tw hw 13 rfl) e87 (g := (mkF m 23 #[iv p1, rv b83, rv b86, rv b87, .unset, .unset, .unset, .unset, .unset, .unset, .unset, .unset] [(.int (16384 : Int32))])) rfl (hb hby at_23) rfl (by decide) (cap := 16384) (by decide) (by decide) (by decide) (by decide) (ad := "[B") (by decide)
  obtain ⟨b88, g88⟩ : ∃ z, z = h87.size := ⟨_, rfl⟩
  rw [← g88] at A88 Ax88 st88
  have sz_b88 : h0.size ≤ b88 := Nat.le_trans K87.1 (Nat.le_of_eq g88.symm)
  have ge_b88 : n0 ≤ b88 := Nat.le_trans Z0 sz_b88
  have E_b83_88 : Exa Z h88 b83 "com/example/api_policy_gateway/apipolicygateway/net/BufferPool" := E_b83_87.ext E88
  have F_b83_spare_88 : Fld Z h88 b83 "com/example/api_policy_gateway/apipolicygateway/net/BufferPool" "spare" "[[B" (.ref sp85) := F_b83_spare_87.ext E88
  have F_b83_spareCount_88 : Fld Z h88 b83 "com/example/api_policy_gateway/apipolicygateway/net/BufferPool" "spareCount" "I" (.int (0 : Int32)) := F_b83_spareCount_87.ext E88
  have V_sp85_88 : Arv Z h88 sp85 k85 (.array .byte) (64 : Int32) [.null, .null, .null] .null := V_sp85_87.ext E88
  have V_b86_88 : Arv Z h88 b86 k86 .byte (16384 : Int32) [] (.int (0 : Int32)) := V_b86_87.ext E88
  have E_b86_88 : Exa Z h88 b86 "[B" := E_b86_87.ext E88
  have V_b87_88 : Arv Z h88 b87 k87 .byte (16384 : Int32) [] (.int (0 : Int32)) := V_b87_87.ext E88
  have E_b87_88 : Exa Z h88 b87 "[B" := Ax87.ext E88
  have K88 : Keep h0 h88 [] := K87.ext E88
  have V_b88_88 : Arv Z h88 b88 k88 .byte (16384 : Int32) [] (.int (0 : Int32)) := Arv.new A88 (by decide)
  refine Goes.step (T2 := T88) (g2 := (mkF m 25 #[iv p1, rv b83, rv b86, rv b87, .unset, .unset, .unset, .unset, .unset, .unset, .unset, .unset] [(.ref b88)])) st88 ?_
  refine Goes.step (T2 := T88) (g2 := (mkF m 27 #[iv p1, rv b83, rv b86, rv b87, rv b88, .unset, .unset, .unset, .unset, .unset, .unset, .unset] [])) (fun _ hr => XS.astore X88.here hx rfl (hb hby at_25) rfl rfl (l' := #[iv p1, rv b83, rv b86, rv b87, rv b88, .unset, .unset, .unset, .unset, .unset, .unset, .unset]) rfl hr) ?_
  refine Goes.step (T2 := T88) (g2 := (mkF m 28 #[iv p1, rv b83, rv b86, rv b87, rv b88, .unset, .unset, .unset, .unset, .unset, .unset, .unset] [(.int p1)])) (fun _ hr => XS.iloadN X88.here hx rfl (hb hby at_27) rfl  hr) ?_
  refine Goes.step (T2 := T88) (g2 := (mkF m 29 #[iv p1, rv b83, rv b86, rv b87, rv b88, .unset, .unset, .unset, .unset, .unset, .unset, .unset] [(.int (3 : Int32)), (.int p1)])) (fun _ hr => XS.iconst X88.here hx rfl (hb hby at_28) hr) ?_
  refine Goes.step (T2 := T88) (g2 := (mkF m 30 #[iv p1, rv b83, rv b86, rv b87, rv b88, .unset, .unset, .unset, .unset, .unset, .unset, .unset] [(.int (p1 &&& (3 : Int32)))])) (fun _ hr => XS.iand X88.here hx rfl (hb hby at_29) rfl hr) ?_
  rcases own_mask3 p1 with hk | hk | hk | hk
  · rw [hk]
    refine Goes.step (T2 := T88) (g2 := (mkF m 32 #[iv p1, rv b83, rv b86, rv b87, rv b88, iv 0, .unset, .unset, .unset, .unset, .unset, .unset] [])) (fun _ hr => XS.istore X88.here hx rfl (hb hby at_30) rfl (l' := #[iv p1, rv b83, rv b86, rv b87, rv b88, iv 0, .unset, .unset, .unset, .unset, .unset, .unset]) rfl hr) ?_
    refine Goes.step (T2 := T88) (g2 := (mkF m 34 #[iv p1, rv b83, rv b86, rv b87, rv b88, iv 0, .unset, .unset, .unset, .unset, .unset, .unset] [(.int (0 : Int32))])) (fun _ hr => XS.iload X88.here hx rfl (hb hby at_32) rfl  hr) ?_
    refine Goes.step (T2 := T88) (g2 := (mkF m 35 #[iv p1, rv b83, rv b86, rv b87, rv b88, iv 0, .unset, .unset, .unset, .unset, .unset, .unset] [(.int (1 : Int32)), (.int (0 : Int32))])) (fun _ hr => XS.iconst X88.here hx rfl (hb hby at_34) hr) ?_
    refine Goes.step (T2 := T88) (g2 := (mkF m 43 #[iv p1, rv b83, rv b86, rv b87, rv b88, iv 0, .unset, .unset, .unset, .unset, .unset, .unset] [])) (fun _ hr => XS.icmpYes X88.here hx rfl (pc0 := 35) (pc' := 43) rfl (hb hby at_35) rfl (tlt (by decide : (0 : Int32) < (1 : Int32))).1 (by decide) (by decide) hr) ?_
    refine Goes.step (T2 := T88) (g2 := (mkF m 45 #[iv p1, rv b83, rv b86, rv b87, rv b88, iv 0, .unset, .unset, .unset, .unset, .unset, .unset] [(.int (0 : Int32))])) (fun _ hr => XS.iload X88.here hx rfl (hb hby at_43) rfl  hr) ?_
    refine Goes.step (T2 := T88) (g2 := (mkF m 46 #[iv p1, rv b83, rv b86, rv b87, rv b88, iv 0, .unset, .unset, .unset, .unset, .unset, .unset] [(.int (2 : Int32)), (.int (0 : Int32))])) (fun _ hr => XS.iconst X88.here hx rfl (hb hby at_45) hr) ?_
    refine Goes.step (T2 := T88) (g2 := (mkF m 54 #[iv p1, rv b83, rv b86, rv b87, rv b88, iv 0, .unset, .unset, .unset, .unset, .unset, .unset] [])) (fun _ hr => XS.icmpYes X88.here hx rfl (pc0 := 46) (pc' := 54) rfl (hb hby at_46) rfl (tlt (by decide : (0 : Int32) < (2 : Int32))).1 (by decide) (by decide) hr) ?_
    refine Goes.step (T2 := T88) (g2 := (mkF m 56 #[iv p1, rv b83, rv b86, rv b87, rv b88, iv 0, .unset, .unset, .unset, .unset, .unset, .unset] [(.int (0 : Int32))])) (fun _ hr => XS.iload X88.here hx rfl (hb hby at_54) rfl  hr) ?_
    refine Goes.step (T2 := T88) (g2 := (mkF m 57 #[iv p1, rv b83, rv b86, rv b87, rv b88, iv 0, .unset, .unset, .unset, .unset, .unset, .unset] [(.int (3 : Int32)), (.int (0 : Int32))])) (fun _ hr => XS.iconst X88.here hx rfl (hb hby at_56) hr) ?_
    refine Goes.step (T2 := T88) (g2 := (mkF m 66 #[iv p1, rv b83, rv b86, rv b87, rv b88, iv 0, .unset, .unset, .unset, .unset, .unset, .unset] [])) (fun _ hr => XS.icmpYes X88.here hx rfl (pc0 := 57) (pc' := 66) rfl (hb hby at_57) rfl (tlt (by decide : (0 : Int32) < (3 : Int32))).1 (by decide) (by decide) hr) ?_
    refine Goes.step (T2 := T88) (g2 := (mkF m 67 #[iv p1, rv b83, rv b86, rv b87, rv b88, iv 0, .unset, .unset, .unset, .unset, .unset, .unset] [(.ref b83)])) (fun _ hr => XS.aloadN X88.here hx rfl (hb hby at_66) rfl rfl hr) ?_
    have Zs89 : n0 ≤ h88.size := Nat.le_trans Z0 K88.1
    obtain ⟨cq90, kq90, q90a, q90b, q90c⟩ := isOf hZ e88 E_b83_88
    obtain ⟨_, _, ⟨T90, L90, k90, n90⟩, -, X90, ⟨Lc90, hQ90, l90, y90, z90⟩, st90⟩ := X88.virtualBack hx (y := Y1) (z := Y1) hown (mvT hZ (tw hw 14 rfl)) (mvT hZ (tw hw 15 rfl)) (notFace_of_selects (args := #[]) (mvT hZ (tw hw 17 rfl))) (mvT hZ (tw hw 17 rfl)) (mvT hZ (tw hw 16 rfl)) (by decide) (backOf (W := 0) (rm_take0 l Z a0 hw [] b83 h88 n0 Zs89 (Old.keep O0 K88 hws) F_b83_spareCount_88) hZ (tw hw 18 rfl) (tw hw 2 rfl) (by decide) (by decide)) q90a q90c (g := (mkF m 67 #[iv p1, rv b83, rv b86, rv b87, rv b88, iv 0, .unset, .unset, .unset, .unset, .unset, .unset] [(.ref b83)])) rfl (by rw [hml]; rfl) (Steps.refl _) (argsL := []) (rest := []) (lenOf pd_2 rfl) rfl (by show 2 * 0 + _ ≤ _; exact Nat.le_of_eq rfl) (hb hby at_67) (fun _ _ => ⟨rfl, e88, (by decide : 5 + 1 ≤ _), (by decide : 49218 + 16384 ≤ _)⟩)
    dsimp only [Pt.U, Pt.locs, Pt.cells, Pt.slots] at X90 l90 y90 z90 st90 hQ90
    subst l90 y90 z90
    obtain ⟨w90, kw90, rfl, N90q, Kc90, P90_0, P90_1, P90_2⟩ := hQ90
    have N90 := Fr.app N85 N90q
    have E_b83_90 : Exa Z T90.heap b83 "com/example/api_policy_gateway/apipolicygateway/net/BufferPool" := E_b83_88.keep Kc90
    have F_b83_spare_90 : Fld Z T90.heap b83 "com/example/api_policy_gateway/apipolicygateway/net/BufferPool" "spare" "[[B" (.ref sp85) := F_b83_spare_88.keep Kc90 nin0
    have F_b83_spareCount_90 : Fld Z T90.heap b83 "com/example/api_policy_gateway/apipolicygateway/net/BufferPool" "spareCount" "I" (.int (0 : Int32)) := F_b83_spareCount_88.keep Kc90 nin0
    have V_sp85_90 : Arv Z T90.heap sp85 k85 (.array .byte) (64 : Int32) [.null, .null, .null] .null := V_sp85_88.keep Kc90 nin0
    have V_b86_90 : Arv Z T90.heap b86 k86 .byte (16384 : Int32) [] (.int (0 : Int32)) := V_b86_88.keep Kc90 nin0
    have E_b86_90 : Exa Z T90.heap b86 "[B" := E_b86_88.keep Kc90
    have V_b87_90 : Arv Z T90.heap b87 k87 .byte (16384 : Int32) [] (.int (0 : Int32)) := V_b87_88.keep Kc90 nin0
    have E_b87_90 : Exa Z T90.heap b87 "[B" := E_b87_88.keep Kc90
    have V_b88_90 : Arv Z T90.heap b88 k88 .byte (16384 : Int32) [] (.int (0 : Int32)) := V_b88_88.keep Kc90 nin0
    have E_b88_90 : Exa Z T90.heap b88 "[B" := Ax88.keep Kc90
    have K90 : Keep h0 T90.heap [] := K88.trans Kc90 all0
    have sz_w90 : h0.size ≤ w90 := Nat.le_trans K88.1 P90_0
    have ge_w90 : n0 ≤ w90 := Nat.le_trans Z0 sz_w90
    have E_w90_90c : Exa Z T90.heap w90 "[B" := P90_1
    have V_w90_90c : Arv Z T90.heap w90 kw90 .byte (16384 : Int32) [] (.int (0 : Int32)) := P90_2
    refine Goes.step (T2 := T90) (g2 := (mkF m 70 #[iv p1, rv b83, rv b86, rv b87, rv b88, iv 0, .unset, .unset, .unset, .unset, .unset, .unset] [(.ref w90)])) (fun _ hr => st90.trans hr) ?_
    refine Goes.step (T2 := T90) (g2 := (mkF m 72 #[iv p1, rv b83, rv b86, rv b87, rv b88, iv 0, rv w90, .unset, .unset, .unset, .unset, .unset] [])) (fun _ hr => XS.astore X90.here hx rfl (hb hby at_70) rfl rfl (l' := #[iv p1, rv b83, rv b86, rv b87, rv b88, iv 0, rv w90, .unset, .unset, .unset, .unset, .unset]) rfl hr) ?_
    refine Goes.step (T2 := T90) (g2 := (mkF m 73 #[iv p1, rv b83, rv b86, rv b87, rv b88, iv 0, rv w90, .unset, .unset, .unset, .unset, .unset] [(.ref b83)])) (fun _ hr => XS.aloadN X90.here hx rfl (hb hby at_72) rfl rfl hr) ?_
    have Zs91 : n0 ≤ T90.heap.size := Nat.le_trans Z0 K90.1
    obtain ⟨cq92, kq92, q92a, q92b, q92c⟩ := isOf hZ rfl E_b83_90
    obtain ⟨_, _, ⟨T92, L92, k92, n92⟩, -, X92, ⟨Lc92, hQ92, l92, y92, z92⟩, st92⟩ := X90.virtualBack hx (y := Y1) (z := Y1) hown (mvT hZ (tw hw 14 rfl)) (mvT hZ (tw hw 15 rfl)) (notFace_of_selects (args := #[]) (mvT hZ (tw hw 17 rfl))) (mvT hZ (tw hw 17 rfl)) (mvT hZ (tw hw 16 rfl)) (by decide) (backOf (W := 0) (rm_take0 l Z a0 hw [] b83 T90.heap n0 Zs91 (Old.keep O0 K90 hws) F_b83_spareCount_90) hZ (tw hw 18 rfl) (tw hw 2 rfl) (by decide) (by decide)) q92a q92c (g := (mkF m 73 #[iv p1, rv b83, rv b86, rv b87, rv b88, iv 0, rv w90, .unset, .unset, .unset, .unset, .unset] [(.ref b83)])) rfl (by rw [hml]; rfl) (Steps.refl _) (argsL := []) (rest := []) (lenOf pd_2 rfl) rfl (by show 2 * 0 + _ ≤ _; exact Nat.le_of_eq rfl) (hb hby at_73) (fun _ _ => ⟨rfl, rfl, (by decide : 6 + 1 ≤ _), (by decide : 65602 + 16384 ≤ _)⟩)
    dsimp only [Pt.U, Pt.locs, Pt.cells, Pt.slots] at X92 l92 y92 z92 st92 hQ92
    subst l92 y92 z92
    obtain ⟨w92, kw92, rfl, N92q, Kc92, P92_0, P92_1, P92_2⟩ := hQ92
    have N92 := Fr.app N90 N92q
    have E_b83_92 : Exa Z T92.heap b83 "com/example/api_policy_gateway/apipolicygateway/net/BufferPool" := E_b83_90.keep Kc92
    have F_b83_spare_92 : Fld Z T92.heap b83 "com/example/api_policy_gateway/apipolicygateway/net/BufferPool" "spare" "[[B" (.ref sp85) := F_b83_spare_90.keep Kc92 nin0
    have F_b83_spareCount_92 : Fld Z T92.heap b83 "com/example/api_policy_gateway/apipolicygateway/net/BufferPool" "spareCount" "I" (.int (0 : Int32)) := F_b83_spareCount_90.keep Kc92 nin0
    have V_sp85_92 : Arv Z T92.heap sp85 k85 (.array .byte) (64 : Int32) [.null, .null, .null] .null := V_sp85_90.keep Kc92 nin0
    have V_b86_92 : Arv Z T92.heap b86 k86 .byte (16384 : Int32) [] (.int (0 : Int32)) := V_b86_90.keep Kc92 nin0
    have E_b86_92 : Exa Z T92.heap b86 "[B" := E_b86_90.keep Kc92
    have V_b87_92 : Arv Z T92.heap b87 k87 .byte (16384 : Int32) [] (.int (0 : Int32)) := V_b87_90.keep Kc92 nin0
    have E_b87_92 : Exa Z T92.heap b87 "[B" := E_b87_90.keep Kc92
    have V_b88_92 : Arv Z T92.heap b88 k88 .byte (16384 : Int32) [] (.int (0 : Int32)) := V_b88_90.keep Kc92 nin0
    have E_b88_92 : Exa Z T92.heap b88 "[B" := E_b88_90.keep Kc92
    have E_w90_92 : Exa Z T92.heap w90 "[B" := E_w90_90c.keep Kc92
    have V_w90_92 : Arv Z T92.heap w90 kw90 .byte (16384 : Int32) [] (.int (0 : Int32)) := V_w90_90c.keep Kc92 nin0
    have K92 : Keep h0 T92.heap [] := K90.trans Kc92 all0
    have sz_w92 : h0.size ≤ w92 := Nat.le_trans K90.1 P92_0
    have ge_w92 : n0 ≤ w92 := Nat.le_trans Z0 sz_w92
    have E_w92_92c : Exa Z T92.heap w92 "[B" := P92_1
    have V_w92_92c : Arv Z T92.heap w92 kw92 .byte (16384 : Int32) [] (.int (0 : Int32)) := P92_2
    refine Goes.step (T2 := T92) (g2 := (mkF m 76 #[iv p1, rv b83, rv b86, rv b87, rv b88, iv 0, rv w90, .unset, .unset, .unset, .unset, .unset] [(.ref w92)])) (fun _ hr => st92.trans hr) ?_
    refine Goes.step (T2 := T92) (g2 := (mkF m 78 #[iv p1, rv b83, rv b86, rv b87, rv b88, iv 0, rv w90, rv w92, .unset, .unset, .unset, .unset] [])) (fun _ hr => XS.astore X92.here hx rfl (hb hby at_76) rfl rfl (l' := #[iv p1, rv b83, rv b86, rv b87, rv b88, iv 0, rv w90, rv w92, .unset, .unset, .unset, .unset]) rfl hr) ?_
    refine Goes.step (T2 := T92) (g2 := (mkF m 79 #[iv p1, rv b83, rv b86, rv b87, rv b88, iv 0, rv w90, rv w92, .unset, .unset, .unset, .unset] [(.ref b83)])) (fun _ hr => XS.aloadN X92.here hx rfl (hb hby at_78) rfl rfl hr) ?_
    have Zs93 : n0 ≤ T92.heap.size := Nat.le_trans Z0 K92.1
    obtain ⟨cq94, kq94, q94a, q94b, q94c⟩ := isOf hZ rfl E_b83_92
    obtain ⟨_, _, ⟨T94, L94, k94, n94⟩, -, X94, ⟨Lc94, hQ94, l94, y94, z94⟩, st94⟩ := X92.virtualBack hx (y := Y1) (z := Y1) hown (mvT hZ (tw hw 14 rfl)) (mvT hZ (tw hw 15 rfl)) (notFace_of_selects (args := #[]) (mvT hZ (tw hw 17 rfl))) (mvT hZ (tw hw 17 rfl)) (mvT hZ (tw hw 16 rfl)) (by decide) (backOf (W := 0) (rm_take0 l Z a0 hw [] b83 T92.heap n0 Zs93 (Old.keep O0 K92 hws) F_b83_spareCount_92) hZ (tw hw 18 rfl) (tw hw 2 rfl) (by decide) (by decide)) q94a q94c (g := (mkF m 79 #[iv p1, rv b83, rv b86, rv b87, rv b88, iv 0, rv w90, rv w92, .unset, .unset, .unset, .unset] [(.ref b83)])) rfl (by rw [hml]; rfl) (Steps.refl _) (argsL := []) (rest := []) (lenOf pd_2 rfl) rfl (by show 2 * 0 + _ ≤ _; exact Nat.le_of_eq rfl) (hb hby at_79) (fun _ _ => ⟨rfl, rfl, (by decide : 7 + 1 ≤ _), (by decide : 81986 + 16384 ≤ _)⟩)
    dsimp only [Pt.U, Pt.locs, Pt.cells, Pt.slots] at X94 l94 y94 z94 st94 hQ94
    subst l94 y94 z94
    obtain ⟨w94, kw94, rfl, N94q, Kc94, P94_0, P94_1, P94_2⟩ := hQ94
    have N94 := Fr.app N92 N94q
    have E_b83_94 : Exa Z T94.heap b83 "com/example/api_policy_gateway/apipolicygateway/net/BufferPool" := E_b83_92.keep Kc94
    have F_b83_spare_94 : Fld Z T94.heap b83 "com/example/api_policy_gateway/apipolicygateway/net/BufferPool" "spare" "[[B" (.ref sp85) := F_b83_spare_92.keep Kc94 nin0
    have F_b83_spareCount_94 : Fld Z T94.heap b83 "com/example/api_policy_gateway/apipolicygateway/net/BufferPool" "spareCount" "I" (.int (0 : Int32)) := F_b83_spareCount_92.keep Kc94 nin0
    have V_sp85_94 : Arv Z T94.heap sp85 k85 (.array .byte) (64 : Int32) [.null, .null, .null] .null := V_sp85_92.keep Kc94 nin0
    have V_b86_94 : Arv Z T94.heap b86 k86 .byte (16384 : Int32) [] (.int (0 : Int32)) := V_b86_92.keep Kc94 nin0
    have E_b86_94 : Exa Z T94.heap b86 "[B" := E_b86_92.keep Kc94
    have V_b87_94 : Arv Z T94.heap b87 k87 .byte (16384 : Int32) [] (.int (0 : Int32)) := V_b87_92.keep Kc94 nin0
    have E_b87_94 : Exa Z T94.heap b87 "[B" := E_b87_92.keep Kc94
    have V_b88_94 : Arv Z T94.heap b88 k88 .byte (16384 : Int32) [] (.int (0 : Int32)) := V_b88_92.keep Kc94 nin0
    have E_b88_94 : Exa Z T94.heap b88 "[B" := E_b88_92.keep Kc94
    have E_w90_94 : Exa Z T94.heap w90 "[B" := E_w90_92.keep Kc94
    have V_w90_94 : Arv Z T94.heap w90 kw90 .byte (16384 : Int32) [] (.int (0 : Int32)) := V_w90_92.keep Kc94 nin0
    have E_w92_94 : Exa Z T94.heap w92 "[B" := E_w92_92c.keep Kc94
    have V_w92_94 : Arv Z T94.heap w92 kw92 .byte (16384 : Int32) [] (.int (0 : Int32)) := V_w92_92c.keep Kc94 nin0
    have K94 : Keep h0 T94.heap [] := K92.trans Kc94 all0
    have sz_w94 : h0.size ≤ w94 := Nat.le_trans K92.1 P94_0
    have ge_w94 : n0 ≤ w94 := Nat.le_trans Z0 sz_w94
    have E_w94_94c : Exa Z T94.heap w94 "[B" := P94_1
    have V_w94_94c : Arv Z T94.heap w94 kw94 .byte (16384 : Int32) [] (.int (0 : Int32)) := P94_2
    refine Goes.step (T2 := T94) (g2 := (mkF m 82 #[iv p1, rv b83, rv b86, rv b87, rv b88, iv 0, rv w90, rv w92, .unset, .unset, .unset, .unset] [(.ref w94)])) (fun _ hr => st94.trans hr) ?_
    refine Goes.step (T2 := T94) (g2 := (mkF m 84 #[iv p1, rv b83, rv b86, rv b87, rv b88, iv 0, rv w90, rv w92, rv w94, .unset, .unset, .unset] [])) (fun _ hr => XS.astore X94.here hx rfl (hb hby at_82) rfl rfl (l' := #[iv p1, rv b83, rv b86, rv b87, rv b88, iv 0, rv w90, rv w92, rv w94, .unset, .unset, .unset]) rfl hr) ?_
    refine Goes.step (T2 := T94) (g2 := (mkF m 85 #[iv p1, rv b83, rv b86, rv b87, rv b88, iv 0, rv w90, rv w92, rv w94, .unset, .unset, .unset] [(.ref b83)])) (fun _ hr => XS.aloadN X94.here hx rfl (hb hby at_84) rfl rfl hr) ?_
    have Zs95 : n0 ≤ T94.heap.size := Nat.le_trans Z0 K94.1
    obtain ⟨cq96, kq96, q96a, q96b, q96c⟩ := isOf hZ rfl E_b83_94
    obtain ⟨_, _, ⟨T96, L96, k96, n96⟩, -, X96, ⟨Lc96, hQ96, l96, y96, z96⟩, st96⟩ := X94.virtualBack hx (y := Y1) (z := Y1) hown (mvT hZ (tw hw 14 rfl)) (mvT hZ (tw hw 15 rfl)) (notFace_of_selects (args := #[]) (mvT hZ (tw hw 17 rfl))) (mvT hZ (tw hw 17 rfl)) (mvT hZ (tw hw 16 rfl)) (by decide) (backOf (W := 0) (rm_take0 l Z a0 hw [] b83 T94.heap n0 Zs95 (Old.keep O0 K94 hws) F_b83_spareCount_94) hZ (tw hw 18 rfl) (tw hw 2 rfl) (by decide) (by decide)) q96a q96c (g := (mkF m 85 #[iv p1, rv b83, rv b86, rv b87, rv b88, iv 0, rv w90, rv w92, rv w94, .unset, .unset, .unset] [(.ref b83)])) rfl (by rw [hml]; rfl) (Steps.refl _) (argsL := []) (rest := []) (lenOf pd_2 rfl) rfl (by show 2 * 0 + _ ≤ _; exact Nat.le_of_eq rfl) (hb hby at_85) (fun _ _ => ⟨rfl, rfl, (by decide : 8 + 1 ≤ _), (by decide : 98370 + 16384 ≤ _)⟩)
    dsimp only [Pt.U, Pt.locs, Pt.cells, Pt.slots] at X96 l96 y96 z96 st96 hQ96
    subst l96 y96 z96
    obtain ⟨w96, kw96, rfl, N96q, Kc96, P96_0, P96_1, P96_2⟩ := hQ96
    have N96 := Fr.app N94 N96q
    have E_b83_96 : Exa Z T96.heap b83 "com/example/api_policy_gateway/apipolicygateway/net/BufferPool" := E_b83_94.keep Kc96
    have F_b83_spare_96 : Fld Z T96.heap b83 "com/example/api_policy_gateway/apipolicygateway/net/BufferPool" "spare" "[[B" (.ref sp85) := F_b83_spare_94.keep Kc96 nin0
    have F_b83_spareCount_96 : Fld Z T96.heap b83 "com/example/api_policy_gateway/apipolicygateway/net/BufferPool" "spareCount" "I" (.int (0 : Int32)) := F_b83_spareCount_94.keep Kc96 nin0
    have V_sp85_96 : Arv Z T96.heap sp85 k85 (.array .byte) (64 : Int32) [.null, .null, .null] .null := V_sp85_94.keep Kc96 nin0
    have V_b86_96 : Arv Z T96.heap b86 k86 .byte (16384 : Int32) [] (.int (0 : Int32)) := V_b86_94.keep Kc96 nin0
    have E_b86_96 : Exa Z T96.heap b86 "[B" := E_b86_94.keep Kc96
    have V_b87_96 : Arv Z T96.heap b87 k87 .byte (16384 : Int32) [] (.int (0 : Int32)) := V_b87_94.keep Kc96 nin0
    have E_b87_96 : Exa Z T96.heap b87 "[B" := E_b87_94.keep Kc96
    have V_b88_96 : Arv Z T96.heap b88 k88 .byte (16384 : Int32) [] (.int (0 : Int32)) := V_b88_94.keep Kc96 nin0
    have E_b88_96 : Exa Z T96.heap b88 "[B" := E_b88_94.keep Kc96
    have E_w90_96 : Exa Z T96.heap w90 "[B" := E_w90_94.keep Kc96
    have V_w90_96 : Arv Z T96.heap w90 kw90 .byte (16384 : Int32) [] (.int (0 : Int32)) := V_w90_94.keep Kc96 nin0
    have E_w92_96 : Exa Z T96.heap w92 "[B" := E_w92_94.keep Kc96
    have V_w92_96 : Arv Z T96.heap w92 kw92 .byte (16384 : Int32) [] (.int (0 : Int32)) := V_w92_94.keep Kc96 nin0
    have E_w94_96 : Exa Z T96.heap w94 "[B" := E_w94_94c.keep Kc96
    have V_w94_96 : Arv Z T96.heap w94 kw94 .byte (16384 : Int32) [] (.int (0 : Int32)) := V_w94_94c.keep Kc96 nin0
    have K96 : Keep h0 T96.heap [] := K94.trans Kc96 all0
    have sz_w96 : h0.size ≤ w96 := Nat.le_trans K94.1 P96_0
    have ge_w96 : n0 ≤ w96 := Nat.le_trans Z0 sz_w96
    have E_w96_96c : Exa Z T96.heap w96 "[B" := P96_1
    have V_w96_96c : Arv Z T96.heap w96 kw96 .byte (16384 : Int32) [] (.int (0 : Int32)) := P96_2
    refine Goes.step (T2 := T96) (g2 := (mkF m 88 #[iv p1, rv b83, rv b86, rv b87, rv b88, iv 0, rv w90, rv w92, rv w94, .unset, .unset, .unset] [(.ref w96)])) (fun _ hr => st96.trans hr) ?_
    refine Goes.step (T2 := T96) (g2 := (mkF m 90 #[iv p1, rv b83, rv b86, rv b87, rv b88, iv 0, rv w90, rv w92, rv w94, rv w96, .unset, .unset] [])) (fun _ hr => XS.astore X96.here hx rfl (hb hby at_88) rfl rfl (l' := #[iv p1, rv b83, rv b86, rv b87, rv b88, iv 0, rv w90, rv w92, rv w94, rv w96, .unset, .unset]) rfl hr) ?_
    refine Goes.step (T2 := T96) (g2 := (mkF m 92 #[iv p1, rv b83, rv b86, rv b87, rv b88, iv 0, rv w90, rv w92, rv w94, rv w96, .unset, .unset] [(.ref w90)])) (fun _ hr => XS.aload X96.here hx rfl (hb hby at_90) rfl rfl hr) ?_
    refine Goes.step (T2 := T96) (g2 := (mkF m 93 #[iv p1, rv b83, rv b86, rv b87, rv b88, iv 0, rv w90, rv w92, rv w94, rv w96, .unset, .unset] [(.int (0 : Int32)), (.ref w90)])) (fun _ hr => XS.iconst X96.here hx rfl (hb hby at_92) hr) ?_
    refine Goes.step (T2 := T96) (g2 := (mkF m 95 #[iv p1, rv b83, rv b86, rv b87, rv b88, iv 0, rv w90, rv w92, rv w94, rv w96, .unset, .unset] [(.int (0 : Int32)), (.int (0 : Int32)), (.ref w90)])) (fun _ hr => XS.iload X96.here hx rfl (hb hby at_93) rfl  hr) ?_
    refine Goes.step (T2 := T96) (g2 := (mkF m 96 #[iv p1, rv b83, rv b86, rv b87, rv b88, iv 0, rv w90, rv w92, rv w94, rv w96, .unset, .unset] [(.ref b86), (.int (0 : Int32)), (.int (0 : Int32)), (.ref w90)])) (fun _ hr => XS.aloadN X96.here hx rfl (hb hby at_95) rfl rfl hr) ?_
    refine Goes.step (T2 := T96) (g2 := (mkF m 97 #[iv p1, rv b83, rv b86, rv b87, rv b88, iv 0, rv w90, rv w92, rv w94, rv w96, .unset, .unset] [(.ref b87), (.ref b86), (.int (0 : Int32)), (.int (0 : Int32)), (.ref w90)])) (fun _ hr => XS.aloadN X96.here hx rfl (hb hby at_96) rfl rfl hr) ?_
    refine Goes.step (T2 := T96) (g2 := (mkF m 99 #[iv p1, rv b83, rv b86, rv b87, rv b88, iv 0, rv w90, rv w92, rv w94, rv w96, .unset, .unset] [(.ref b88), (.ref b87), (.ref b86), (.int (0 : Int32)), (.int (0 : Int32)), (.ref w90)])) (fun _ hr => XS.aload X96.here hx rfl (hb hby at_97) rfl rfl hr) ?_
    have Zs97 : n0 ≤ T96.heap.size := Nat.le_trans Z0 K96.1
    obtain ⟨_, _, ⟨T98, L98, k98, n98⟩, -, X98, ⟨Lc98, hQ98, l98, y98, z98⟩, st98⟩ := Jvm.LawKit.callS X96 hx (y := Y4) hown (mvT hZ (tw hw 21 rfl)) (mvT hZ (tw hw 22 rfl)) (mvT hZ (tw hw 23 rfl)) (mvT hZ (tw hw 24 rfl)) (by decide) (backOf (W := 0) (rm_exp00 l Z a0 hw [] w90 b86 b87 b88 T96.heap n0 Zs97 (Old.keep O0 K96 hws) (LenB.of V_w90_96) (Ne.symm (Nat.ne_of_lt (Nat.lt_of_lt_of_le V_b86_88.lt P90_0))) (Ne.symm (Nat.ne_of_lt (Nat.lt_of_lt_of_le V_b87_88.lt P90_0))) (Ne.symm (Nat.ne_of_lt (Nat.lt_of_lt_of_le V_b88_88.lt P90_0)))) hZ (tw hw 24 rfl) (tw hw 23 rfl) (by decide) (by decide)) (g := (mkF m 99 #[iv p1, rv b83, rv b86, rv b87, rv b88, iv 0, rv w90, rv w92, rv w94, rv w96, .unset, .unset] [(.ref b88), (.ref b87), (.ref b86), (.int (0 : Int32)), (.int (0 : Int32)), (.ref w90)])) rfl (by rw [hml]; rfl) (argsL := [(.ref w90), (.int (0 : Int32)), (.int (0 : Int32)), (.ref b86), (.ref b87), (.ref b88)]) (rest := []) (lenOf pd_3 rfl) rfl (by show 2 * 0 + _ ≤ _; exact Nat.le_of_eq rfl) (hb hby at_99) (fun _ _ => ⟨rfl, rfl, (by decide : 9 + 0 ≤ _), (by decide : 114754 + 0 ≤ _)⟩)
    dsimp only [Pt.U, Pt.locs, Pt.cells, Pt.slots] at X98 l98 y98 z98 st98 hQ98
    subst l98 y98 z98
    obtain ⟨rfl, N98q, e98⟩ := hQ98
    have N98 := Fr.app N96 N98q
    refine Goes.step (T2 := T98) (g2 := (mkF m 102 #[iv p1, rv b83, rv b86, rv b87, rv b88, iv 0, rv w90, rv w92, rv w94, rv w96, .unset, .unset] [(.int (1 : Int32))])) st98 ?_
    refine Goes.step (T2 := T98) (g2 := (mkF m 105 #[iv p1, rv b83, rv b86, rv b87, rv b88, iv 0, rv w90, rv w92, rv w94, rv w96, .unset, .unset] [])) (fun _ hr => XS.ifNo X98.here hx rfl (hb hby at_102) rfl ((if0 _ _).trans (feq (by decide : ¬ ((1 : Int32) = (0 : Int32)))).1) hr) ?_
    refine Goes.step (T2 := T98) (g2 := (mkF m 107 #[iv p1, rv b83, rv b86, rv b87, rv b88, iv 0, rv w90, rv w92, rv w94, rv w96, .unset, .unset] [(.ref w92)])) (fun _ hr => XS.aload X98.here hx rfl (hb hby at_105) rfl rfl hr) ?_
    refine Goes.step (T2 := T98) (g2 := (mkF m 108 #[iv p1, rv b83, rv b86, rv b87, rv b88, iv 0, rv w90, rv w92, rv w94, rv w96, .unset, .unset] [(.int (1 : Int32)), (.ref w92)])) (fun _ hr => XS.iconst X98.here hx rfl (hb hby at_107) hr) ?_
    refine Goes.step (T2 := T98) (g2 := (mkF m 110 #[iv p1, rv b83, rv b86, rv b87, rv b88, iv 0, rv w90, rv w92, rv w94, rv w96, .unset, .unset] [(.int (0 : Int32)), (.int (1 : Int32)), (.ref w92)])) (fun _ hr => XS.iload X98.here hx rfl (hb hby at_108) rfl  hr) ?_
    refine Goes.step (T2 := T98) (g2 := (mkF m 111 #[iv p1, rv b83, rv b86, rv b87, rv b88, iv 0, rv w90, rv w92, rv w94, rv w96, .unset, .unset] [(.ref b86), (.int (0 : Int32)), (.int (1 : Int32)), (.ref w92)])) (fun _ hr => XS.aloadN X98.here hx rfl (hb hby at_110) rfl rfl hr) ?_
    refine Goes.step (T2 := T98) (g2 := (mkF m 112 #[iv p1, rv b83, rv b86, rv b87, rv b88, iv 0, rv w90, rv w92, rv w94, rv w96, .unset, .unset] [(.ref b87), (.ref b86), (.int (0 : Int32)), (.int (1 : Int32)), (.ref w92)])) (fun _ hr => XS.aloadN X98.here hx rfl (hb hby at_111) rfl rfl hr) ?_
    refine Goes.step (T2 := T98) (g2 := (mkF m 114 #[iv p1, rv b83, rv b86, rv b87, rv b88, iv 0, rv w90, rv w92, rv w94, rv w96, .unset, .unset] [(.ref b88), (.ref b87), (.ref b86), (.int (0 : Int32)), (.int (1 : Int32)), (.ref w92)])) (fun _ hr => XS.aload X98.here hx rfl (hb hby at_112) rfl rfl hr) ?_
    have Zs99 : n0 ≤ T96.heap.size := Nat.le_trans Z0 K96.1
    obtain ⟨_, _, ⟨T100, L100, k100, n100⟩, -, X100, ⟨Lc100, hQ100, l100, y100, z100⟩, st100⟩ := Jvm.LawKit.callS X98 hx (y := Y4) hown (mvT hZ (tw hw 21 rfl)) (mvT hZ (tw hw 22 rfl)) (mvT hZ (tw hw 23 rfl)) (mvT hZ (tw hw 24 rfl)) (by decide) (backOf (W := 0) (rm_exp10 l Z a0 hw [] w92 b86 b87 b88 T96.heap n0 Zs99 (Old.keep O0 K96 hws) (LenB.of V_w92_96) (Ne.symm (Nat.ne_of_lt (Nat.lt_of_lt_of_le V_b86_90.lt P92_0))) (Ne.symm (Nat.ne_of_lt (Nat.lt_of_lt_of_le V_b87_90.lt P92_0))) (Ne.symm (Nat.ne_of_lt (Nat.lt_of_lt_of_le V_b88_90.lt P92_0)))) hZ (tw hw 24 rfl) (tw hw 23 rfl) (by decide) (by decide)) (g := (mkF m 114 #[iv p1, rv b83, rv b86, rv b87, rv b88, iv 0, rv w90, rv w92, rv w94, rv w96, .unset, .unset] [(.ref b88), (.ref b87), (.ref b86), (.int (0 : Int32)), (.int (1 : Int32)), (.ref w92)])) rfl (by rw [hml]; rfl) (argsL := [(.ref w92), (.int (1 : Int32)), (.int (0 : Int32)), (.ref b86), (.ref b87), (.ref b88)]) (rest := []) (lenOf pd_3 rfl) rfl (by show 2 * 0 + _ ≤ _; exact Nat.le_of_eq rfl) (hb hby at_114) (fun _ _ => ⟨rfl, e98, (by decide : 9 + 0 ≤ _), (by decide : 114754 + 0 ≤ _)⟩)
    dsimp only [Pt.U, Pt.locs, Pt.cells, Pt.slots] at X100 l100 y100 z100 st100 hQ100
    subst l100 y100 z100
    obtain ⟨rfl, N100q, e100⟩ := hQ100
    have N100 := Fr.app N98 N100q
    refine Goes.step (T2 := T100) (g2 := (mkF m 117 #[iv p1, rv b83, rv b86, rv b87, rv b88, iv 0, rv w90, rv w92, rv w94, rv w96, .unset, .unset] [(.int (1 : Int32))])) st100 ?_
    refine Goes.step (T2 := T100) (g2 := (mkF m 120 #[iv p1, rv b83, rv b86, rv b87, rv b88, iv 0, rv w90, rv w92, rv w94, rv w96, .unset, .unset] [])) (fun _ hr => XS.ifNo X100.here hx rfl (hb hby at_117) rfl ((if0 _ _).trans (feq (by decide : ¬ ((1 : Int32) = (0 : Int32)))).1) hr) ?_
    refine Goes.step (T2 := T100) (g2 := (mkF m 122 #[iv p1, rv b83, rv b86, rv b87, rv b88, iv 0, rv w90, rv w92, rv w94, rv w96, .unset, .unset] [(.ref w94)])) (fun _ hr => XS.aload X100.here hx rfl (hb hby at_120) rfl rfl hr) ?_
    refine Goes.step (T2 := T100) (g2 := (mkF m 123 #[iv p1, rv b83, rv b86, rv b87, rv b88, iv 0, rv w90, rv w92, rv w94, rv w96, .unset, .unset] [(.int (2 : Int32)), (.ref w94)])) (fun _ hr => XS.iconst X100.here hx rfl (hb hby at_122) hr) ?_
    refine Goes.step (T2 := T100) (g2 := (mkF m 125 #[iv p1, rv b83, rv b86, rv b87, rv b88, iv 0, rv w90, rv w92, rv w94, rv w96, .unset, .unset] [(.int (0 : Int32)), (.int (2 : Int32)), (.ref w94)])) (fun _ hr => XS.iload X100.here hx rfl (hb hby at_123) rfl  hr) ?_
    refine Goes.step (T2 := T100) (g2 := (mkF m 126 #[iv p1, rv b83, rv b86, rv b87, rv b88, iv 0, rv w90, rv w92, rv w94, rv w96, .unset, .unset] [(.ref b86), (.int (0 : Int32)), (.int (2 : Int32)), (.ref w94)])) (fun _ hr => XS.aloadN X100.here hx rfl (hb hby at_125) rfl rfl hr) ?_
    refine Goes.step (T2 := T100) (g2 := (mkF m 127 #[iv p1, rv b83, rv b86, rv b87, rv b88, iv 0, rv w90, rv w92, rv w94, rv w96, .unset, .unset] [(.ref b87), (.ref b86), (.int (0 : Int32)), (.int (2 : Int32)), (.ref w94)])) (fun _ hr => XS.aloadN X100.here hx rfl (hb hby at_126) rfl rfl hr) ?_
    refine Goes.step (T2 := T100) (g2 := (mkF m 129 #[iv p1, rv b83, rv b86, rv b87, rv b88, iv 0, rv w90, rv w92, rv w94, rv w96, .unset, .unset] [(.ref b88), (.ref b87), (.ref b86), (.int (0 : Int32)), (.int (2 : Int32)), (.ref w94)])) (fun _ hr => XS.aload X100.here hx rfl (hb hby at_127) rfl rfl hr) ?_
    have Zs101 : n0 ≤ T96.heap.size := Nat.le_trans Z0 K96.1
    obtain ⟨_, _, ⟨T102, L102, k102, n102⟩, -, X102, ⟨Lc102, hQ102, l102, y102, z102⟩, st102⟩ := Jvm.LawKit.callS X100 hx (y := Y4) hown (mvT hZ (tw hw 21 rfl)) (mvT hZ (tw hw 22 rfl)) (mvT hZ (tw hw 23 rfl)) (mvT hZ (tw hw 24 rfl)) (by decide) (backOf (W := 0) (rm_exp20 l Z a0 hw [] w94 b86 b87 b88 T96.heap n0 Zs101 (Old.keep O0 K96 hws) (LenB.of V_w94_96) (Ne.symm (Nat.ne_of_lt (Nat.lt_of_lt_of_le V_b86_92.lt P94_0))) (Ne.symm (Nat.ne_of_lt (Nat.lt_of_lt_of_le V_b87_92.lt P94_0))) (Ne.symm (Nat.ne_of_lt (Nat.lt_of_lt_of_le V_b88_92.lt P94_0)))) hZ (tw hw 24 rfl) (tw hw 23 rfl) (by decide) (by decide)) (g := (mkF m 129 #[iv p1, rv b83, rv b86, rv b87, rv b88, iv 0, rv w90, rv w92, rv w94, rv w96, .unset, .unset] [(.ref b88), (.ref b87), (.ref b86), (.int (0 : Int32)), (.int (2 : Int32)), (.ref w94)])) rfl (by rw [hml]; rfl) (argsL := [(.ref w94), (.int (2 : Int32)), (.int (0 : Int32)), (.ref b86), (.ref b87), (.ref b88)]) (rest := []) (lenOf pd_3 rfl) rfl (by show 2 * 0 + _ ≤ _; exact Nat.le_of_eq rfl) (hb hby at_129) (fun _ _ => ⟨rfl, e100, (by decide : 9 + 0 ≤ _), (by decide : 114754 + 0 ≤ _)⟩)
    dsimp only [Pt.U, Pt.locs, Pt.cells, Pt.slots] at X102 l102 y102 z102 st102 hQ102
    subst l102 y102 z102
    obtain ⟨rfl, N102q, e102⟩ := hQ102
    have N102 := Fr.app N100 N102q
    refine Goes.step (T2 := T102) (g2 := (mkF m 132 #[iv p1, rv b83, rv b86, rv b87, rv b88, iv 0, rv w90, rv w92, rv w94, rv w96, .unset, .unset] [(.int (1 : Int32))])) st102 ?_
    refine Goes.step (T2 := T102) (g2 := (mkF m 135 #[iv p1, rv b83, rv b86, rv b87, rv b88, iv 0, rv w90, rv w92, rv w94, rv w96, .unset, .unset] [])) (fun _ hr => XS.ifNo X102.here hx rfl (hb hby at_132) rfl ((if0 _ _).trans (feq (by decide : ¬ ((1 : Int32) = (0 : Int32)))).1) hr) ?_
    refine Goes.step (T2 := T102) (g2 := (mkF m 137 #[iv p1, rv b83, rv b86, rv b87, rv b88, iv 0, rv w90, rv w92, rv w94, rv w96, .unset, .unset] [(.ref w96)])) (fun _ hr => XS.aload X102.here hx rfl (hb hby at_135) rfl rfl hr) ?_
    refine Goes.step (T2 := T102) (g2 := (mkF m 138 #[iv p1, rv b83, rv b86, rv b87, rv b88, iv 0, rv w90, rv w92, rv w94, rv w96, .unset, .unset] [(.int (3 : Int32)), (.ref w96)])) (fun _ hr => XS.iconst X102.here hx rfl (hb hby at_137) hr) ?_
    refine Goes.step (T2 := T102) (g2 := (mkF m 140 #[iv p1, rv b83, rv b86, rv b87, rv b88, iv 0, rv w90, rv w92, rv w94, rv w96, .unset, .unset] [(.int (0 : Int32)), (.int (3 : Int32)), (.ref w96)])) (fun _ hr => XS.iload X102.here hx rfl (hb hby at_138) rfl  hr) ?_
    refine Goes.step (T2 := T102) (g2 := (mkF m 141 #[iv p1, rv b83, rv b86, rv b87, rv b88, iv 0, rv w90, rv w92, rv w94, rv w96, .unset, .unset] [(.ref b86), (.int (0 : Int32)), (.int (3 : Int32)), (.ref w96)])) (fun _ hr => XS.aloadN X102.here hx rfl (hb hby at_140) rfl rfl hr) ?_
    refine Goes.step (T2 := T102) (g2 := (mkF m 142 #[iv p1, rv b83, rv b86, rv b87, rv b88, iv 0, rv w90, rv w92, rv w94, rv w96, .unset, .unset] [(.ref b87), (.ref b86), (.int (0 : Int32)), (.int (3 : Int32)), (.ref w96)])) (fun _ hr => XS.aloadN X102.here hx rfl (hb hby at_141) rfl rfl hr) ?_
    refine Goes.step (T2 := T102) (g2 := (mkF m 144 #[iv p1, rv b83, rv b86, rv b87, rv b88, iv 0, rv w90, rv w92, rv w94, rv w96, .unset, .unset] [(.ref b88), (.ref b87), (.ref b86), (.int (0 : Int32)), (.int (3 : Int32)), (.ref w96)])) (fun _ hr => XS.aload X102.here hx rfl (hb hby at_142) rfl rfl hr) ?_
    have Zs103 : n0 ≤ T96.heap.size := Nat.le_trans Z0 K96.1
    obtain ⟨_, _, ⟨T104, L104, k104, n104⟩, -, X104, ⟨Lc104, hQ104, l104, y104, z104⟩, st104⟩ := Jvm.LawKit.callS X102 hx (y := Y4) hown (mvT hZ (tw hw 21 rfl)) (mvT hZ (tw hw 22 rfl)) (mvT hZ (tw hw 23 rfl)) (mvT hZ (tw hw 24 rfl)) (by decide) (backOf (W := 0) (rm_exp30 l Z a0 hw [] w96 b86 b87 b88 T96.heap n0 Zs103 (Old.keep O0 K96 hws) (LenB.of V_w96_96c) (Ne.symm (Nat.ne_of_lt (Nat.lt_of_lt_of_le V_b86_94.lt P96_0))) (Ne.symm (Nat.ne_of_lt (Nat.lt_of_lt_of_le V_b87_94.lt P96_0))) (Ne.symm (Nat.ne_of_lt (Nat.lt_of_lt_of_le V_b88_94.lt P96_0)))) hZ (tw hw 24 rfl) (tw hw 23 rfl) (by decide) (by decide)) (g := (mkF m 144 #[iv p1, rv b83, rv b86, rv b87, rv b88, iv 0, rv w90, rv w92, rv w94, rv w96, .unset, .unset] [(.ref b88), (.ref b87), (.ref b86), (.int (0 : Int32)), (.int (3 : Int32)), (.ref w96)])) rfl (by rw [hml]; rfl) (argsL := [(.ref w96), (.int (3 : Int32)), (.int (0 : Int32)), (.ref b86), (.ref b87), (.ref b88)]) (rest := []) (lenOf pd_3 rfl) rfl (by show 2 * 0 + _ ≤ _; exact Nat.le_of_eq rfl) (hb hby at_144) (fun _ _ => ⟨rfl, e102, (by decide : 9 + 0 ≤ _), (by decide : 114754 + 0 ≤ _)⟩)
    dsimp only [Pt.U, Pt.locs, Pt.cells, Pt.slots] at X104 l104 y104 z104 st104 hQ104
    subst l104 y104 z104
    obtain ⟨rfl, N104q, e104⟩ := hQ104
    have N104 := Fr.app N102 N104q
    refine Goes.step (T2 := T104) (g2 := (mkF m 147 #[iv p1, rv b83, rv b86, rv b87, rv b88, iv 0, rv w90, rv w92, rv w94, rv w96, .unset, .unset] [(.int (1 : Int32))])) st104 ?_
    refine Goes.step (T2 := T104) (g2 := (mkF m 150 #[iv p1, rv b83, rv b86, rv b87, rv b88, iv 0, rv w90, rv w92, rv w94, rv w96, .unset, .unset] [])) (fun _ hr => XS.ifNo X104.here hx rfl (hb hby at_147) rfl ((if0 _ _).trans (feq (by decide : ¬ ((1 : Int32) = (0 : Int32)))).1) hr) ?_
    refine Goes.step (T2 := T104) (g2 := (mkF m 151 #[iv p1, rv b83, rv b86, rv b87, rv b88, iv 0, rv w90, rv w92, rv w94, rv w96, .unset, .unset] [(.int (1 : Int32))])) (fun _ hr => XS.iconst X104.here hx rfl (hb hby at_150) hr) ?_
    refine Goes.step (T2 := T104) (g2 := (mkF m 155 #[iv p1, rv b83, rv b86, rv b87, rv b88, iv 0, rv w90, rv w92, rv w94, rv w96, .unset, .unset] [(.int (1 : Int32))])) (fun _ hr => XS.goto X104.here hx rfl (pc0 := 151) (pc' := 155) rfl (hb hby at_151) (by decide) (by decide) hr) ?_
    refine Goes.step (T2 := T104) (g2 := (mkF m 157 #[iv p1, rv b83, rv b86, rv b87, rv b88, iv 0, rv w90, rv w92, rv w94, rv w96, iv 1, .unset] [])) (fun _ hr => XS.istore X104.here hx rfl (hb hby at_155) rfl (l' := #[iv p1, rv b83, rv b86, rv b87, rv b88, iv 0, rv w90, rv w92, rv w94, rv w96, iv 1, .unset]) rfl hr) ?_
    refine Goes.step (T2 := T104) (g2 := (mkF m 159 #[iv p1, rv b83, rv b86, rv b87, rv b88, iv 0, rv w90, rv w92, rv w94, rv w96, iv 1, .unset] [(.ref w90)])) (fun _ hr => XS.aload X104.here hx rfl (hb hby at_157) rfl rfl hr) ?_
    refine Goes.step (T2 := T104) (g2 := (mkF m 161 #[iv p1, rv b83, rv b86, rv b87, rv b88, iv 0, rv w90, rv w92, rv w94, rv w96, iv 1, .unset] [(.ref w92), (.ref w90)])) (fun _ hr => XS.aload X104.here hx rfl (hb hby at_159) rfl rfl hr) ?_
    refine Goes.step (T2 := T104) (g2 := (mkF m 164 #[iv p1, rv b83, rv b86, rv b87, rv b88, iv 0, rv w90, rv w92, rv w94, rv w96, iv 1, .unset] [])) (fun _ hr => Jvm.RoadKit.acmp (g := (mkF m 161 #[iv p1, rv b83, rv b86, rv b87, rv b88, iv 0, rv w90, rv w92, rv w94, rv w96, iv 1, .unset] [(.ref w92), (.ref w90)])) X104 hx rfl rfl rfl (pc0 := 161) (pc' := 164) (same := false) rfl (hb hby at_161) rfl (decide_eq_false fun q => (Nat.ne_of_lt (Nat.lt_of_lt_of_le E_w90_90c.lt P92_0)) (Value.ref.inj q)) (by decide) (by decide) hr) ?_
    refine Goes.step (T2 := T104) (g2 := (mkF m 166 #[iv p1, rv b83, rv b86, rv b87, rv b88, iv 0, rv w90, rv w92, rv w94, rv w96, iv 1, .unset] [(.ref w90)])) (fun _ hr => XS.aload X104.here hx rfl (hb hby at_164) rfl rfl hr) ?_
    refine Goes.step (T2 := T104) (g2 := (mkF m 168 #[iv p1, rv b83, rv b86, rv b87, rv b88, iv 0, rv w90, rv w92, rv w94, rv w96, iv 1, .unset] [(.ref w94), (.ref w90)])) (fun _ hr => XS.aload X104.here hx rfl (hb hby at_166) rfl rfl hr) ?_
    refine Goes.step (T2 := T104) (g2 := (mkF m 171 #[iv p1, rv b83, rv b86, rv b87, rv b88, iv 0, rv w90, rv w92, rv w94, rv w96, iv 1, .unset] [])) (fun _ hr => Jvm.RoadKit.acmp (g := (mkF m 168 #[iv p1, rv b83, rv b86, rv b87, rv b88, iv 0, rv w90, rv w92, rv w94, rv w96, iv 1, .unset] [(.ref w94), (.ref w90)])) X104 hx rfl rfl rfl (pc0 := 168) (pc' := 171) (same := false) rfl (hb hby at_168) rfl (decide_eq_false fun q => (Nat.ne_of_lt (Nat.lt_of_lt_of_le E_w90_92.lt P94_0)) (Value.ref.inj q)) (by decide) (by decide) hr) ?_
    refine Goes.step (T2 := T104) (g2 := (mkF m 173 #[iv p1, rv b83, rv b86, rv b87, rv b88, iv 0, rv w90, rv w92, rv w94, rv w96, iv 1, .unset] [(.ref w90)])) (fun _ hr => XS.aload X104.here hx rfl (hb hby at_171) rfl rfl hr) ?_
    refine Goes.step (T2 := T104) (g2 := (mkF m 175 #[iv p1, rv b83, rv b86, rv b87, rv b88, iv 0, rv w90, rv w92, rv w94, rv w96, iv 1, .unset] [(.ref w96), (.ref w90)])) (fun _ hr => XS.aload X104.here hx rfl (hb hby at_173) rfl rfl hr) ?_
    refine Goes.step (T2 := T104) (g2 := (mkF m 178 #[iv p1, rv b83, rv b86, rv b87, rv b88, iv 0, rv w90, rv w92, rv w94, rv w96, iv 1, .unset] [])) (fun _ hr => Jvm.RoadKit.acmp (g := (mkF m 175 #[iv p1, rv b83, rv b86, rv b87, rv b88, iv 0, rv w90, rv w92, rv w94, rv w96, iv 1, .unset] [(.ref w96), (.ref w90)])) X104 hx rfl rfl rfl (pc0 := 175) (pc' := 178) (same := false) rfl (hb hby at_175) rfl (decide_eq_false fun q => (Nat.ne_of_lt (Nat.lt_of_lt_of_le E_w90_94.lt P96_0)) (Value.ref.inj q)) (by decide) (by decide) hr) ?_
    refine Goes.step (T2 := T104) (g2 := (mkF m 180 #[iv p1, rv b83, rv b86, rv b87, rv b88, iv 0, rv w90, rv w92, rv w94, rv w96, iv 1, .unset] [(.ref w92)])) (fun _ hr => XS.aload X104.here hx rfl (hb hby at_178) rfl rfl hr) ?_
    refine Goes.step (T2 := T104) (g2 := (mkF m 182 #[iv p1, rv b83, rv b86, rv b87, rv b88, iv 0, rv w90, rv w92, rv w94, rv w96, iv 1, .unset] [(.ref w94), (.ref w92)])) (fun _ hr => XS.aload X104.here hx rfl (hb hby at_180) rfl rfl hr) ?_
    refine Goes.step (T2 := T104) (g2 := (mkF m 185 #[iv p1, rv b83, rv b86, rv b87, rv b88, iv 0, rv w90, rv w92, rv w94, rv w96, iv 1, .unset] [])) (fun _ hr => Jvm.RoadKit.acmp (g := (mkF m 182 #[iv p1, rv b83, rv b86, rv b87, rv b88, iv 0, rv w90, rv w92, rv w94, rv w96, iv 1, .unset] [(.ref w94), (.ref w92)])) X104 hx rfl rfl rfl (pc0 := 182) (pc' := 185) (same := false) rfl (hb hby at_182) rfl (decide_eq_false fun q => (Nat.ne_of_lt (Nat.lt_of_lt_of_le E_w92_92c.lt P94_0)) (Value.ref.inj q)) (by decide) (by decide) hr) ?_
    refine Goes.step (T2 := T104) (g2 := (mkF m 187 #[iv p1, rv b83, rv b86, rv b87, rv b88, iv 0, rv w90, rv w92, rv w94, rv w96, iv 1, .unset] [(.ref w92)])) (fun _ hr => XS.aload X104.here hx rfl (hb hby at_185) rfl rfl hr) ?_
    refine Goes.step (T2 := T104) (g2 := (mkF m 189 #[iv p1, rv b83, rv b86, rv b87, rv b88, iv 0, rv w90, rv w92, rv w94, rv w96, iv 1, .unset] [(.ref w96), (.ref w92)])) (fun _ hr => XS.aload X104.here hx rfl (hb hby at_187) rfl rfl hr) ?_
    refine Goes.step (T2 := T104) (g2 := (mkF m 192 #[iv p1, rv b83, rv b86, rv b87, rv b88, iv 0, rv w90, rv w92, rv w94, rv w96, iv 1, .unset] [])) (fun _ hr => Jvm.RoadKit.acmp (g := (mkF m 189 #[iv p1, rv b83, rv b86, rv b87, rv b88, iv 0, rv w90, rv w92, rv w94, rv w96, iv 1, .unset] [(.ref w96), (.ref w92)])) X104 hx rfl rfl rfl (pc0 := 189) (pc' := 192) (same := false) rfl (hb hby at_189) rfl (decide_eq_false fun q => (Nat.ne_of_lt (Nat.lt_of_lt_of_le E_w92_94.lt P96_0)) (Value.ref.inj q)) (by decide) (by decide) hr) ?_
    refine Goes.step (T2 := T104) (g2 := (mkF m 194 #[iv p1, rv b83, rv b86, rv b87, rv b88, iv 0, rv w90, rv w92, rv w94, rv w96, iv 1, .unset] [(.ref w94)])) (fun _ hr => XS.aload X104.here hx rfl (hb hby at_192) rfl rfl hr) ?_
    refine Goes.step (T2 := T104) (g2 := (mkF m 196 #[iv p1, rv b83, rv b86, rv b87, rv b88, iv 0, rv w90, rv w92, rv w94, rv w96, iv 1, .unset] [(.ref w96), (.ref w94)])) (fun _ hr => XS.aload X104.here hx rfl (hb hby at_194) rfl rfl hr) ?_
    refine Goes.step (T2 := T104) (g2 := (mkF m 199 #[iv p1, rv b83, rv b86, rv b87, rv b88, iv 0, rv w90, rv w92, rv w94, rv w96, iv 1, .unset] [])) (fun _ hr => Jvm.RoadKit.acmp (g := (mkF m 196 #[iv p1, rv b83, rv b86, rv b87, rv b88, iv 0, rv w90, rv w92, rv w94, rv w96, iv 1, .unset] [(.ref w96), (.ref w94)])) X104 hx rfl rfl rfl (pc0 := 196) (pc' := 199) (same := false) rfl (hb hby at_196) rfl (decide_eq_false fun q => (Nat.ne_of_lt (Nat.lt_of_lt_of_le E_w94_94c.lt P96_0)) (Value.ref.inj q)) (by decide) (by decide) hr) ?_
    refine Goes.step (T2 := T104) (g2 := (mkF m 200 #[iv p1, rv b83, rv b86, rv b87, rv b88, iv 0, rv w90, rv w92, rv w94, rv w96, iv 1, .unset] [(.int (1 : Int32))])) (fun _ hr => XS.iconst X104.here hx rfl (hb hby at_199) hr) ?_
    refine Goes.step (T2 := T104) (g2 := (mkF m 204 #[iv p1, rv b83, rv b86, rv b87, rv b88, iv 0, rv w90, rv w92, rv w94, rv w96, iv 1, .unset] [(.int (1 : Int32))])) (fun _ hr => XS.goto X104.here hx rfl (pc0 := 200) (pc' := 204) rfl (hb hby at_200) (by decide) (by decide) hr) ?_
    refine Goes.step (T2 := T104) (g2 := (mkF m 206 #[iv p1, rv b83, rv b86, rv b87, rv b88, iv 0, rv w90, rv w92, rv w94, rv w96, iv 1, iv 1] [])) (fun _ hr => XS.istore X104.here hx rfl (hb hby at_204) rfl (l' := #[iv p1, rv b83, rv b86, rv b87, rv b88, iv 0, rv w90, rv w92, rv w94, rv w96, iv 1, iv 1]) rfl hr) ?_
    refine Goes.step (T2 := T104) (g2 := (mkF m 208 #[iv p1, rv b83, rv b86, rv b87, rv b88, iv 0, rv w90, rv w92, rv w94, rv w96, iv 1, iv 1] [(.int (1 : Int32))])) (fun _ hr => XS.iload X104.here hx rfl (hb hby at_206) rfl  hr) ?_
    refine Goes.step (T2 := T104) (g2 := (mkF m 211 #[iv p1, rv b83, rv b86, rv b87, rv b88, iv 0, rv w90, rv w92, rv w94, rv w96, iv 1, iv 1] [])) (fun _ hr => XS.ifNo X104.here hx rfl (hb hby at_208) rfl ((if0 _ _).trans (feq (by decide : ¬ ((1 : Int32) = (0 : Int32)))).1) hr) ?_
    refine Goes.step (T2 := T104) (g2 := (mkF m 213 #[iv p1, rv b83, rv b86, rv b87, rv b88, iv 0, rv w90, rv w92, rv w94, rv w96, iv 1, iv 1] [(.int (1 : Int32))])) (fun _ hr => XS.iload X104.here hx rfl (hb hby at_211) rfl  hr) ?_
    refine Goes.step (T2 := T104) (g2 := (mkF m 216 #[iv p1, rv b83, rv b86, rv b87, rv b88, iv 0, rv w90, rv w92, rv w94, rv w96, iv 1, iv 1] [])) (fun _ hr => XS.ifNo X104.here hx rfl (hb hby at_213) rfl ((if0 _ _).trans (feq (by decide : ¬ ((1 : Int32) = (0 : Int32)))).1) hr) ?_
    refine Goes.step (T2 := T104) (g2 := (mkF m 217 #[iv p1, rv b83, rv b86, rv b87, rv b88, iv 0, rv w90, rv w92, rv w94, rv w96, iv 1, iv 1] [(.int (1 : Int32))])) (fun _ hr => XS.iconst X104.here hx rfl (hb hby at_216) hr) ?_
    refine Goes.step (T2 := T104) (g2 := (mkF m 221 #[iv p1, rv b83, rv b86, rv b87, rv b88, iv 0, rv w90, rv w92, rv w94, rv w96, iv 1, iv 1] [(.int (1 : Int32))])) (fun _ hr => XS.goto X104.here hx rfl (pc0 := 217) (pc' := 221) rfl (hb hby at_217) (by decide) (by decide) hr) ?_
    exact Goes.ret (v := some (.int (1 : Int32))) X104 (by decide) (by decide) (fun h => by rw [Bd.returns] at h; cases h) ⟨rfl, N104⟩ (fun fs hr => retN X104 hx (t := .boolean) Bd.returns (by simp) (hb hby at_221) hr)
  · rw [hk]
    refine Goes.step (T2 := T88) (g2 := (mkF m 32 #[iv p1, rv b83, rv b86, rv b87, rv b88, iv 1, .unset, .unset, .unset, .unset, .unset, .unset] [])) (fun _ hr => XS.istore X88.here hx rfl (hb hby at_30) rfl (l' := #[iv p1, rv b83, rv b86, rv b87, rv b88, iv 1, .unset, .unset, .unset, .unset, .unset, .unset]) rfl hr) ?_
    refine Goes.step (T2 := T88) (g2 := (mkF m 34 #[iv p1, rv b83, rv b86, rv b87, rv b88, iv 1, .unset, .unset, .unset, .unset, .unset, .unset] [(.int (1 : Int32))])) (fun _ hr => XS.iload X88.here hx rfl (hb hby at_32) rfl  hr) ?_
    refine Goes.step (T2 := T88) (g2 := (mkF m 35 #[iv p1, rv b83, rv b86, rv b87, rv b88, iv 1, .unset, .unset, .unset, .unset, .unset, .unset] [(.int (1 : Int32)), (.int (1 : Int32))])) (fun _ hr => XS.iconst X88.here hx rfl (hb hby at_34) hr) ?_
    refine Goes.step (T2 := T88) (g2 := (mkF m 38 #[iv p1, rv b83, rv b86, rv b87, rv b88, iv 1, .unset, .unset, .unset, .unset, .unset, .unset] [])) (fun _ hr => XS.icmpNo X88.here hx rfl (hb hby at_35) rfl (flt (by decide : ¬ ((1 : Int32) < (1 : Int32)))).1 hr) ?_
    refine Goes.step (T2 := T88) (g2 := (mkF m 39 #[iv p1, rv b83, rv b86, rv b87, rv b88, iv 1, .unset, .unset, .unset, .unset, .unset, .unset] [(.ref b83)])) (fun _ hr => XS.aloadN X88.here hx rfl (hb hby at_38) rfl rfl hr) ?_
    refine Goes.step (T2 := T88) (g2 := (mkF m 40 #[iv p1, rv b83, rv b86, rv b87, rv b88, iv 1, .unset, .unset, .unset, .unset, .unset, .unset] [(.ref b86), (.ref b83)])) (fun _ hr => XS.aloadN X88.here hx rfl (hb hby at_39) rfl rfl hr) ?_
    have Zs105 : n0 ≤ h88.size := Nat.le_trans Z0 K88.1
    obtain ⟨cq106, kq106, q106a, q106b, q106c⟩ := isOf hZ e88 E_b83_88
    obtain ⟨_, _, ⟨T106, L106, k106, n106⟩, -, X106, ⟨Lc106, hQ106, l106, y106, z106⟩, st106⟩ := X88.virtualBack hx (y := Y2) (z := Y2) hown (mvT hZ (tw hw 25 rfl)) (mvT hZ (tw hw 26 rfl)) (notFace_of_selects (args := #[]) (mvT hZ (tw hw 28 rfl))) (mvT hZ (tw hw 28 rfl)) (mvT hZ (tw hw 27 rfl)) (by decide) (backOf (W := 0) (rm_give0 l Z a0 hw [] b83 sp85 k85 .null .null .null b86 h88 n0 Zs105 (Old.keep O0 K88 hws) E_b83_88 F_b83_spare_88 F_b83_spareCount_88 V_sp85_88 E_b86_88 (LenB.of V_b86_88) ge_b83 ge_sp85 (Nat.ne_of_lt (Nat.lt_of_lt_of_le A83.lt P85_0)) (Ne.symm (Nat.ne_of_lt (Nat.lt_of_lt_of_le E_b83_85.lt (Nat.le_of_eq g86.symm)))) (Ne.symm (Nat.ne_of_lt (Nat.lt_of_lt_of_le V_sp85_85c.lt (Nat.le_of_eq g86.symm)))) P85_4) hZ (tw hw 29 rfl) (tw hw 2 rfl) (by decide) (by decide)) q106a q106c (g := (mkF m 40 #[iv p1, rv b83, rv b86, rv b87, rv b88, iv 1, .unset, .unset, .unset, .unset, .unset, .unset] [(.ref b86), (.ref b83)])) rfl (by rw [hml]; rfl) (Steps.refl _) (argsL := [(.ref b86)]) (rest := []) (lenOf pd_4 rfl) rfl (by show 2 * 0 + _ ≤ _; exact Nat.le_of_eq rfl) (hb hby at_40) (fun _ _ => ⟨rfl, e88, (by decide : 5 + 0 ≤ _), (by decide : 49218 + 0 ≤ _)⟩)
    dsimp only [Pt.U, Pt.locs, Pt.cells, Pt.slots] at X106 l106 y106 z106 st106 hQ106
    subst l106 y106 z106
    obtain ⟨rfl, N106q, Kc106, P106_0, P106_1, P106_2⟩ := hQ106
    have N106 := Fr.app N85 N106q
    have E_b83_106 : Exa Z T106.heap b83 "com/example/api_policy_gateway/apipolicygateway/net/BufferPool" := E_b83_88.keep Kc106
    have V_b86_106 : Arv Z T106.heap b86 k86 .byte (16384 : Int32) [] (.int (0 : Int32)) := V_b86_88.keep Kc106 (ninS (Ne.symm (Nat.ne_of_lt (Nat.lt_of_lt_of_le E_b83_85.lt (Nat.le_of_eq g86.symm)))) (ninS (Ne.symm (Nat.ne_of_lt (Nat.lt_of_lt_of_le V_sp85_85c.lt (Nat.le_of_eq g86.symm)))) nin0))
    have E_b86_106 : Exa Z T106.heap b86 "[B" := E_b86_88.keep Kc106
    have V_b87_106 : Arv Z T106.heap b87 k87 .byte (16384 : Int32) [] (.int (0 : Int32)) := V_b87_88.keep Kc106 (ninS (Ne.symm (Nat.ne_of_lt (Nat.lt_of_lt_of_le E_b83_86.lt (Nat.le_of_eq g87.symm)))) (ninS (Ne.symm (Nat.ne_of_lt (Nat.lt_of_lt_of_le V_sp85_86.lt (Nat.le_of_eq g87.symm)))) nin0))
    have E_b87_106 : Exa Z T106.heap b87 "[B" := E_b87_88.keep Kc106
    have V_b88_106 : Arv Z T106.heap b88 k88 .byte (16384 : Int32) [] (.int (0 : Int32)) := V_b88_88.keep Kc106 (ninS (Ne.symm (Nat.ne_of_lt (Nat.lt_of_lt_of_le E_b83_87.lt (Nat.le_of_eq g88.symm)))) (ninS (Ne.symm (Nat.ne_of_lt (Nat.lt_of_lt_of_le V_sp85_87.lt (Nat.le_of_eq g88.symm)))) nin0))
    have E_b88_106 : Exa Z T106.heap b88 "[B" := Ax88.keep Kc106
    have K106 : Keep h0 T106.heap [] := K88.trans Kc106 (allS (Or.inr sz_b83) (allS (Or.inr sz_sp85) all0))
    have F_b83_spare_106c : Fld Z T106.heap b83 "com/example/api_policy_gateway/apipolicygateway/net/BufferPool" "spare" "[[B" (.ref sp85) := P106_0
    have F_b83_spareCount_106c : Fld Z T106.heap b83 "com/example/api_policy_gateway/apipolicygateway/net/BufferPool" "spareCount" "I" (.int (1 : Int32)) := P106_1
    have V_sp85_106c : Arv Z T106.heap sp85 k85 (.array .byte) (64 : Int32) [(.ref b86), .null, .null] .null := P106_2
    refine Goes.step (T2 := T106) (g2 := (mkF m 43 #[iv p1, rv b83, rv b86, rv b87, rv b88, iv 1, .unset, .unset, .unset, .unset, .unset, .unset] [])) (fun _ hr => st106.trans hr) ?_
    refine Goes.step (T2 := T106) (g2 := (mkF m 45 #[iv p1, rv b83, rv b86, rv b87, rv b88, iv 1, .unset, .unset, .unset, .unset, .unset, .unset] [(.int (1 : Int32))])) (fun _ hr => XS.iload X106.here hx rfl (hb hby at_43) rfl  hr) ?_
    refine Goes.step (T2 := T106) (g2 := (mkF m 46 #[iv p1, rv b83, rv b86, rv b87, rv b88, iv 1, .unset, .unset, .unset, .unset, .unset, .unset] [(.int (2 : Int32)), (.int (1 : Int32))])) (fun _ hr => XS.iconst X106.here hx rfl (hb hby at_45) hr) ?_
    refine Goes.step (T2 := T106) (g2 := (mkF m 54 #[iv p1, rv b83, rv b86, rv b87, rv b88, iv 1, .unset, .unset, .unset, .unset, .unset, .unset] [])) (fun _ hr => XS.icmpYes X106.here hx rfl (pc0 := 46) (pc' := 54) rfl (hb hby at_46) rfl (tlt (by decide : (1 : Int32) < (2 : Int32))).1 (by decide) (by decide) hr) ?_
    refine Goes.step (T2 := T106) (g2 := (mkF m 56 #[iv p1, rv b83, rv b86, rv b87, rv b88, iv 1, .unset, .unset, .unset, .unset, .unset, .unset] [(.int (1 : Int32))])) (fun _ hr => XS.iload X106.here hx rfl (hb hby at_54) rfl  hr) ?_
    refine Goes.step (T2 := T106) (g2 := (mkF m 57 #[iv p1, rv b83, rv b86, rv b87, rv b88, iv 1, .unset, .unset, .unset, .unset, .unset, .unset] [(.int (3 : Int32)), (.int (1 : Int32))])) (fun _ hr => XS.iconst X106.here hx rfl (hb hby at_56) hr) ?_
    refine Goes.step (T2 := T106) (g2 := (mkF m 66 #[iv p1, rv b83, rv b86, rv b87, rv b88, iv 1, .unset, .unset, .unset, .unset, .unset, .unset] [])) (fun _ hr => XS.icmpYes X106.here hx rfl (pc0 := 57) (pc' := 66) rfl (hb hby at_57) rfl (tlt (by decide : (1 : Int32) < (3 : Int32))).1 (by decide) (by decide) hr) ?_
    refine Goes.step (T2 := T106) (g2 := (mkF m 67 #[iv p1, rv b83, rv b86, rv b87, rv b88, iv 1, .unset, .unset, .unset, .unset, .unset, .unset] [(.ref b83)])) (fun _ hr => XS.aloadN X106.here hx rfl (hb hby at_66) rfl rfl hr) ?_
    have Zs107 : n0 ≤ T106.heap.size := Nat.le_trans Z0 K106.1
    obtain ⟨cq108, kq108, q108a, q108b, q108c⟩ := isOf hZ rfl E_b83_106
    obtain ⟨_, _, ⟨T108, L108, k108, n108⟩, -, X108, ⟨Lc108, hQ108, l108, y108, z108⟩, st108⟩ := X106.virtualBack hx (y := Y1) (z := Y1) hown (mvT hZ (tw hw 14 rfl)) (mvT hZ (tw hw 15 rfl)) (notFace_of_selects (args := #[]) (mvT hZ (tw hw 17 rfl))) (mvT hZ (tw hw 17 rfl)) (mvT hZ (tw hw 16 rfl)) (by decide) (backOf (W := 0) (rm_take1 l Z a0 hw [] b83 sp85 k85 .null .null b86 T106.heap n0 Zs107 (Old.keep O0 K106 hws) E_b83_106 F_b83_spare_106c F_b83_spareCount_106c V_sp85_106c ge_b83 ge_sp85 (Nat.ne_of_lt (Nat.lt_of_lt_of_le A83.lt P85_0))) hZ (tw hw 18 rfl) (tw hw 2 rfl) (by decide) (by decide)) q108a q108c (g := (mkF m 67 #[iv p1, rv b83, rv b86, rv b87, rv b88, iv 1, .unset, .unset, .unset, .unset, .unset, .unset] [(.ref b83)])) rfl (by rw [hml]; rfl) (Steps.refl _) (argsL := []) (rest := []) (lenOf pd_2 rfl) rfl (by show 2 * 0 + _ ≤ _; exact Nat.le_of_eq rfl) (hb hby at_67) (fun _ _ => ⟨rfl, rfl, (by decide : 5 + 0 ≤ _), (by decide : 49218 + 0 ≤ _)⟩)
    dsimp only [Pt.U, Pt.locs, Pt.cells, Pt.slots] at X108 l108 y108 z108 st108 hQ108
    subst l108 y108 z108
    obtain ⟨rfl, N108q, Kc108, P108_0, P108_1, P108_2⟩ := hQ108
    have N108 := Fr.app N106 N108q
    have E_b83_108 : Exa Z T108.heap b83 "com/example/api_policy_gateway/apipolicygateway/net/BufferPool" := E_b83_106.keep Kc108
    have V_b86_108 : Arv Z T108.heap b86 k86 .byte (16384 : Int32) [] (.int (0 : Int32)) := V_b86_106.keep Kc108 (ninS (Ne.symm (Nat.ne_of_lt (Nat.lt_of_lt_of_le E_b83_85.lt (Nat.le_of_eq g86.symm)))) (ninS (Ne.symm (Nat.ne_of_lt (Nat.lt_of_lt_of_le V_sp85_85c.lt (Nat.le_of_eq g86.symm)))) nin0))
    have E_b86_108 : Exa Z T108.heap b86 "[B" := E_b86_106.keep Kc108
    have V_b87_108 : Arv Z T108.heap b87 k87 .byte (16384 : Int32) [] (.int (0 : Int32)) := V_b87_106.keep Kc108 (ninS (Ne.symm (Nat.ne_of_lt (Nat.lt_of_lt_of_le E_b83_86.lt (Nat.le_of_eq g87.symm)))) (ninS (Ne.symm (Nat.ne_of_lt (Nat.lt_of_lt_of_le V_sp85_86.lt (Nat.le_of_eq g87.symm)))) nin0))
    have E_b87_108 : Exa Z T108.heap b87 "[B" := E_b87_106.keep Kc108
    have V_b88_108 : Arv Z T108.heap b88 k88 .byte (16384 : Int32) [] (.int (0 : Int32)) := V_b88_106.keep Kc108 (ninS (Ne.symm (Nat.ne_of_lt (Nat.lt_of_lt_of_le E_b83_87.lt (Nat.le_of_eq g88.symm)))) (ninS (Ne.symm (Nat.ne_of_lt (Nat.lt_of_lt_of_le V_sp85_87.lt (Nat.le_of_eq g88.symm)))) nin0))
    have E_b88_108 : Exa Z T108.heap b88 "[B" := E_b88_106.keep Kc108
    have K108 : Keep h0 T108.heap [] := K106.trans Kc108 (allS (Or.inr sz_b83) (allS (Or.inr sz_sp85) all0))
    have F_b83_spare_108c : Fld Z T108.heap b83 "com/example/api_policy_gateway/apipolicygateway/net/BufferPool" "spare" "[[B" (.ref sp85) := P108_0
    have F_b83_spareCount_108c : Fld Z T108.heap b83 "com/example/api_policy_gateway/apipolicygateway/net/BufferPool" "spareCount" "I" (.int (0 : Int32)) := P108_1
    have V_sp85_108c : Arv Z T108.heap sp85 k85 (.array .byte) (64 : Int32) [.null, .null, .null] .null := P108_2
    refine Goes.step (T2 := T108) (g2 := (mkF m 70 #[iv p1, rv b83, rv b86, rv b87, rv b88, iv 1, .unset, .unset, .unset, .unset, .unset, .unset] [(.ref b86)])) (fun _ hr => st108.trans hr) ?_
    refine Goes.step (T2 := T108) (g2 := (mkF m 72 #[iv p1, rv b83, rv b86, rv b87, rv b88, iv 1, rv b86, .unset, .unset, .unset, .unset, .unset] [])) (fun _ hr => XS.astore X108.here hx rfl (hb hby at_70) rfl rfl (l' := #[iv p1, rv b83, rv b86, rv b87, rv b88, iv 1, rv b86, .unset, .unset, .unset, .unset, .unset]) rfl hr) ?_
    refine Goes.step (T2 := T108) (g2 := (mkF m 73 #[iv p1, rv b83, rv b86, rv b87, rv b88, iv 1, rv b86, .unset, .unset, .unset, .unset, .unset] [(.ref b83)])) (fun _ hr => XS.aloadN X108.here hx rfl (hb hby at_72) rfl rfl hr) ?_
    have Zs109 : n0 ≤ T108.heap.size := Nat.le_trans Z0 K108.1
    obtain ⟨cq110, kq110, q110a, q110b, q110c⟩ := isOf hZ rfl E_b83_108
    obtain ⟨_, _, ⟨T110, L110, k110, n110⟩, -, X110, ⟨Lc110, hQ110, l110, y110, z110⟩, st110⟩ := X108.virtualBack hx (y := Y1) (z := Y1) hown (mvT hZ (tw hw 14 rfl)) (mvT hZ (tw hw 15 rfl)) (notFace_of_selects (args := #[]) (mvT hZ (tw hw 17 rfl))) (mvT hZ (tw hw 17 rfl)) (mvT hZ (tw hw 16 rfl)) (by decide) (backOf (W := 0) (rm_take0 l Z a0 hw [] b83 T108.heap n0 Zs109 (Old.keep O0 K108 hws) F_b83_spareCount_108c) hZ (tw hw 18 rfl) (tw hw 2 rfl) (by decide) (by decide)) q110a q110c (g := (mkF m 73 #[iv p1, rv b83, rv b86, rv b87, rv b88, iv 1, rv b86, .unset, .unset, .unset, .unset, .unset] [(.ref b83)])) rfl (by rw [hml]; rfl) (Steps.refl _) (argsL := []) (rest := []) (lenOf pd_2 rfl) rfl (by show 2 * 0 + _ ≤ _; exact Nat.le_of_eq rfl) (hb hby at_73) (fun _ _ => ⟨rfl, rfl, (by decide : 5 + 1 ≤ _), (by decide : 49218 + 16384 ≤ _)⟩)
    dsimp only [Pt.U, Pt.locs, Pt.cells, Pt.slots] at X110 l110 y110 z110 st110 hQ110
    subst l110 y110 z110
    obtain ⟨w110, kw110, rfl, N110q, Kc110, P110_0, P110_1, P110_2⟩ := hQ110
    have N110 := Fr.app N108 N110q
    have E_b83_110 : Exa Z T110.heap b83 "com/example/api_policy_gateway/apipolicygateway/net/BufferPool" := E_b83_108.keep Kc110
    have V_b86_110 : Arv Z T110.heap b86 k86 .byte (16384 : Int32) [] (.int (0 : Int32)) := V_b86_108.keep Kc110 nin0
    have E_b86_110 : Exa Z T110.heap b86 "[B" := E_b86_108.keep Kc110
    have V_b87_110 : Arv Z T110.heap b87 k87 .byte (16384 : Int32) [] (.int (0 : Int32)) := V_b87_108.keep Kc110 nin0
    have E_b87_110 : Exa Z T110.heap b87 "[B" := E_b87_108.keep Kc110
    have V_b88_110 : Arv Z T110.heap b88 k88 .byte (16384 : Int32) [] (.int (0 : Int32)) := V_b88_108.keep Kc110 nin0
    have E_b88_110 : Exa Z T110.heap b88 "[B" := E_b88_108.keep Kc110
    have F_b83_spare_110 : Fld Z T110.heap b83 "com/example/api_policy_gateway/apipolicygateway/net/BufferPool" "spare" "[[B" (.ref sp85) := F_b83_spare_108c.keep Kc110 nin0
    have F_b83_spareCount_110 : Fld Z T110.heap b83 "com/example/api_policy_gateway/apipolicygateway/net/BufferPool" "spareCount" "I" (.int (0 : Int32)) := F_b83_spareCount_108c.keep Kc110 nin0
    have V_sp85_110 : Arv Z T110.heap sp85 k85 (.array .byte) (64 : Int32) [.null, .null, .null] .null := V_sp85_108c.keep Kc110 nin0
    have K110 : Keep h0 T110.heap [] := K108.trans Kc110 all0
    have sz_w110 : h0.size ≤ w110 := Nat.le_trans K108.1 P110_0
    have ge_w110 : n0 ≤ w110 := Nat.le_trans Z0 sz_w110
    have E_w110_110c : Exa Z T110.heap w110 "[B" := P110_1
    have V_w110_110c : Arv Z T110.heap w110 kw110 .byte (16384 : Int32) [] (.int (0 : Int32)) := P110_2
    refine Goes.step (T2 := T110) (g2 := (mkF m 76 #[iv p1, rv b83, rv b86, rv b87, rv b88, iv 1, rv b86, .unset, .unset, .unset, .unset, .unset] [(.ref w110)])) (fun _ hr => st110.trans hr) ?_
    refine Goes.step (T2 := T110) (g2 := (mkF m 78 #[iv p1, rv b83, rv b86, rv b87, rv b88, iv 1, rv b86, rv w110, .unset, .unset, .unset, .unset] [])) (fun _ hr => XS.astore X110.here hx rfl (hb hby at_76) rfl rfl (l' := #[iv p1, rv b83, rv b86, rv b87, rv b88, iv 1, rv b86, rv w110, .unset, .unset, .unset, .unset]) rfl hr) ?_
    refine Goes.step (T2 := T110) (g2 := (mkF m 79 #[iv p1, rv b83, rv b86, rv b87, rv b88, iv 1, rv b86, rv w110, .unset, .unset, .unset, .unset] [(.ref b83)])) (fun _ hr => XS.aloadN X110.here hx rfl (hb hby at_78) rfl rfl hr) ?_
    have Zs111 : n0 ≤ T110.heap.size := Nat.le_trans Z0 K110.1
    obtain ⟨cq112, kq112, q112a, q112b, q112c⟩ := isOf hZ rfl E_b83_110
    obtain ⟨_, _, ⟨T112, L112, k112, n112⟩, -, X112, ⟨Lc112, hQ112, l112, y112, z112⟩, st112⟩ := X110.virtualBack hx (y := Y1) (z := Y1) hown (mvT hZ (tw hw 14 rfl)) (mvT hZ (tw hw 15 rfl)) (notFace_of_selects (args := #[]) (mvT hZ (tw hw 17 rfl))) (mvT hZ (tw hw 17 rfl)) (mvT hZ (tw hw 16 rfl)) (by decide) (backOf (W := 0) (rm_take0 l Z a0 hw [] b83 T110.heap n0 Zs111 (Old.keep O0 K110 hws) F_b83_spareCount_110) hZ (tw hw 18 rfl) (tw hw 2 rfl) (by decide) (by decide)) q112a q112c (g := (mkF m 79 #[iv p1, rv b83, rv b86, rv b87, rv b88, iv 1, rv b86, rv w110, .unset, .unset, .unset, .unset] [(.ref b83)])) rfl (by rw [hml]; rfl) (Steps.refl _) (argsL := []) (rest := []) (lenOf pd_2 rfl) rfl (by show 2 * 0 + _ ≤ _; exact Nat.le_of_eq rfl) (hb hby at_79) (fun _ _ => ⟨rfl, rfl, (by decide : 6 + 1 ≤ _), (by decide : 65602 + 16384 ≤ _)⟩)
    dsimp only [Pt.U, Pt.locs, Pt.cells, Pt.slots] at X112 l112 y112 z112 st112 hQ112
    subst l112 y112 z112
    obtain ⟨w112, kw112, rfl, N112q, Kc112, P112_0, P112_1, P112_2⟩ := hQ112
    have N112 := Fr.app N110 N112q
    have E_b83_112 : Exa Z T112.heap b83 "com/example/api_policy_gateway/apipolicygateway/net/BufferPool" := E_b83_110.keep Kc112
    have V_b86_112 : Arv Z T112.heap b86 k86 .byte (16384 : Int32) [] (.int (0 : Int32)) := V_b86_110.keep Kc112 nin0
    have E_b86_112 : Exa Z T112.heap b86 "[B" := E_b86_110.keep Kc112
    have V_b87_112 : Arv Z T112.heap b87 k87 .byte (16384 : Int32) [] (.int (0 : Int32)) := V_b87_110.keep Kc112 nin0
    have E_b87_112 : Exa Z T112.heap b87 "[B" := E_b87_110.keep Kc112
    have V_b88_112 : Arv Z T112.heap b88 k88 .byte (16384 : Int32) [] (.int (0 : Int32)) := V_b88_110.keep Kc112 nin0
    have E_b88_112 : Exa Z T112.heap b88 "[B" := E_b88_110.keep Kc112
    have F_b83_spare_112 : Fld Z T112.heap b83 "com/example/api_policy_gateway/apipolicygateway/net/BufferPool" "spare" "[[B" (.ref sp85) := F_b83_spare_110.keep Kc112 nin0
    have F_b83_spareCount_112 : Fld Z T112.heap b83 "com/example/api_policy_gateway/apipolicygateway/net/BufferPool" "spareCount" "I" (.int (0 : Int32)) := F_b83_spareCount_110.keep Kc112 nin0
    have V_sp85_112 : Arv Z T112.heap sp85 k85 (.array .byte) (64 : Int32) [.null, .null, .null] .null := V_sp85_110.keep Kc112 nin0
    have E_w110_112 : Exa Z T112.heap w110 "[B" := E_w110_110c.keep Kc112
    have V_w110_112 : Arv Z T112.heap w110 kw110 .byte (16384 : Int32) [] (.int (0 : Int32)) := V_w110_110c.keep Kc112 nin0
    have K112 : Keep h0 T112.heap [] := K110.trans Kc112 all0
    have sz_w112 : h0.size ≤ w112 := Nat.le_trans K110.1 P112_0
    have ge_w112 : n0 ≤ w112 := Nat.le_trans Z0 sz_w112
    have E_w112_112c : Exa Z T112.heap w112 "[B" := P112_1
    have V_w112_112c : Arv Z T112.heap w112 kw112 .byte (16384 : Int32) [] (.int (0 : Int32)) := P112_2
    refine Goes.step (T2 := T112) (g2 := (mkF m 82 #[iv p1, rv b83, rv b86, rv b87, rv b88, iv 1, rv b86, rv w110, .unset, .unset, .unset, .unset] [(.ref w112)])) (fun _ hr => st112.trans hr) ?_
    refine Goes.step (T2 := T112) (g2 := (mkF m 84 #[iv p1, rv b83, rv b86, rv b87, rv b88, iv 1, rv b86, rv w110, rv w112, .unset, .unset, .unset] [])) (fun _ hr => XS.astore X112.here hx rfl (hb hby at_82) rfl rfl (l' := #[iv p1, rv b83, rv b86, rv b87, rv b88, iv 1, rv b86, rv w110, rv w112, .unset, .unset, .unset]) rfl hr) ?_
    refine Goes.step (T2 := T112) (g2 := (mkF m 85 #[iv p1, rv b83, rv b86, rv b87, rv b88, iv 1, rv b86, rv w110, rv w112, .unset, .unset, .unset] [(.ref b83)])) (fun _ hr => XS.aloadN X112.here hx rfl (hb hby at_84) rfl rfl hr) ?_
    have Zs113 : n0 ≤ T112.heap.size := Nat.le_trans Z0 K112.1
    obtain ⟨cq114, kq114, q114a, q114b, q114c⟩ := isOf hZ rfl E_b83_112
    obtain ⟨_, _, ⟨T114, L114, k114, n114⟩, -, X114, ⟨Lc114, hQ114, l114, y114, z114⟩, st114⟩ := X112.virtualBack hx (y := Y1) (z := Y1) hown (mvT hZ (tw hw 14 rfl)) (mvT hZ (tw hw 15 rfl)) (notFace_of_selects (args := #[]) (mvT hZ (tw hw 17 rfl))) (mvT hZ (tw hw 17 rfl)) (mvT hZ (tw hw 16 rfl)) (by decide) (backOf (W := 0) (rm_take0 l Z a0 hw [] b83 T112.heap n0 Zs113 (Old.keep O0 K112 hws) F_b83_spareCount_112) hZ (tw hw 18 rfl) (tw hw 2 rfl) (by decide) (by decide)) q114a q114c (g := (mkF m 85 #[iv p1, rv b83, rv b86, rv b87, rv b88, iv 1, rv b86, rv w110, rv w112, .unset, .unset, .unset] [(.ref b83)])) rfl (by rw [hml]; rfl) (Steps.refl _) (argsL := []) (rest := []) (lenOf pd_2 rfl) rfl (by show 2 * 0 + _ ≤ _; exact Nat.le_of_eq rfl) (hb hby at_85) (fun _ _ => ⟨rfl, rfl, (by decide : 7 + 1 ≤ _), (by decide : 81986 + 16384 ≤ _)⟩)
    dsimp only [Pt.U, Pt.locs, Pt.cells, Pt.slots] at X114 l114 y114 z114 st114 hQ114
    subst l114 y114 z114
    obtain ⟨w114, kw114, rfl, N114q, Kc114, P114_0, P114_1, P114_2⟩ := hQ114
    have N114 := Fr.app N112 N114q
    have E_b83_114 : Exa Z T114.heap b83 "com/example/api_policy_gateway/apipolicygateway/net/BufferPool" := E_b83_112.keep Kc114
    have V_b86_114 : Arv Z T114.heap b86 k86 .byte (16384 : Int32) [] (.int (0 : Int32)) := V_b86_112.keep Kc114 nin0
    have E_b86_114 : Exa Z T114.heap b86 "[B" := E_b86_112.keep Kc114
    have V_b87_114 : Arv Z T114.heap b87 k87 .byte (16384 : Int32) [] (.int (0 : Int32)) := V_b87_112.keep Kc114 nin0
    have E_b87_114 : Exa Z T114.heap b87 "[B" := E_b87_112.keep Kc114
    have V_b88_114 : Arv Z T114.heap b88 k88 .byte (16384 : Int32) [] (.int (0 : Int32)) := V_b88_112.keep Kc114 nin0
    have E_b88_114 : Exa Z T114.heap b88 "[B" := E_b88_112.keep Kc114
    have F_b83_spare_114 : Fld Z T114.heap b83 "com/example/api_policy_gateway/apipolicygateway/net/BufferPool" "spare" "[[B" (.ref sp85) := F_b83_spare_112.keep Kc114 nin0
    have F_b83_spareCount_114 : Fld Z T114.heap b83 "com/example/api_policy_gateway/apipolicygateway/net/BufferPool" "spareCount" "I" (.int (0 : Int32)) := F_b83_spareCount_112.keep Kc114 nin0
    have V_sp85_114 : Arv Z T114.heap sp85 k85 (.array .byte) (64 : Int32) [.null, .null, .null] .null := V_sp85_112.keep Kc114 nin0
    have E_w110_114 : Exa Z T114.heap w110 "[B" := E_w110_112.keep Kc114
    have V_w110_114 : Arv Z T114.heap w110 kw110 .byte (16384 : Int32) [] (.int (0 : Int32)) := V_w110_112.keep Kc114 nin0
    have E_w112_114 : Exa Z T114.heap w112 "[B" := E_w112_112c.keep Kc114
    have V_w112_114 : Arv Z T114.heap w112 kw112 .byte (16384 : Int32) [] (.int (0 : Int32)) := V_w112_112c.keep Kc114 nin0
    have K114 : Keep h0 T114.heap [] := K112.trans Kc114 all0
    have sz_w114 : h0.size ≤ w114 := Nat.le_trans K112.1 P114_0
    have ge_w114 : n0 ≤ w114 := Nat.le_trans Z0 sz_w114
    have E_w114_114c : Exa Z T114.heap w114 "[B" := P114_1
    have V_w114_114c : Arv Z T114.heap w114 kw114 .byte (16384 : Int32) [] (.int (0 : Int32)) := P114_2
    refine Goes.step (T2 := T114) (g2 := (mkF m 88 #[iv p1, rv b83, rv b86, rv b87, rv b88, iv 1, rv b86, rv w110, rv w112, .unset, .unset, .unset] [(.ref w114)])) (fun _ hr => st114.trans hr) ?_
    refine Goes.step (T2 := T114) (g2 := (mkF m 90 #[iv p1, rv b83, rv b86, rv b87, rv b88, iv 1, rv b86, rv w110, rv w112, rv w114, .unset, .unset] [])) (fun _ hr => XS.astore X114.here hx rfl (hb hby at_88) rfl rfl (l' := #[iv p1, rv b83, rv b86, rv b87, rv b88, iv 1, rv b86, rv w110, rv w112, rv w114, .unset, .unset]) rfl hr) ?_
    refine Goes.step (T2 := T114) (g2 := (mkF m 92 #[iv p1, rv b83, rv b86, rv b87, rv b88, iv 1, rv b86, rv w110, rv w112, rv w114, .unset, .unset] [(.ref b86)])) (fun _ hr => XS.aload X114.here hx rfl (hb hby at_90) rfl rfl hr) ?_
    refine Goes.step (T2 := T114) (g2 := (mkF m 93 #[iv p1, rv b83, rv b86, rv b87, rv b88, iv 1, rv b86, rv w110, rv w112, rv w114, .unset, .unset] [(.int (0 : Int32)), (.ref b86)])) (fun _ hr => XS.iconst X114.here hx rfl (hb hby at_92) hr) ?_
    refine Goes.step (T2 := T114) (g2 := (mkF m 95 #[iv p1, rv b83, rv b86, rv b87, rv b88, iv 1, rv b86, rv w110, rv w112, rv w114, .unset, .unset] [(.int (1 : Int32)), (.int (0 : Int32)), (.ref b86)])) (fun _ hr => XS.iload X114.here hx rfl (hb hby at_93) rfl  hr) ?_
    refine Goes.step (T2 := T114) (g2 := (mkF m 96 #[iv p1, rv b83, rv b86, rv b87, rv b88, iv 1, rv b86, rv w110, rv w112, rv w114, .unset, .unset] [(.ref b86), (.int (1 : Int32)), (.int (0 : Int32)), (.ref b86)])) (fun _ hr => XS.aloadN X114.here hx rfl (hb hby at_95) rfl rfl hr) ?_
    refine Goes.step (T2 := T114) (g2 := (mkF m 97 #[iv p1, rv b83, rv b86, rv b87, rv b88, iv 1, rv b86, rv w110, rv w112, rv w114, .unset, .unset] [(.ref b87), (.ref b86), (.int (1 : Int32)), (.int (0 : Int32)), (.ref b86)])) (fun _ hr => XS.aloadN X114.here hx rfl (hb hby at_96) rfl rfl hr) ?_
    refine Goes.step (T2 := T114) (g2 := (mkF m 99 #[iv p1, rv b83, rv b86, rv b87, rv b88, iv 1, rv b86, rv w110, rv w112, rv w114, .unset, .unset] [(.ref b88), (.ref b87), (.ref b86), (.int (1 : Int32)), (.int (0 : Int32)), (.ref b86)])) (fun _ hr => XS.aload X114.here hx rfl (hb hby at_97) rfl rfl hr) ?_
    have Zs115 : n0 ≤ T114.heap.size := Nat.le_trans Z0 K114.1
    obtain ⟨_, _, ⟨T116, L116, k116, n116⟩, -, X116, ⟨Lc116, hQ116, l116, y116, z116⟩, st116⟩ := Jvm.LawKit.callS X114 hx (y := Y4) hown (mvT hZ (tw hw 21 rfl)) (mvT hZ (tw hw 22 rfl)) (mvT hZ (tw hw 23 rfl)) (mvT hZ (tw hw 24 rfl)) (by decide) (backOf (W := 0) (rm_exp01 l Z a0 hw [] b86 b87 b88 T114.heap n0 Zs115 (Old.keep O0 K114 hws)) hZ (tw hw 24 rfl) (tw hw 23 rfl) (by decide) (by decide)) (g := (mkF m 99 #[iv p1, rv b83, rv b86, rv b87, rv b88, iv 1, rv b86, rv w110, rv w112, rv w114, .unset, .unset] [(.ref b88), (.ref b87), (.ref b86), (.int (1 : Int32)), (.int (0 : Int32)), (.ref b86)])) rfl (by rw [hml]; rfl) (argsL := [(.ref b86), (.int (0 : Int32)), (.int (1 : Int32)), (.ref b86), (.ref b87), (.ref b88)]) (rest := []) (lenOf pd_3 rfl) rfl (by show 2 * 0 + _ ≤ _; exact Nat.le_of_eq rfl) (hb hby at_99) (fun _ _ => ⟨rfl, rfl, (by decide : 8 + 0 ≤ _), (by decide : 98370 + 0 ≤ _)⟩)
    dsimp only [Pt.U, Pt.locs, Pt.cells, Pt.slots] at X116 l116 y116 z116 st116 hQ116
    subst l116 y116 z116
    obtain ⟨rfl, N116q, e116⟩ := hQ116
    have N116 := Fr.app N114 N116q
    refine Goes.step (T2 := T116) (g2 := (mkF m 102 #[iv p1, rv b83, rv b86, rv b87, rv b88, iv 1, rv b86, rv w110, rv w112, rv w114, .unset, .unset] [(.int (1 : Int32))])) st116 ?_
    refine Goes.step (T2 := T116) (g2 := (mkF m 105 #[iv p1, rv b83, rv b86, rv b87, rv b88, iv 1, rv b86, rv w110, rv w112, rv w114, .unset, .unset] [])) (fun _ hr => XS.ifNo X116.here hx rfl (hb hby at_102) rfl ((if0 _ _).trans (feq (by decide : ¬ ((1 : Int32) = (0 : Int32)))).1) hr) ?_
    refine Goes.step (T2 := T116) (g2 := (mkF m 107 #[iv p1, rv b83, rv b86, rv b87, rv b88, iv 1, rv b86, rv w110, rv w112, rv w114, .unset, .unset] [(.ref w110)])) (fun _ hr => XS.aload X116.here hx rfl (hb hby at_105) rfl rfl hr) ?_
    refine Goes.step (T2 := T116) (g2 := (mkF m 108 #[iv p1, rv b83, rv b86, rv b87, rv b88, iv 1, rv b86, rv w110, rv w112, rv w114, .unset, .unset] [(.int (1 : Int32)), (.ref w110)])) (fun _ hr => XS.iconst X116.here hx rfl (hb hby at_107) hr) ?_
    refine Goes.step (T2 := T116) (g2 := (mkF m 110 #[iv p1, rv b83, rv b86, rv b87, rv b88, iv 1, rv b86, rv w110, rv w112, rv w114, .unset, .unset] [(.int (1 : Int32)), (.int (1 : Int32)), (.ref w110)])) (fun _ hr => XS.iload X116.here hx rfl (hb hby at_108) rfl  hr) ?_
    refine Goes.step (T2 := T116) (g2 := (mkF m 111 #[iv p1, rv b83, rv b86, rv b87, rv b88, iv 1, rv b86, rv w110, rv w112, rv w114, .unset, .unset] [(.ref b86), (.int (1 : Int32)), (.int (1 : Int32)), (.ref w110)])) (fun _ hr => XS.aloadN X116.here hx rfl (hb hby at_110) rfl rfl hr) ?_
    refine Goes.step (T2 := T116) (g2 := (mkF m 112 #[iv p1, rv b83, rv b86, rv b87, rv b88, iv 1, rv b86, rv w110, rv w112, rv w114, .unset, .unset] [(.ref b87), (.ref b86), (.int (1 : Int32)), (.int (1 : Int32)), (.ref w110)])) (fun _ hr => XS.aloadN X116.here hx rfl (hb hby at_111) rfl rfl hr) ?_
    refine Goes.step (T2 := T116) (g2 := (mkF m 114 #[iv p1, rv b83, rv b86, rv b87, rv b88, iv 1, rv b86, rv w110, rv w112, rv w114, .unset, .unset] [(.ref b88), (.ref b87), (.ref b86), (.int (1 : Int32)), (.int (1 : Int32)), (.ref w110)])) (fun _ hr => XS.aload X116.here hx rfl (hb hby at_112) rfl rfl hr) ?_
    have Zs117 : n0 ≤ T114.heap.size := Nat.le_trans Z0 K114.1
    obtain ⟨_, _, ⟨T118, L118, k118, n118⟩, -, X118, ⟨Lc118, hQ118, l118, y118, z118⟩, st118⟩ := Jvm.LawKit.callS X116 hx (y := Y4) hown (mvT hZ (tw hw 21 rfl)) (mvT hZ (tw hw 22 rfl)) (mvT hZ (tw hw 23 rfl)) (mvT hZ (tw hw 24 rfl)) (by decide) (backOf (W := 0) (rm_exp11 l Z a0 hw [] w110 b86 b87 b88 T114.heap n0 Zs117 (Old.keep O0 K114 hws) (LenB.of V_w110_114) (Ne.symm (Nat.ne_of_lt (Nat.lt_of_lt_of_le V_b86_108.lt P110_0))) (Ne.symm (Nat.ne_of_lt (Nat.lt_of_lt_of_le V_b87_108.lt P110_0))) (Ne.symm (Nat.ne_of_lt (Nat.lt_of_lt_of_le V_b88_108.lt P110_0)))) hZ (tw hw 24 rfl) (tw hw 23 rfl) (by decide) (by decide)) (g := (mkF m 114 #[iv p1, rv b83, rv b86, rv b87, rv b88, iv 1, rv b86, rv w110, rv w112, rv w114, .unset, .unset] [(.ref b88), (.ref b87), (.ref b86), (.int (1 : Int32)), (.int (1 : Int32)), (.ref w110)])) rfl (by rw [hml]; rfl) (argsL := [(.ref w110), (.int (1 : Int32)), (.int (1 : Int32)), (.ref b86), (.ref b87), (.ref b88)]) (rest := []) (lenOf pd_3 rfl) rfl (by show 2 * 0 + _ ≤ _; exact Nat.le_of_eq rfl) (hb hby at_114) (fun _ _ => ⟨rfl, e116, (by decide : 8 + 0 ≤ _), (by decide : 98370 + 0 ≤ _)⟩)
    dsimp only [Pt.U, Pt.locs, Pt.cells, Pt.slots] at X118 l118 y118 z118 st118 hQ118
    subst l118 y118 z118
    obtain ⟨rfl, N118q, e118⟩ := hQ118
    have N118 := Fr.app N116 N118q
    refine Goes.step (T2 := T118) (g2 := (mkF m 117 #[iv p1, rv b83, rv b86, rv b87, rv b88, iv 1, rv b86, rv w110, rv w112, rv w114, .unset, .unset] [(.int (1 : Int32))])) st118 ?_
    refine Goes.step (T2 := T118) (g2 := (mkF m 120 #[iv p1, rv b83, rv b86, rv b87, rv b88, iv 1, rv b86, rv w110, rv w112, rv w114, .unset, .unset] [])) (fun _ hr => XS.ifNo X118.here hx rfl (hb hby at_117) rfl ((if0 _ _).trans (feq (by decide : ¬ ((1 : Int32) = (0 : Int32)))).1) hr) ?_
    refine Goes.step (T2 := T118) (g2 := (mkF m 122 #[iv p1, rv b83, rv b86, rv b87, rv b88, iv 1, rv b86, rv w110, rv w112, rv w114, .unset, .unset] [(.ref w112)])) (fun _ hr => XS.aload X118.here hx rfl (hb hby at_120) rfl rfl hr) ?_
    refine Goes.step (T2 := T118) (g2 := (mkF m 123 #[iv p1, rv b83, rv b86, rv b87, rv b88, iv 1, rv b86, rv w110, rv w112, rv w114, .unset, .unset] [(.int (2 : Int32)), (.ref w112)])) (fun _ hr => XS.iconst X118.here hx rfl (hb hby at_122) hr) ?_
    refine Goes.step (T2 := T118) (g2 := (mkF m 125 #[iv p1, rv b83, rv b86, rv b87, rv b88, iv 1, rv b86, rv w110, rv w112, rv w114, .unset, .unset] [(.int (1 : Int32)), (.int (2 : Int32)), (.ref w112)])) (fun _ hr => XS.iload X118.here hx rfl (hb hby at_123) rfl  hr) ?_
    refine Goes.step (T2 := T118) (g2 := (mkF m 126 #[iv p1, rv b83, rv b86, rv b87, rv b88, iv 1, rv b86, rv w110, rv w112, rv w114, .unset, .unset] [(.ref b86), (.int (1 : Int32)), (.int (2 : Int32)), (.ref w112)])) (fun _ hr => XS.aloadN X118.here hx rfl (hb hby at_125) rfl rfl hr) ?_
    refine Goes.step (T2 := T118) (g2 := (mkF m 127 #[iv p1, rv b83, rv b86, rv b87, rv b88, iv 1, rv b86, rv w110, rv w112, rv w114, .unset, .unset] [(.ref b87), (.ref b86), (.int (1 : Int32)), (.int (2 : Int32)), (.ref w112)])) (fun _ hr => XS.aloadN X118.here hx rfl (hb hby at_126) rfl rfl hr) ?_
    refine Goes.step (T2 := T118) (g2 := (mkF m 129 #[iv p1, rv b83, rv b86, rv b87, rv b88, iv 1, rv b86, rv w110, rv w112, rv w114, .unset, .unset] [(.ref b88), (.ref b87), (.ref b86), (.int (1 : Int32)), (.int (2 : Int32)), (.ref w112)])) (fun _ hr => XS.aload X118.here hx rfl (hb hby at_127) rfl rfl hr) ?_
    have Zs119 : n0 ≤ T114.heap.size := Nat.le_trans Z0 K114.1
    obtain ⟨_, _, ⟨T120, L120, k120, n120⟩, -, X120, ⟨Lc120, hQ120, l120, y120, z120⟩, st120⟩ := Jvm.LawKit.callS X118 hx (y := Y4) hown (mvT hZ (tw hw 21 rfl)) (mvT hZ (tw hw 22 rfl)) (mvT hZ (tw hw 23 rfl)) (mvT hZ (tw hw 24 rfl)) (by decide) (backOf (W := 0) (rm_exp21 l Z a0 hw [] w112 b86 b87 b88 T114.heap n0 Zs119 (Old.keep O0 K114 hws) (LenB.of V_w112_114) (Ne.symm (Nat.ne_of_lt (Nat.lt_of_lt_of_le V_b86_110.lt P112_0))) (Ne.symm (Nat.ne_of_lt (Nat.lt_of_lt_of_le V_b87_110.lt P112_0))) (Ne.symm (Nat.ne_of_lt (Nat.lt_of_lt_of_le V_b88_110.lt P112_0)))) hZ (tw hw 24 rfl) (tw hw 23 rfl) (by decide) (by decide)) (g := (mkF m 129 #[iv p1, rv b83, rv b86, rv b87, rv b88, iv 1, rv b86, rv w110, rv w112, rv w114, .unset, .unset] [(.ref b88), (.ref b87), (.ref b86), (.int (1 : Int32)), (.int (2 : Int32)), (.ref w112)])) rfl (by rw [hml]; rfl) (argsL := [(.ref w112), (.int (2 : Int32)), (.int (1 : Int32)), (.ref b86), (.ref b87), (.ref b88)]) (rest := []) (lenOf pd_3 rfl) rfl (by show 2 * 0 + _ ≤ _; exact Nat.le_of_eq rfl) (hb hby at_129) (fun _ _ => ⟨rfl, e118, (by decide : 8 + 0 ≤ _), (by decide : 98370 + 0 ≤ _)⟩)
    dsimp only [Pt.U, Pt.locs, Pt.cells, Pt.slots] at X120 l120 y120 z120 st120 hQ120
    subst l120 y120 z120
    obtain ⟨rfl, N120q, e120⟩ := hQ120
    have N120 := Fr.app N118 N120q
    refine Goes.step (T2 := T120) (g2 := (mkF m 132 #[iv p1, rv b83, rv b86, rv b87, rv b88, iv 1, rv b86, rv w110, rv w112, rv w114, .unset, .unset] [(.int (1 : Int32))])) st120 ?_
    refine Goes.step (T2 := T120) (g2 := (mkF m 135 #[iv p1, rv b83, rv b86, rv b87, rv b88, iv 1, rv b86, rv w110, rv w112, rv w114, .unset, .unset] [])) (fun _ hr => XS.ifNo X120.here hx rfl (hb hby at_132) rfl ((if0 _ _).trans (feq (by decide : ¬ ((1 : Int32) = (0 : Int32)))).1) hr) ?_
    refine Goes.step (T2 := T120) (g2 := (mkF m 137 #[iv p1, rv b83, rv b86, rv b87, rv b88, iv 1, rv b86, rv w110, rv w112, rv w114, .unset, .unset] [(.ref w114)])) (fun _ hr => XS.aload X120.here hx rfl (hb hby at_135) rfl rfl hr) ?_
    refine Goes.step (T2 := T120) (g2 := (mkF m 138 #[iv p1, rv b83, rv b86, rv b87, rv b88, iv 1, rv b86, rv w110, rv w112, rv w114, .unset, .unset] [(.int (3 : Int32)), (.ref w114)])) (fun _ hr => XS.iconst X120.here hx rfl (hb hby at_137) hr) ?_
    refine Goes.step (T2 := T120) (g2 := (mkF m 140 #[iv p1, rv b83, rv b86, rv b87, rv b88, iv 1, rv b86, rv w110, rv w112, rv w114, .unset, .unset] [(.int (1 : Int32)), (.int (3 : Int32)), (.ref w114)])) (fun _ hr => XS.iload X120.here hx rfl (hb hby at_138) rfl  hr) ?_
    refine Goes.step (T2 := T120) (g2 := (mkF m 141 #[iv p1, rv b83, rv b86, rv b87, rv b88, iv 1, rv b86, rv w110, rv w112, rv w114, .unset, .unset] [(.ref b86), (.int (1 : Int32)), (.int (3 : Int32)), (.ref w114)])) (fun _ hr => XS.aloadN X120.here hx rfl (hb hby at_140) rfl rfl hr) ?_
    refine Goes.step (T2 := T120) (g2 := (mkF m 142 #[iv p1, rv b83, rv b86, rv b87, rv b88, iv 1, rv b86, rv w110, rv w112, rv w114, .unset, .unset] [(.ref b87), (.ref b86), (.int (1 : Int32)), (.int (3 : Int32)), (.ref w114)])) (fun _ hr => XS.aloadN X120.here hx rfl (hb hby at_141) rfl rfl hr) ?_
    refine Goes.step (T2 := T120) (g2 := (mkF m 144 #[iv p1, rv b83, rv b86, rv b87, rv b88, iv 1, rv b86, rv w110, rv w112, rv w114, .unset, .unset] [(.ref b88), (.ref b87), (.ref b86), (.int (1 : Int32)), (.int (3 : Int32)), (.ref w114)])) (fun _ hr => XS.aload X120.here hx rfl (hb hby at_142) rfl rfl hr) ?_
    have Zs121 : n0 ≤ T114.heap.size := Nat.le_trans Z0 K114.1
    obtain ⟨_, _, ⟨T122, L122, k122, n122⟩, -, X122, ⟨Lc122, hQ122, l122, y122, z122⟩, st122⟩ := Jvm.LawKit.callS X120 hx (y := Y4) hown (mvT hZ (tw hw 21 rfl)) (mvT hZ (tw hw 22 rfl)) (mvT hZ (tw hw 23 rfl)) (mvT hZ (tw hw 24 rfl)) (by decide) (backOf (W := 0) (rm_exp31 l Z a0 hw [] w114 b86 b87 b88 T114.heap n0 Zs121 (Old.keep O0 K114 hws) (LenB.of V_w114_114c) (Ne.symm (Nat.ne_of_lt (Nat.lt_of_lt_of_le V_b86_112.lt P114_0))) (Ne.symm (Nat.ne_of_lt (Nat.lt_of_lt_of_le V_b87_112.lt P114_0))) (Ne.symm (Nat.ne_of_lt (Nat.lt_of_lt_of_le V_b88_112.lt P114_0)))) hZ (tw hw 24 rfl) (tw hw 23 rfl) (by decide) (by decide)) (g := (mkF m 144 #[iv p1, rv b83, rv b86, rv b87, rv b88, iv 1, rv b86, rv w110, rv w112, rv w114, .unset, .unset] [(.ref b88), (.ref b87), (.ref b86), (.int (1 : Int32)), (.int (3 : Int32)), (.ref w114)])) rfl (by rw [hml]; rfl) (argsL := [(.ref w114), (.int (3 : Int32)), (.int (1 : Int32)), (.ref b86), (.ref b87), (.ref b88)]) (rest := []) (lenOf pd_3 rfl) rfl (by show 2 * 0 + _ ≤ _; exact Nat.le_of_eq rfl) (hb hby at_144) (fun _ _ => ⟨rfl, e120, (by decide : 8 + 0 ≤ _), (by decide : 98370 + 0 ≤ _)⟩)
    dsimp only [Pt.U, Pt.locs, Pt.cells, Pt.slots] at X122 l122 y122 z122 st122 hQ122
    subst l122 y122 z122
    obtain ⟨rfl, N122q, e122⟩ := hQ122
    have N122 := Fr.app N120 N122q
    refine Goes.step (T2 := T122) (g2 := (mkF m 147 #[iv p1, rv b83, rv b86, rv b87, rv b88, iv 1, rv b86, rv w110, rv w112, rv w114, .unset, .unset] [(.int (1 : Int32))])) st122 ?_
    refine Goes.step (T2 := T122) (g2 := (mkF m 150 #[iv p1, rv b83, rv b86, rv b87, rv b88, iv 1, rv b86, rv w110, rv w112, rv w114, .unset, .unset] [])) (fun _ hr => XS.ifNo X122.here hx rfl (hb hby at_147) rfl ((if0 _ _).trans (feq (by decide : ¬ ((1 : Int32) = (0 : Int32)))).1) hr) ?_
    refine Goes.step (T2 := T122) (g2 := (mkF m 151 #[iv p1, rv b83, rv b86, rv b87, rv b88, iv 1, rv b86, rv w110, rv w112, rv w114, .unset, .unset] [(.int (1 : Int32))])) (fun _ hr => XS.iconst X122.here hx rfl (hb hby at_150) hr) ?_
    refine Goes.step (T2 := T122) (g2 := (mkF m 155 #[iv p1, rv b83, rv b86, rv b87, rv b88, iv 1, rv b86, rv w110, rv w112, rv w114, .unset, .unset] [(.int (1 : Int32))])) (fun _ hr => XS.goto X122.here hx rfl (pc0 := 151) (pc' := 155) rfl (hb hby at_151) (by decide) (by decide) hr) ?_
    refine Goes.step (T2 := T122) (g2 := (mkF m 157 #[iv p1, rv b83, rv b86, rv b87, rv b88, iv 1, rv b86, rv w110, rv w112, rv w114, iv 1, .unset] [])) (fun _ hr => XS.istore X122.here hx rfl (hb hby at_155) rfl (l' := #[iv p1, rv b83, rv b86, rv b87, rv b88, iv 1, rv b86, rv w110, rv w112, rv w114, iv 1, .unset]) rfl hr) ?_
    refine Goes.step (T2 := T122) (g2 := (mkF m 159 #[iv p1, rv b83, rv b86, rv b87, rv b88, iv 1, rv b86, rv w110, rv w112, rv w114, iv 1, .unset] [(.ref b86)])) (fun _ hr => XS.aload X122.here hx rfl (hb hby at_157) rfl rfl hr) ?_
    refine Goes.step (T2 := T122) (g2 := (mkF m 161 #[iv p1, rv b83, rv b86, rv b87, rv b88, iv 1, rv b86, rv w110, rv w112, rv w114, iv 1, .unset] [(.ref w110), (.ref b86)])) (fun _ hr => XS.aload X122.here hx rfl (hb hby at_159) rfl rfl hr) ?_
    refine Goes.step (T2 := T122) (g2 := (mkF m 164 #[iv p1, rv b83, rv b86, rv b87, rv b88, iv 1, rv b86, rv w110, rv w112, rv w114, iv 1, .unset] [])) (fun _ hr => Jvm.RoadKit.acmp (g := (mkF m 161 #[iv p1, rv b83, rv b86, rv b87, rv b88, iv 1, rv b86, rv w110, rv w112, rv w114, iv 1, .unset] [(.ref w110), (.ref b86)])) X122 hx rfl rfl rfl (pc0 := 161) (pc' := 164) (same := false) rfl (hb hby at_161) rfl (decide_eq_false fun q => (Nat.ne_of_lt (Nat.lt_of_lt_of_le V_b86_108.lt P110_0)) (Value.ref.inj q)) (by decide) (by decide) hr) ?_
    refine Goes.step (T2 := T122) (g2 := (mkF m 166 #[iv p1, rv b83, rv b86, rv b87, rv b88, iv 1, rv b86, rv w110, rv w112, rv w114, iv 1, .unset] [(.ref b86)])) (fun _ hr => XS.aload X122.here hx rfl (hb hby at_164) rfl rfl hr) ?_
    refine Goes.step (T2 := T122) (g2 := (mkF m 168 #[iv p1, rv b83, rv b86, rv b87, rv b88, iv 1, rv b86, rv w110, rv w112, rv w114, iv 1, .unset] [(.ref w112), (.ref b86)])) (fun _ hr => XS.aload X122.here hx rfl (hb hby at_166) rfl rfl hr) ?_
    refine Goes.step (T2 := T122) (g2 := (mkF m 171 #[iv p1, rv b83, rv b86, rv b87, rv b88, iv 1, rv b86, rv w110, rv w112, rv w114, iv 1, .unset] [])) (fun _ hr => Jvm.RoadKit.acmp (g := (mkF m 168 #[iv p1, rv b83, rv b86, rv b87, rv b88, iv 1, rv b86, rv w110, rv w112, rv w114, iv 1, .unset] [(.ref w112), (.ref b86)])) X122 hx rfl rfl rfl (pc0 := 168) (pc' := 171) (same := false) rfl (hb hby at_168) rfl (decide_eq_false fun q => (Nat.ne_of_lt (Nat.lt_of_lt_of_le V_b86_110.lt P112_0)) (Value.ref.inj q)) (by decide) (by decide) hr) ?_
    refine Goes.step (T2 := T122) (g2 := (mkF m 173 #[iv p1, rv b83, rv b86, rv b87, rv b88, iv 1, rv b86, rv w110, rv w112, rv w114, iv 1, .unset] [(.ref b86)])) (fun _ hr => XS.aload X122.here hx rfl (hb hby at_171) rfl rfl hr) ?_
    refine Goes.step (T2 := T122) (g2 := (mkF m 175 #[iv p1, rv b83, rv b86, rv b87, rv b88, iv 1, rv b86, rv w110, rv w112, rv w114, iv 1, .unset] [(.ref w114), (.ref b86)])) (fun _ hr => XS.aload X122.here hx rfl (hb hby at_173) rfl rfl hr) ?_
    refine Goes.step (T2 := T122) (g2 := (mkF m 178 #[iv p1, rv b83, rv b86, rv b87, rv b88, iv 1, rv b86, rv w110, rv w112, rv w114, iv 1, .unset] [])) (fun _ hr => Jvm.RoadKit.acmp (g := (mkF m 175 #[iv p1, rv b83, rv b86, rv b87, rv b88, iv 1, rv b86, rv w110, rv w112, rv w114, iv 1, .unset] [(.ref w114), (.ref b86)])) X122 hx rfl rfl rfl (pc0 := 175) (pc' := 178) (same := false) rfl (hb hby at_175) rfl (decide_eq_false fun q => (Nat.ne_of_lt (Nat.lt_of_lt_of_le V_b86_112.lt P114_0)) (Value.ref.inj q)) (by decide) (by decide) hr) ?_
    refine Goes.step (T2 := T122) (g2 := (mkF m 180 #[iv p1, rv b83, rv b86, rv b87, rv b88, iv 1, rv b86, rv w110, rv w112, rv w114, iv 1, .unset] [(.ref w110)])) (fun _ hr => XS.aload X122.here hx rfl (hb hby at_178) rfl rfl hr) ?_
    refine Goes.step (T2 := T122) (g2 := (mkF m 182 #[iv p1, rv b83, rv b86, rv b87, rv b88, iv 1, rv b86, rv w110, rv w112, rv w114, iv 1, .unset] [(.ref w112), (.ref w110)])) (fun _ hr => XS.aload X122.here hx rfl (hb hby at_180) rfl rfl hr) ?_
    refine Goes.step (T2 := T122) (g2 := (mkF m 185 #[iv p1, rv b83, rv b86, rv b87, rv b88, iv 1, rv b86, rv w110, rv w112, rv w114, iv 1, .unset] [])) (fun _ hr => Jvm.RoadKit.acmp (g := (mkF m 182 #[iv p1, rv b83, rv b86, rv b87, rv b88, iv 1, rv b86, rv w110, rv w112, rv w114, iv 1, .unset] [(.ref w112), (.ref w110)])) X122 hx rfl rfl rfl (pc0 := 182) (pc' := 185) (same := false) rfl (hb hby at_182) rfl (decide_eq_false fun q => (Nat.ne_of_lt (Nat.lt_of_lt_of_le E_w110_110c.lt P112_0)) (Value.ref.inj q)) (by decide) (by decide) hr) ?_
    refine Goes.step (T2 := T122) (g2 := (mkF m 187 #[iv p1, rv b83, rv b86, rv b87, rv b88, iv 1, rv b86, rv w110, rv w112, rv w114, iv 1, .unset] [(.ref w110)])) (fun _ hr => XS.aload X122.here hx rfl (hb hby at_185) rfl rfl hr) ?_
    refine Goes.step (T2 := T122) (g2 := (mkF m 189 #[iv p1, rv b83, rv b86, rv b87, rv b88, iv 1, rv b86, rv w110, rv w112, rv w114, iv 1, .unset] [(.ref w114), (.ref w110)])) (fun _ hr => XS.aload X122.here hx rfl (hb hby at_187) rfl rfl hr) ?_
    refine Goes.step (T2 := T122) (g2 := (mkF m 192 #[iv p1, rv b83, rv b86, rv b87, rv b88, iv 1, rv b86, rv w110, rv w112, rv w114, iv 1, .unset] [])) (fun _ hr => Jvm.RoadKit.acmp (g := (mkF m 189 #[iv p1, rv b83, rv b86, rv b87, rv b88, iv 1, rv b86, rv w110, rv w112, rv w114, iv 1, .unset] [(.ref w114), (.ref w110)])) X122 hx rfl rfl rfl (pc0 := 189) (pc' := 192) (same := false) rfl (hb hby at_189) rfl (decide_eq_false fun q => (Nat.ne_of_lt (Nat.lt_of_lt_of_le E_w110_112.lt P114_0)) (Value.ref.inj q)) (by decide) (by decide) hr) ?_
    refine Goes.step (T2 := T122) (g2 := (mkF m 194 #[iv p1, rv b83, rv b86, rv b87, rv b88, iv 1, rv b86, rv w110, rv w112, rv w114, iv 1, .unset] [(.ref w112)])) (fun _ hr => XS.aload X122.here hx rfl (hb hby at_192) rfl rfl hr) ?_
    refine Goes.step (T2 := T122) (g2 := (mkF m 196 #[iv p1, rv b83, rv b86, rv b87, rv b88, iv 1, rv b86, rv w110, rv w112, rv w114, iv 1, .unset] [(.ref w114), (.ref w112)])) (fun _ hr => XS.aload X122.here hx rfl (hb hby at_194) rfl rfl hr) ?_
    refine Goes.step (T2 := T122) (g2 := (mkF m 199 #[iv p1, rv b83, rv b86, rv b87, rv b88, iv 1, rv b86, rv w110, rv w112, rv w114, iv 1, .unset] [])) (fun _ hr => Jvm.RoadKit.acmp (g := (mkF m 196 #[iv p1, rv b83, rv b86, rv b87, rv b88, iv 1, rv b86, rv w110, rv w112, rv w114, iv 1, .unset] [(.ref w114), (.ref w112)])) X122 hx rfl rfl rfl (pc0 := 196) (pc' := 199) (same := false) rfl (hb hby at_196) rfl (decide_eq_false fun q => (Nat.ne_of_lt (Nat.lt_of_lt_of_le E_w112_112c.lt P114_0)) (Value.ref.inj q)) (by decide) (by decide) hr) ?_
    refine Goes.step (T2 := T122) (g2 := (mkF m 200 #[iv p1, rv b83, rv b86, rv b87, rv b88, iv 1, rv b86, rv w110, rv w112, rv w114, iv 1, .unset] [(.int (1 : Int32))])) (fun _ hr => XS.iconst X122.here hx rfl (hb hby at_199) hr) ?_
    refine Goes.step (T2 := T122) (g2 := (mkF m 204 #[iv p1, rv b83, rv b86, rv b87, rv b88, iv 1, rv b86, rv w110, rv w112, rv w114, iv 1, .unset] [(.int (1 : Int32))])) (fun _ hr => XS.goto X122.here hx rfl (pc0 := 200) (pc' := 204) rfl (hb hby at_200) (by decide) (by decide) hr) ?_
    refine Goes.step (T2 := T122) (g2 := (mkF m 206 #[iv p1, rv b83, rv b86, rv b87, rv b88, iv 1, rv b86, rv w110, rv w112, rv w114, iv 1, iv 1] [])) (fun _ hr => XS.istore X122.here hx rfl (hb hby at_204) rfl (l' := #[iv p1, rv b83, rv b86, rv b87, rv b88, iv 1, rv b86, rv w110, rv w112, rv w114, iv 1, iv 1]) rfl hr) ?_
    refine Goes.step (T2 := T122) (g2 := (mkF m 208 #[iv p1, rv b83, rv b86, rv b87, rv b88, iv 1, rv b86, rv w110, rv w112, rv w114, iv 1, iv 1] [(.int (1 : Int32))])) (fun _ hr => XS.iload X122.here hx rfl (hb hby at_206) rfl  hr) ?_
    refine Goes.step (T2 := T122) (g2 := (mkF m 211 #[iv p1, rv b83, rv b86, rv b87, rv b88, iv 1, rv b86, rv w110, rv w112, rv w114, iv 1, iv 1] [])) (fun _ hr => XS.ifNo X122.here hx rfl (hb hby at_208) rfl ((if0 _ _).trans (feq (by decide : ¬ ((1 : Int32) = (0 : Int32)))).1) hr) ?_
    refine Goes.step (T2 := T122) (g2 := (mkF m 213 #[iv p1, rv b83, rv b86, rv b87, rv b88, iv 1, rv b86, rv w110, rv w112, rv w114, iv 1, iv 1] [(.int (1 : Int32))])) (fun _ hr => XS.iload X122.here hx rfl (hb hby at_211) rfl  hr) ?_
    refine Goes.step (T2 := T122) (g2 := (mkF m 216 #[iv p1, rv b83, rv b86, rv b87, rv b88, iv 1, rv b86, rv w110, rv w112, rv w114, iv 1, iv 1] [])) (fun _ hr => XS.ifNo X122.here hx rfl (hb hby at_213) rfl ((if0 _ _).trans (feq (by decide : ¬ ((1 : Int32) = (0 : Int32)))).1) hr) ?_
    refine Goes.step (T2 := T122) (g2 := (mkF m 217 #[iv p1, rv b83, rv b86, rv b87, rv b88, iv 1, rv b86, rv w110, rv w112, rv w114, iv 1, iv 1] [(.int (1 : Int32))])) (fun _ hr => XS.iconst X122.here hx rfl (hb hby at_216) hr) ?_
    refine Goes.step (T2 := T122) (g2 := (mkF m 221 #[iv p1, rv b83, rv b86, rv b87, rv b88, iv 1, rv b86, rv w110, rv w112, rv w114, iv 1, iv 1] [(.int (1 : Int32))])) (fun _ hr => XS.goto X122.here hx rfl (pc0 := 217) (pc' := 221) rfl (hb hby at_217) (by decide) (by decide) hr) ?_
    exact Goes.ret (v := some (.int (1 : Int32))) X122 (by decide) (by decide) (fun h => by rw [Bd.returns] at h; cases h) ⟨rfl, N122⟩ (fun fs hr => retN X122 hx (t := .boolean) Bd.returns (by simp) (hb hby at_221) hr)
  · rw [hk]
    refine Goes.step (T2 := T88) (g2 := (mkF m 32 #[iv p1, rv b83, rv b86, rv b87, rv b88, iv 2, .unset, .unset, .unset, .unset, .unset, .unset] [])) (fun _ hr => XS.istore X88.here hx rfl (hb hby at_30) rfl (l' := #[iv p1, rv b83, rv b86, rv b87, rv b88, iv 2, .unset, .unset, .unset, .unset, .unset, .unset]) rfl hr) ?_
    refine Goes.step (T2 := T88) (g2 := (mkF m 34 #[iv p1, rv b83, rv b86, rv b87, rv b88, iv 2, .unset, .unset, .unset, .unset, .unset, .unset] [(.int (2 : Int32))])) (fun _ hr => XS.iload X88.here hx rfl (hb hby at_32) rfl  hr) ?_
    refine Goes.step (T2 := T88) (g2 := (mkF m 35 #[iv p1, rv b83, rv b86, rv b87, rv b88, iv 2, .unset, .unset, .unset, .unset, .unset, .unset] [(.int (1 : Int32)), (.int (2 : Int32))])) (fun _ hr => XS.iconst X88.here hx rfl (hb hby at_34) hr) ?_
    refine Goes.step (T2 := T88) (g2 := (mkF m 38 #[iv p1, rv b83, rv b86, rv b87, rv b88, iv 2, .unset, .unset, .unset, .unset, .unset, .unset] [])) (fun _ hr => XS.icmpNo X88.here hx rfl (hb hby at_35) rfl (flt (by decide : ¬ ((2 : Int32) < (1 : Int32)))).1 hr) ?_
    refine Goes.step (T2 := T88) (g2 := (mkF m 39 #[iv p1, rv b83, rv b86, rv b87, rv b88, iv 2, .unset, .unset, .unset, .unset, .unset, .unset] [(.ref b83)])) (fun _ hr => XS.aloadN X88.here hx rfl (hb hby at_38) rfl rfl hr) ?_
    refine Goes.step (T2 := T88) (g2 := (mkF m 40 #[iv p1, rv b83, rv b86, rv b87, rv b88, iv 2, .unset, .unset, .unset, .unset, .unset, .unset] [(.ref b86), (.ref b83)])) (fun _ hr => XS.aloadN X88.here hx rfl (hb hby at_39) rfl rfl hr) ?_
    have Zs123 : n0 ≤ h88.size := Nat.le_trans Z0 K88.1
    obtain ⟨cq124, kq124, q124a, q124b, q124c⟩ := isOf hZ e88 E_b83_88
    obtain ⟨_, _, ⟨T124, L124, k124, n124⟩, -, X124, ⟨Lc124, hQ124, l124, y124, z124⟩, st124⟩ := X88.virtualBack hx (y := Y2) (z := Y2) hown (mvT hZ (tw hw 25 rfl)) (mvT hZ (tw hw 26 rfl)) (notFace_of_selects (args := #[]) (mvT hZ (tw hw 28 rfl))) (mvT hZ (tw hw 28 rfl)) (mvT hZ (tw hw 27 rfl)) (by decide) (backOf (W := 0) (rm_give0 l Z a0 hw [] b83 sp85 k85 .null .null .null b86 h88 n0 Zs123 (Old.keep O0 K88 hws) E_b83_88 F_b83_spare_88 F_b83_spareCount_88 V_sp85_88 E_b86_88 (LenB.of V_b86_88) ge_b83 ge_sp85 (Nat.ne_of_lt (Nat.lt_of_lt_of_le A83.lt P85_0)) (Ne.symm (Nat.ne_of_lt (Nat.lt_of_lt_of_le E_b83_85.lt (Nat.le_of_eq g86.symm)))) (Ne.symm (Nat.ne_of_lt (Nat.lt_of_lt_of_le V_sp85_85c.lt (Nat.le_of_eq g86.symm)))) P85_4) hZ (tw hw 29 rfl) (tw hw 2 rfl) (by decide) (by decide)) q124a q124c (g := (mkF m 40 #[iv p1, rv b83, rv b86, rv b87, rv b88, iv 2, .unset, .unset, .unset, .unset, .unset, .unset] [(.ref b86), (.ref b83)])) rfl (by rw [hml]; rfl) (Steps.refl _) (argsL := [(.ref b86)]) (rest := []) (lenOf pd_4 rfl) rfl (by show 2 * 0 + _ ≤ _; exact Nat.le_of_eq rfl) (hb hby at_40) (fun _ _ => ⟨rfl, e88, (by decide : 5 + 0 ≤ _), (by decide : 49218 + 0 ≤ _)⟩)
    dsimp only [Pt.U, Pt.locs, Pt.cells, Pt.slots] at X124 l124 y124 z124 st124 hQ124
    subst l124 y124 z124
    obtain ⟨rfl, N124q, Kc124, P124_0, P124_1, P124_2⟩ := hQ124
    have N124 := Fr.app N85 N124q
    have E_b83_124 : Exa Z T124.heap b83 "com/example/api_policy_gateway/apipolicygateway/net/BufferPool" := E_b83_88.keep Kc124
    have V_b86_124 : Arv Z T124.heap b86 k86 .byte (16384 : Int32) [] (.int (0 : Int32)) := V_b86_88.keep Kc124 (ninS (Ne.symm (Nat.ne_of_lt (Nat.lt_of_lt_of_le E_b83_85.lt (Nat.le_of_eq g86.symm)))) (ninS (Ne.symm (Nat.ne_of_lt (Nat.lt_of_lt_of_le V_sp85_85c.lt (Nat.le_of_eq g86.symm)))) nin0))
    have E_b86_124 : Exa Z T124.heap b86 "[B" := E_b86_88.keep Kc124
    have V_b87_124 : Arv Z T124.heap b87 k87 .byte (16384 : Int32) [] (.int (0 : Int32)) := V_b87_88.keep Kc124 (ninS (Ne.symm (Nat.ne_of_lt (Nat.lt_of_lt_of_le E_b83_86.lt (Nat.le_of_eq g87.symm)))) (ninS (Ne.symm (Nat.ne_of_lt (Nat.lt_of_lt_of_le V_sp85_86.lt (Nat.le_of_eq g87.symm)))) nin0))
    have E_b87_124 : Exa Z T124.heap b87 "[B" := E_b87_88.keep Kc124
    have V_b88_124 : Arv Z T124.heap b88 k88 .byte (16384 : Int32) [] (.int (0 : Int32)) := V_b88_88.keep Kc124 (ninS (Ne.symm (Nat.ne_of_lt (Nat.lt_of_lt_of_le E_b83_87.lt (Nat.le_of_eq g88.symm)))) (ninS (Ne.symm (Nat.ne_of_lt (Nat.lt_of_lt_of_le V_sp85_87.lt (Nat.le_of_eq g88.symm)))) nin0))
    have E_b88_124 : Exa Z T124.heap b88 "[B" := Ax88.keep Kc124
    have K124 : Keep h0 T124.heap [] := K88.trans Kc124 (allS (Or.inr sz_b83) (allS (Or.inr sz_sp85) all0))
    have F_b83_spare_124c : Fld Z T124.heap b83 "com/example/api_policy_gateway/apipolicygateway/net/BufferPool" "spare" "[[B" (.ref sp85) := P124_0
    have F_b83_spareCount_124c : Fld Z T124.heap b83 "com/example/api_policy_gateway/apipolicygateway/net/BufferPool" "spareCount" "I" (.int (1 : Int32)) := P124_1
    have V_sp85_124c : Arv Z T124.heap sp85 k85 (.array .byte) (64 : Int32) [(.ref b86), .null, .null] .null := P124_2
    refine Goes.step (T2 := T124) (g2 := (mkF m 43 #[iv p1, rv b83, rv b86, rv b87, rv b88, iv 2, .unset, .unset, .unset, .unset, .unset, .unset] [])) (fun _ hr => st124.trans hr) ?_
    refine Goes.step (T2 := T124) (g2 := (mkF m 45 #[iv p1, rv b83, rv b86, rv b87, rv b88, iv 2, .unset, .unset, .unset, .unset, .unset, .unset] [(.int (2 : Int32))])) (fun _ hr => XS.iload X124.here hx rfl (hb hby at_43) rfl  hr) ?_
    refine Goes.step (T2 := T124) (g2 := (mkF m 46 #[iv p1, rv b83, rv b86, rv b87, rv b88, iv 2, .unset, .unset, .unset, .unset, .unset, .unset] [(.int (2 : Int32)), (.int (2 : Int32))])) (fun _ hr => XS.iconst X124.here hx rfl (hb hby at_45) hr) ?_
    refine Goes.step (T2 := T124) (g2 := (mkF m 49 #[iv p1, rv b83, rv b86, rv b87, rv b88, iv 2, .unset, .unset, .unset, .unset, .unset, .unset] [])) (fun _ hr => XS.icmpNo X124.here hx rfl (hb hby at_46) rfl (flt (by decide : ¬ ((2 : Int32) < (2 : Int32)))).1 hr) ?_
    refine Goes.step (T2 := T124) (g2 := (mkF m 50 #[iv p1, rv b83, rv b86, rv b87, rv b88, iv 2, .unset, .unset, .unset, .unset, .unset, .unset] [(.ref b83)])) (fun _ hr => XS.aloadN X124.here hx rfl (hb hby at_49) rfl rfl hr) ?_
    refine Goes.step (T2 := T124) (g2 := (mkF m 51 #[iv p1, rv b83, rv b86, rv b87, rv b88, iv 2, .unset, .unset, .unset, .unset, .unset, .unset] [(.ref b87), (.ref b83)])) (fun _ hr => XS.aloadN X124.here hx rfl (hb hby at_50) rfl rfl hr) ?_
    have Zs125 : n0 ≤ T124.heap.size := Nat.le_trans Z0 K124.1
    obtain ⟨cq126, kq126, q126a, q126b, q126c⟩ := isOf hZ rfl E_b83_124
    obtain ⟨_, _, ⟨T126, L126, k126, n126⟩, -, X126, ⟨Lc126, hQ126, l126, y126, z126⟩, st126⟩ := X124.virtualBack hx (y := Y2) (z := Y2) hown (mvT hZ (tw hw 25 rfl)) (mvT hZ (tw hw 26 rfl)) (notFace_of_selects (args := #[]) (mvT hZ (tw hw 28 rfl))) (mvT hZ (tw hw 28 rfl)) (mvT hZ (tw hw 27 rfl)) (by decide) (backOf (W := 0) (rm_give1 l Z a0 hw [] b83 sp85 k85 (.ref b86) .null .null b87 T124.heap n0 Zs125 (Old.keep O0 K124 hws) E_b83_124 F_b83_spare_124c F_b83_spareCount_124c V_sp85_124c E_b87_124 (LenB.of V_b87_124) ge_b83 ge_sp85 (Nat.ne_of_lt (Nat.lt_of_lt_of_le A83.lt P85_0)) (Ne.symm (Nat.ne_of_lt (Nat.lt_of_lt_of_le E_b83_86.lt (Nat.le_of_eq g87.symm)))) (Ne.symm (Nat.ne_of_lt (Nat.lt_of_lt_of_le V_sp85_86.lt (Nat.le_of_eq g87.symm)))) P85_4) hZ (tw hw 29 rfl) (tw hw 2 rfl) (by decide) (by decide)) q126a q126c (g := (mkF m 51 #[iv p1, rv b83, rv b86, rv b87, rv b88, iv 2, .unset, .unset, .unset, .unset, .unset, .unset] [(.ref b87), (.ref b83)])) rfl (by rw [hml]; rfl) (Steps.refl _) (argsL := [(.ref b87)]) (rest := []) (lenOf pd_4 rfl) rfl (by show 2 * 0 + _ ≤ _; exact Nat.le_of_eq rfl) (hb hby at_51) (fun _ _ => ⟨rfl, rfl, (by decide : 5 + 0 ≤ _), (by decide : 49218 + 0 ≤ _)⟩)
    dsimp only [Pt.U, Pt.locs, Pt.cells, Pt.slots] at X126 l126 y126 z126 st126 hQ126
    subst l126 y126 z126
    obtain ⟨rfl, N126q, Kc126, P126_0, P126_1, P126_2⟩ := hQ126
    have N126 := Fr.app N124 N126q
    have E_b83_126 : Exa Z T126.heap b83 "com/example/api_policy_gateway/apipolicygateway/net/BufferPool" := E_b83_124.keep Kc126
    have V_b86_126 : Arv Z T126.heap b86 k86 .byte (16384 : Int32) [] (.int (0 : Int32)) := V_b86_124.keep Kc126 (ninS (Ne.symm (Nat.ne_of_lt (Nat.lt_of_lt_of_le E_b83_85.lt (Nat.le_of_eq g86.symm)))) (ninS (Ne.symm (Nat.ne_of_lt (Nat.lt_of_lt_of_le V_sp85_85c.lt (Nat.le_of_eq g86.symm)))) nin0))
    have E_b86_126 : Exa Z T126.heap b86 "[B" := E_b86_124.keep Kc126
    have V_b87_126 : Arv Z T126.heap b87 k87 .byte (16384 : Int32) [] (.int (0 : Int32)) := V_b87_124.keep Kc126 (ninS (Ne.symm (Nat.ne_of_lt (Nat.lt_of_lt_of_le E_b83_86.lt (Nat.le_of_eq g87.symm)))) (ninS (Ne.symm (Nat.ne_of_lt (Nat.lt_of_lt_of_le V_sp85_86.lt (Nat.le_of_eq g87.symm)))) nin0))
    have E_b87_126 : Exa Z T126.heap b87 "[B" := E_b87_124.keep Kc126
    have V_b88_126 : Arv Z T126.heap b88 k88 .byte (16384 : Int32) [] (.int (0 : Int32)) := V_b88_124.keep Kc126 (ninS (Ne.symm (Nat.ne_of_lt (Nat.lt_of_lt_of_le E_b83_87.lt (Nat.le_of_eq g88.symm)))) (ninS (Ne.symm (Nat.ne_of_lt (Nat.lt_of_lt_of_le V_sp85_87.lt (Nat.le_of_eq g88.symm)))) nin0))
    have E_b88_126 : Exa Z T126.heap b88 "[B" := E_b88_124.keep Kc126
    have K126 : Keep h0 T126.heap [] := K124.trans Kc126 (allS (Or.inr sz_b83) (allS (Or.inr sz_sp85) all0))
    have F_b83_spare_126c : Fld Z T126.heap b83 "com/example/api_policy_gateway/apipolicygateway/net/BufferPool" "spare" "[[B" (.ref sp85) := P126_0
    have F_b83_spareCount_126c : Fld Z T126.heap b83 "com/example/api_policy_gateway/apipolicygateway/net/BufferPool" "spareCount" "I" (.int (2 : Int32)) := P126_1
    have V_sp85_126c : Arv Z T126.heap sp85 k85 (.array .byte) (64 : Int32) [(.ref b86), (.ref b87), .null] .null := P126_2
    refine Goes.step (T2 := T126) (g2 := (mkF m 54 #[iv p1, rv b83, rv b86, rv b87, rv b88, iv 2, .unset, .unset, .unset, .unset, .unset, .unset] [])) (fun _ hr => st126.trans hr) ?_
    refine Goes.step (T2 := T126) (g2 := (mkF m 56 #[iv p1, rv b83, rv b86, rv b87, rv b88, iv 2, .unset, .unset, .unset, .unset, .unset, .unset] [(.int (2 : Int32))])) (fun _ hr => XS.iload X126.here hx rfl (hb hby at_54) rfl  hr) ?_
    refine Goes.step (T2 := T126) (g2 := (mkF m 57 #[iv p1, rv b83, rv b86, rv b87, rv b88, iv 2, .unset, .unset, .unset, .unset, .unset, .unset] [(.int (3 : Int32)), (.int (2 : Int32))])) (fun _ hr => XS.iconst X126.here hx rfl (hb hby at_56) hr) ?_
    refine Goes.step (T2 := T126) (g2 := (mkF m 66 #[iv p1, rv b83, rv b86, rv b87, rv b88, iv 2, .unset, .unset, .unset, .unset, .unset, .unset] [])) (fun _ hr => XS.icmpYes X126.here hx rfl (pc0 := 57) (pc' := 66) rfl (hb hby at_57) rfl (tlt (by decide : (2 : Int32) < (3 : Int32))).1 (by decide) (by decide) hr) ?_
    refine Goes.step (T2 := T126) (g2 := (mkF m 67 #[iv p1, rv b83, rv b86, rv b87, rv b88, iv 2, .unset, .unset, .unset, .unset, .unset, .unset] [(.ref b83)])) (fun _ hr => XS.aloadN X126.here hx rfl (hb hby at_66) rfl rfl hr) ?_
    have Zs127 : n0 ≤ T126.heap.size := Nat.le_trans Z0 K126.1
    obtain ⟨cq128, kq128, q128a, q128b, q128c⟩ := isOf hZ rfl E_b83_126
    obtain ⟨_, _, ⟨T128, L128, k128, n128⟩, -, X128, ⟨Lc128, hQ128, l128, y128, z128⟩, st128⟩ := X126.virtualBack hx (y := Y1) (z := Y1) hown (mvT hZ (tw hw 14 rfl)) (mvT hZ (tw hw 15 rfl)) (notFace_of_selects (args := #[]) (mvT hZ (tw hw 17 rfl))) (mvT hZ (tw hw 17 rfl)) (mvT hZ (tw hw 16 rfl)) (by decide) (backOf (W := 0) (rm_take2 l Z a0 hw [] b83 sp85 k85 (.ref b86) .null b87 T126.heap n0 Zs127 (Old.keep O0 K126 hws) E_b83_126 F_b83_spare_126c F_b83_spareCount_126c V_sp85_126c ge_b83 ge_sp85 (Nat.ne_of_lt (Nat.lt_of_lt_of_le A83.lt P85_0))) hZ (tw hw 18 rfl) (tw hw 2 rfl) (by decide) (by decide)) q128a q128c (g := (mkF m 67 #[iv p1, rv b83, rv b86, rv b87, rv b88, iv 2, .unset, .unset, .unset, .unset, .unset, .unset] [(.ref b83)])) rfl (by rw [hml]; rfl) (Steps.refl _) (argsL := []) (rest := []) (lenOf pd_2 rfl) rfl (by show 2 * 0 + _ ≤ _; exact Nat.le_of_eq rfl) (hb hby at_67) (fun _ _ => ⟨rfl, rfl, (by decide : 5 + 0 ≤ _), (by decide : 49218 + 0 ≤ _)⟩)
    dsimp only [Pt.U, Pt.locs, Pt.cells, Pt.slots] at X128 l128 y128 z128 st128 hQ128
    subst l128 y128 z128
    obtain ⟨rfl, N128q, Kc128, P128_0, P128_1, P128_2⟩ := hQ128
    have N128 := Fr.app N126 N128q
    have E_b83_128 : Exa Z T128.heap b83 "com/example/api_policy_gateway/apipolicygateway/net/BufferPool" := E_b83_126.keep Kc128
    have V_b86_128 : Arv Z T128.heap b86 k86 .byte (16384 : Int32) [] (.int (0 : Int32)) := V_b86_126.keep Kc128 (ninS (Ne.symm (Nat.ne_of_lt (Nat.lt_of_lt_of_le E_b83_85.lt (Nat.le_of_eq g86.symm)))) (ninS (Ne.symm (Nat.ne_of_lt (Nat.lt_of_lt_of_le V_sp85_85c.lt (Nat.le_of_eq g86.symm)))) nin0))
    have E_b86_128 : Exa Z T128.heap b86 "[B" := E_b86_126.keep Kc128
    have V_b87_128 : Arv Z T128.heap b87 k87 .byte (16384 : Int32) [] (.int (0 : Int32)) := V_b87_126.keep Kc128 (ninS (Ne.symm (Nat.ne_of_lt (Nat.lt_of_lt_of_le E_b83_86.lt (Nat.le_of_eq g87.symm)))) (ninS (Ne.symm (Nat.ne_of_lt (Nat.lt_of_lt_of_le V_sp85_86.lt (Nat.le_of_eq g87.symm)))) nin0))
    have E_b87_128 : Exa Z T128.heap b87 "[B" := E_b87_126.keep Kc128
    have V_b88_128 : Arv Z T128.heap b88 k88 .byte (16384 : Int32) [] (.int (0 : Int32)) := V_b88_126.keep Kc128 (ninS (Ne.symm (Nat.ne_of_lt (Nat.lt_of_lt_of_le E_b83_87.lt (Nat.le_of_eq g88.symm)))) (ninS (Ne.symm (Nat.ne_of_lt (Nat.lt_of_lt_of_le V_sp85_87.lt (Nat.le_of_eq g88.symm)))) nin0))
    have E_b88_128 : Exa Z T128.heap b88 "[B" := E_b88_126.keep Kc128
    have K128 : Keep h0 T128.heap [] := K126.trans Kc128 (allS (Or.inr sz_b83) (allS (Or.inr sz_sp85) all0))
    have F_b83_spare_128c : Fld Z T128.heap b83 "com/example/api_policy_gateway/apipolicygateway/net/BufferPool" "spare" "[[B" (.ref sp85) := P128_0
    have F_b83_spareCount_128c : Fld Z T128.heap b83 "com/example/api_policy_gateway/apipolicygateway/net/BufferPool" "spareCount" "I" (.int (1 : Int32)) := P128_1
    have V_sp85_128c : Arv Z T128.heap sp85 k85 (.array .byte) (64 : Int32) [(.ref b86), .null, .null] .null := P128_2
    refine Goes.step (T2 := T128) (g2 := (mkF m 70 #[iv p1, rv b83, rv b86, rv b87, rv b88, iv 2, .unset, .unset, .unset, .unset, .unset, .unset] [(.ref b87)])) (fun _ hr => st128.trans hr) ?_
    refine Goes.step (T2 := T128) (g2 := (mkF m 72 #[iv p1, rv b83, rv b86, rv b87, rv b88, iv 2, rv b87, .unset, .unset, .unset, .unset, .unset] [])) (fun _ hr => XS.astore X128.here hx rfl (hb hby at_70) rfl rfl (l' := #[iv p1, rv b83, rv b86, rv b87, rv b88, iv 2, rv b87, .unset, .unset, .unset, .unset, .unset]) rfl hr) ?_
    refine Goes.step (T2 := T128) (g2 := (mkF m 73 #[iv p1, rv b83, rv b86, rv b87, rv b88, iv 2, rv b87, .unset, .unset, .unset, .unset, .unset] [(.ref b83)])) (fun _ hr => XS.aloadN X128.here hx rfl (hb hby at_72) rfl rfl hr) ?_
    have Zs129 : n0 ≤ T128.heap.size := Nat.le_trans Z0 K128.1
    obtain ⟨cq130, kq130, q130a, q130b, q130c⟩ := isOf hZ rfl E_b83_128
    obtain ⟨_, _, ⟨T130, L130, k130, n130⟩, -, X130, ⟨Lc130, hQ130, l130, y130, z130⟩, st130⟩ := X128.virtualBack hx (y := Y1) (z := Y1) hown (mvT hZ (tw hw 14 rfl)) (mvT hZ (tw hw 15 rfl)) (notFace_of_selects (args := #[]) (mvT hZ (tw hw 17 rfl))) (mvT hZ (tw hw 17 rfl)) (mvT hZ (tw hw 16 rfl)) (by decide) (backOf (W := 0) (rm_take1 l Z a0 hw [] b83 sp85 k85 .null .null b86 T128.heap n0 Zs129 (Old.keep O0 K128 hws) E_b83_128 F_b83_spare_128c F_b83_spareCount_128c V_sp85_128c ge_b83 ge_sp85 (Nat.ne_of_lt (Nat.lt_of_lt_of_le A83.lt P85_0))) hZ (tw hw 18 rfl) (tw hw 2 rfl) (by decide) (by decide)) q130a q130c (g := (mkF m 73 #[iv p1, rv b83, rv b86, rv b87, rv b88, iv 2, rv b87, .unset, .unset, .unset, .unset, .unset] [(.ref b83)])) rfl (by rw [hml]; rfl) (Steps.refl _) (argsL := []) (rest := []) (lenOf pd_2 rfl) rfl (by show 2 * 0 + _ ≤ _; exact Nat.le_of_eq rfl) (hb hby at_73) (fun _ _ => ⟨rfl, rfl, (by decide : 5 + 0 ≤ _), (by decide : 49218 + 0 ≤ _)⟩)
    dsimp only [Pt.U, Pt.locs, Pt.cells, Pt.slots] at X130 l130 y130 z130 st130 hQ130
    subst l130 y130 z130
    obtain ⟨rfl, N130q, Kc130, P130_0, P130_1, P130_2⟩ := hQ130
    have N130 := Fr.app N128 N130q
    have E_b83_130 : Exa Z T130.heap b83 "com/example/api_policy_gateway/apipolicygateway/net/BufferPool" := E_b83_128.keep Kc130
    have V_b86_130 : Arv Z T130.heap b86 k86 .byte (16384 : Int32) [] (.int (0 : Int32)) := V_b86_128.keep Kc130 (ninS (Ne.symm (Nat.ne_of_lt (Nat.lt_of_lt_of_le E_b83_85.lt (Nat.le_of_eq g86.symm)))) (ninS (Ne.symm (Nat.ne_of_lt (Nat.lt_of_lt_of_le V_sp85_85c.lt (Nat.le_of_eq g86.symm)))) nin0))
    have E_b86_130 : Exa Z T130.heap b86 "[B" := E_b86_128.keep Kc130
    have V_b87_130 : Arv Z T130.heap b87 k87 .byte (16384 : Int32) [] (.int (0 : Int32)) := V_b87_128.keep Kc130 (ninS (Ne.symm (Nat.ne_of_lt (Nat.lt_of_lt_of_le E_b83_86.lt (Nat.le_of_eq g87.symm)))) (ninS (Ne.symm (Nat.ne_of_lt (Nat.lt_of_lt_of_le V_sp85_86.lt (Nat.le_of_eq g87.symm)))) nin0))
    have E_b87_130 : Exa Z T130.heap b87 "[B" := E_b87_128.keep Kc130
    have V_b88_130 : Arv Z T130.heap b88 k88 .byte (16384 : Int32) [] (.int (0 : Int32)) := V_b88_128.keep Kc130 (ninS (Ne.symm (Nat.ne_of_lt (Nat.lt_of_lt_of_le E_b83_87.lt (Nat.le_of_eq g88.symm)))) (ninS (Ne.symm (Nat.ne_of_lt (Nat.lt_of_lt_of_le V_sp85_87.lt (Nat.le_of_eq g88.symm)))) nin0))
    have E_b88_130 : Exa Z T130.heap b88 "[B" := E_b88_128.keep Kc130
    have K130 : Keep h0 T130.heap [] := K128.trans Kc130 (allS (Or.inr sz_b83) (allS (Or.inr sz_sp85) all0))
    have F_b83_spare_130c : Fld Z T130.heap b83 "com/example/api_policy_gateway/apipolicygateway/net/BufferPool" "spare" "[[B" (.ref sp85) := P130_0
    have F_b83_spareCount_130c : Fld Z T130.heap b83 "com/example/api_policy_gateway/apipolicygateway/net/BufferPool" "spareCount" "I" (.int (0 : Int32)) := P130_1
    have V_sp85_130c : Arv Z T130.heap sp85 k85 (.array .byte) (64 : Int32) [.null, .null, .null] .null := P130_2
    refine Goes.step (T2 := T130) (g2 := (mkF m 76 #[iv p1, rv b83, rv b86, rv b87, rv b88, iv 2, rv b87, .unset, .unset, .unset, .unset, .unset] [(.ref b86)])) (fun _ hr => st130.trans hr) ?_
    refine Goes.step (T2 := T130) (g2 := (mkF m 78 #[iv p1, rv b83, rv b86, rv b87, rv b88, iv 2, rv b87, rv b86, .unset, .unset, .unset, .unset] [])) (fun _ hr => XS.astore X130.here hx rfl (hb hby at_76) rfl rfl (l' := #[iv p1, rv b83, rv b86, rv b87, rv b88, iv 2, rv b87, rv b86, .unset, .unset, .unset, .unset]) rfl hr) ?_
    refine Goes.step (T2 := T130) (g2 := (mkF m 79 #[iv p1, rv b83, rv b86, rv b87, rv b88, iv 2, rv b87, rv b86, .unset, .unset, .unset, .unset] [(.ref b83)])) (fun _ hr => XS.aloadN X130.here hx rfl (hb hby at_78) rfl rfl hr) ?_
    have Zs131 : n0 ≤ T130.heap.size := Nat.le_trans Z0 K130.1
    obtain ⟨cq132, kq132, q132a, q132b, q132c⟩ := isOf hZ rfl E_b83_130
    obtain ⟨_, _, ⟨T132, L132, k132, n132⟩, -, X132, ⟨Lc132, hQ132, l132, y132, z132⟩, st132⟩ := X130.virtualBack hx (y := Y1) (z := Y1) hown (mvT hZ (tw hw 14 rfl)) (mvT hZ (tw hw 15 rfl)) (notFace_of_selects (args := #[]) (mvT hZ (tw hw 17 rfl))) (mvT hZ (tw hw 17 rfl)) (mvT hZ (tw hw 16 rfl)) (by decide) (backOf (W := 0) (rm_take0 l Z a0 hw [] b83 T130.heap n0 Zs131 (Old.keep O0 K130 hws) F_b83_spareCount_130c) hZ (tw hw 18 rfl) (tw hw 2 rfl) (by decide) (by decide)) q132a q132c (g := (mkF m 79 #[iv p1, rv b83, rv b86, rv b87, rv b88, iv 2, rv b87, rv b86, .unset, .unset, .unset, .unset] [(.ref b83)])) rfl (by rw [hml]; rfl) (Steps.refl _) (argsL := []) (rest := []) (lenOf pd_2 rfl) rfl (by show 2 * 0 + _ ≤ _; exact Nat.le_of_eq rfl) (hb hby at_79) (fun _ _ => ⟨rfl, rfl, (by decide : 5 + 1 ≤ _), (by decide : 49218 + 16384 ≤ _)⟩)
    dsimp only [Pt.U, Pt.locs, Pt.cells, Pt.slots] at X132 l132 y132 z132 st132 hQ132
    subst l132 y132 z132
    obtain ⟨w132, kw132, rfl, N132q, Kc132, P132_0, P132_1, P132_2⟩ := hQ132
    have N132 := Fr.app N130 N132q
    have E_b83_132 : Exa Z T132.heap b83 "com/example/api_policy_gateway/apipolicygateway/net/BufferPool" := E_b83_130.keep Kc132
    have V_b86_132 : Arv Z T132.heap b86 k86 .byte (16384 : Int32) [] (.int (0 : Int32)) := V_b86_130.keep Kc132 nin0
    have E_b86_132 : Exa Z T132.heap b86 "[B" := E_b86_130.keep Kc132
    have V_b87_132 : Arv Z T132.heap b87 k87 .byte (16384 : Int32) [] (.int (0 : Int32)) := V_b87_130.keep Kc132 nin0
    have E_b87_132 : Exa Z T132.heap b87 "[B" := E_b87_130.keep Kc132
    have V_b88_132 : Arv Z T132.heap b88 k88 .byte (16384 : Int32) [] (.int (0 : Int32)) := V_b88_130.keep Kc132 nin0
    have E_b88_132 : Exa Z T132.heap b88 "[B" := E_b88_130.keep Kc132
    have F_b83_spare_132 : Fld Z T132.heap b83 "com/example/api_policy_gateway/apipolicygateway/net/BufferPool" "spare" "[[B" (.ref sp85) := F_b83_spare_130c.keep Kc132 nin0
    have F_b83_spareCount_132 : Fld Z T132.heap b83 "com/example/api_policy_gateway/apipolicygateway/net/BufferPool" "spareCount" "I" (.int (0 : Int32)) := F_b83_spareCount_130c.keep Kc132 nin0
    have V_sp85_132 : Arv Z T132.heap sp85 k85 (.array .byte) (64 : Int32) [.null, .null, .null] .null := V_sp85_130c.keep Kc132 nin0
    have K132 : Keep h0 T132.heap [] := K130.trans Kc132 all0
    have sz_w132 : h0.size ≤ w132 := Nat.le_trans K130.1 P132_0
    have ge_w132 : n0 ≤ w132 := Nat.le_trans Z0 sz_w132
    have E_w132_132c : Exa Z T132.heap w132 "[B" := P132_1
    have V_w132_132c : Arv Z T132.heap w132 kw132 .byte (16384 : Int32) [] (.int (0 : Int32)) := P132_2
    refine Goes.step (T2 := T132) (g2 := (mkF m 82 #[iv p1, rv b83, rv b86, rv b87, rv b88, iv 2, rv b87, rv b86, .unset, .unset, .unset, .unset] [(.ref w132)])) (fun _ hr => st132.trans hr) ?_
    refine Goes.step (T2 := T132) (g2 := (mkF m 84 #[iv p1, rv b83, rv b86, rv b87, rv b88, iv 2, rv b87, rv b86, rv w132, .unset, .unset, .unset] [])) (fun _ hr => XS.astore X132.here hx rfl (hb hby at_82) rfl rfl (l' := #[iv p1, rv b83, rv b86, rv b87, rv b88, iv 2, rv b87, rv b86, rv w132, .unset, .unset, .unset]) rfl hr) ?_
    refine Goes.step (T2 := T132) (g2 := (mkF m 85 #[iv p1, rv b83, rv b86, rv b87, rv b88, iv 2, rv b87, rv b86, rv w132, .unset, .unset, .unset] [(.ref b83)])) (fun _ hr => XS.aloadN X132.here hx rfl (hb hby at_84) rfl rfl hr) ?_
    have Zs133 : n0 ≤ T132.heap.size := Nat.le_trans Z0 K132.1
    obtain ⟨cq134, kq134, q134a, q134b, q134c⟩ := isOf hZ rfl E_b83_132
    obtain ⟨_, _, ⟨T134, L134, k134, n134⟩, -, X134, ⟨Lc134, hQ134, l134, y134, z134⟩, st134⟩ := X132.virtualBack hx (y := Y1) (z := Y1) hown (mvT hZ (tw hw 14 rfl)) (mvT hZ (tw hw 15 rfl)) (notFace_of_selects (args := #[]) (mvT hZ (tw hw 17 rfl))) (mvT hZ (tw hw 17 rfl)) (mvT hZ (tw hw 16 rfl)) (by decide) (backOf (W := 0) (rm_take0 l Z a0 hw [] b83 T132.heap n0 Zs133 (Old.keep O0 K132 hws) F_b83_spareCount_132) hZ (tw hw 18 rfl) (tw hw 2 rfl) (by decide) (by decide)) q134a q134c (g := (mkF m 85 #[iv p1, rv b83, rv b86, rv b87, rv b88, iv 2, rv b87, rv b86, rv w132, .unset, .unset, .unset] [(.ref b83)])) rfl (by rw [hml]; rfl) (Steps.refl _) (argsL := []) (rest := []) (lenOf pd_2 rfl) rfl (by show 2 * 0 + _ ≤ _; exact Nat.le_of_eq rfl) (hb hby at_85) (fun _ _ => ⟨rfl, rfl, (by decide : 6 + 1 ≤ _), (by decide : 65602 + 16384 ≤ _)⟩)
    dsimp only [Pt.U, Pt.locs, Pt.cells, Pt.slots] at X134 l134 y134 z134 st134 hQ134
    subst l134 y134 z134
    obtain ⟨w134, kw134, rfl, N134q, Kc134, P134_0, P134_1, P134_2⟩ := hQ134
    have N134 := Fr.app N132 N134q
    have E_b83_134 : Exa Z T134.heap b83 "com/example/api_policy_gateway/apipolicygateway/net/BufferPool" := E_b83_132.keep Kc134
    have V_b86_134 : Arv Z T134.heap b86 k86 .byte (16384 : Int32) [] (.int (0 : Int32)) := V_b86_132.keep Kc134 nin0
    have E_b86_134 : Exa Z T134.heap b86 "[B" := E_b86_132.keep Kc134
    have V_b87_134 : Arv Z T134.heap b87 k87 .byte (16384 : Int32) [] (.int (0 : Int32)) := V_b87_132.keep Kc134 nin0
    have E_b87_134 : Exa Z T134.heap b87 "[B" := E_b87_132.keep Kc134
    have V_b88_134 : Arv Z T134.heap b88 k88 .byte (16384 : Int32) [] (.int (0 : Int32)) := V_b88_132.keep Kc134 nin0
    have E_b88_134 : Exa Z T134.heap b88 "[B" := E_b88_132.keep Kc134
    have F_b83_spare_134 : Fld Z T134.heap b83 "com/example/api_policy_gateway/apipolicygateway/net/BufferPool" "spare" "[[B" (.ref sp85) := F_b83_spare_132.keep Kc134 nin0
    have F_b83_spareCount_134 : Fld Z T134.heap b83 "com/example/api_policy_gateway/apipolicygateway/net/BufferPool" "spareCount" "I" (.int (0 : Int32)) := F_b83_spareCount_132.keep Kc134 nin0
    have V_sp85_134 : Arv Z T134.heap sp85 k85 (.array .byte) (64 : Int32) [.null, .null, .null] .null := V_sp85_132.keep Kc134 nin0
    have E_w132_134 : Exa Z T134.heap w132 "[B" := E_w132_132c.keep Kc134
    have V_w132_134 : Arv Z T134.heap w132 kw132 .byte (16384 : Int32) [] (.int (0 : Int32)) := V_w132_132c.keep Kc134 nin0
    have K134 : Keep h0 T134.heap [] := K132.trans Kc134 all0
    have sz_w134 : h0.size ≤ w134 := Nat.le_trans K132.1 P134_0
    have ge_w134 : n0 ≤ w134 := Nat.le_trans Z0 sz_w134
    have E_w134_134c : Exa Z T134.heap w134 "[B" := P134_1
    have V_w134_134c : Arv Z T134.heap w134 kw134 .byte (16384 : Int32) [] (.int (0 : Int32)) := P134_2
    refine Goes.step (T2 := T134) (g2 := (mkF m 88 #[iv p1, rv b83, rv b86, rv b87, rv b88, iv 2, rv b87, rv b86, rv w132, .unset, .unset, .unset] [(.ref w134)])) (fun _ hr => st134.trans hr) ?_
    refine Goes.step (T2 := T134) (g2 := (mkF m 90 #[iv p1, rv b83, rv b86, rv b87, rv b88, iv 2, rv b87, rv b86, rv w132, rv w134, .unset, .unset] [])) (fun _ hr => XS.astore X134.here hx rfl (hb hby at_88) rfl rfl (l' := #[iv p1, rv b83, rv b86, rv b87, rv b88, iv 2, rv b87, rv b86, rv w132, rv w134, .unset, .unset]) rfl hr) ?_
    refine Goes.step (T2 := T134) (g2 := (mkF m 92 #[iv p1, rv b83, rv b86, rv b87, rv b88, iv 2, rv b87, rv b86, rv w132, rv w134, .unset, .unset] [(.ref b87)])) (fun _ hr => XS.aload X134.here hx rfl (hb hby at_90) rfl rfl hr) ?_
    refine Goes.step (T2 := T134) (g2 := (mkF m 93 #[iv p1, rv b83, rv b86, rv b87, rv b88, iv 2, rv b87, rv b86, rv w132, rv w134, .unset, .unset] [(.int (0 : Int32)), (.ref b87)])) (fun _ hr => XS.iconst X134.here hx rfl (hb hby at_92) hr) ?_
    refine Goes.step (T2 := T134) (g2 := (mkF m 95 #[iv p1, rv b83, rv b86, rv b87, rv b88, iv 2, rv b87, rv b86, rv w132, rv w134, .unset, .unset] [(.int (2 : Int32)), (.int (0 : Int32)), (.ref b87)])) (fun _ hr => XS.iload X134.here hx rfl (hb hby at_93) rfl  hr) ?_
    refine Goes.step (T2 := T134) (g2 := (mkF m 96 #[iv p1, rv b83, rv b86, rv b87, rv b88, iv 2, rv b87, rv b86, rv w132, rv w134, .unset, .unset] [(.ref b86), (.int (2 : Int32)), (.int (0 : Int32)), (.ref b87)])) (fun _ hr => XS.aloadN X134.here hx rfl (hb hby at_95) rfl rfl hr) ?_
    refine Goes.step (T2 := T134) (g2 := (mkF m 97 #[iv p1, rv b83, rv b86, rv b87, rv b88, iv 2, rv b87, rv b86, rv w132, rv w134, .unset, .unset] [(.ref b87), (.ref b86), (.int (2 : Int32)), (.int (0 : Int32)), (.ref b87)])) (fun _ hr => XS.aloadN X134.here hx rfl (hb hby at_96) rfl rfl hr) ?_
    refine Goes.step (T2 := T134) (g2 := (mkF m 99 #[iv p1, rv b83, rv b86, rv b87, rv b88, iv 2, rv b87, rv b86, rv w132, rv w134, .unset, .unset] [(.ref b88), (.ref b87), (.ref b86), (.int (2 : Int32)), (.int (0 : Int32)), (.ref b87)])) (fun _ hr => XS.aload X134.here hx rfl (hb hby at_97) rfl rfl hr) ?_
    have Zs135 : n0 ≤ T134.heap.size := Nat.le_trans Z0 K134.1
    obtain ⟨_, _, ⟨T136, L136, k136, n136⟩, -, X136, ⟨Lc136, hQ136, l136, y136, z136⟩, st136⟩ := Jvm.LawKit.callS X134 hx (y := Y4) hown (mvT hZ (tw hw 21 rfl)) (mvT hZ (tw hw 22 rfl)) (mvT hZ (tw hw 23 rfl)) (mvT hZ (tw hw 24 rfl)) (by decide) (backOf (W := 0) (rm_exp02 l Z a0 hw [] b86 b87 b88 T134.heap n0 Zs135 (Old.keep O0 K134 hws)) hZ (tw hw 24 rfl) (tw hw 23 rfl) (by decide) (by decide)) (g := (mkF m 99 #[iv p1, rv b83, rv b86, rv b87, rv b88, iv 2, rv b87, rv b86, rv w132, rv w134, .unset, .unset] [(.ref b88), (.ref b87), (.ref b86), (.int (2 : Int32)), (.int (0 : Int32)), (.ref b87)])) rfl (by rw [hml]; rfl) (argsL := [(.ref b87), (.int (0 : Int32)), (.int (2 : Int32)), (.ref b86), (.ref b87), (.ref b88)]) (rest := []) (lenOf pd_3 rfl) rfl (by show 2 * 0 + _ ≤ _; exact Nat.le_of_eq rfl) (hb hby at_99) (fun _ _ => ⟨rfl, rfl, (by decide : 7 + 0 ≤ _), (by decide : 81986 + 0 ≤ _)⟩)
    dsimp only [Pt.U, Pt.locs, Pt.cells, Pt.slots] at X136 l136 y136 z136 st136 hQ136
    subst l136 y136 z136
    obtain ⟨rfl, N136q, e136⟩ := hQ136
    have N136 := Fr.app N134 N136q
    refine Goes.step (T2 := T136) (g2 := (mkF m 102 #[iv p1, rv b83, rv b86, rv b87, rv b88, iv 2, rv b87, rv b86, rv w132, rv w134, .unset, .unset] [(.int (1 : Int32))])) st136 ?_
    refine Goes.step (T2 := T136) (g2 := (mkF m 105 #[iv p1, rv b83, rv b86, rv b87, rv b88, iv 2, rv b87, rv b86, rv w132, rv w134, .unset, .unset] [])) (fun _ hr => XS.ifNo X136.here hx rfl (hb hby at_102) rfl ((if0 _ _).trans (feq (by decide : ¬ ((1 : Int32) = (0 : Int32)))).1) hr) ?_
    refine Goes.step (T2 := T136) (g2 := (mkF m 107 #[iv p1, rv b83, rv b86, rv b87, rv b88, iv 2, rv b87, rv b86, rv w132, rv w134, .unset, .unset] [(.ref b86)])) (fun _ hr => XS.aload X136.here hx rfl (hb hby at_105) rfl rfl hr) ?_
    refine Goes.step (T2 := T136) (g2 := (mkF m 108 #[iv p1, rv b83, rv b86, rv b87, rv b88, iv 2, rv b87, rv b86, rv w132, rv w134, .unset, .unset] [(.int (1 : Int32)), (.ref b86)])) (fun _ hr => XS.iconst X136.here hx rfl (hb hby at_107) hr) ?_
    refine Goes.step (T2 := T136) (g2 := (mkF m 110 #[iv p1, rv b83, rv b86, rv b87, rv b88, iv 2, rv b87, rv b86, rv w132, rv w134, .unset, .unset] [(.int (2 : Int32)), (.int (1 : Int32)), (.ref b86)])) (fun _ hr => XS.iload X136.here hx rfl (hb hby at_108) rfl  hr) ?_
    refine Goes.step (T2 := T136) (g2 := (mkF m 111 #[iv p1, rv b83, rv b86, rv b87, rv b88, iv 2, rv b87, rv b86, rv w132, rv w134, .unset, .unset] [(.ref b86), (.int (2 : Int32)), (.int (1 : Int32)), (.ref b86)])) (fun _ hr => XS.aloadN X136.here hx rfl (hb hby at_110) rfl rfl hr) ?_
    refine Goes.step (T2 := T136) (g2 := (mkF m 112 #[iv p1, rv b83, rv b86, rv b87, rv b88, iv 2, rv b87, rv b86, rv w132, rv w134, .unset, .unset] [(.ref b87), (.ref b86), (.int (2 : Int32)), (.int (1 : Int32)), (.ref b86)])) (fun _ hr => XS.aloadN X136.here hx rfl (hb hby at_111) rfl rfl hr) ?_
    refine Goes.step (T2 := T136) (g2 := (mkF m 114 #[iv p1, rv b83, rv b86, rv b87, rv b88, iv 2, rv b87, rv b86, rv w132, rv w134, .unset, .unset] [(.ref b88), (.ref b87), (.ref b86), (.int (2 : Int32)), (.int (1 : Int32)), (.ref b86)])) (fun _ hr => XS.aload X136.here hx rfl (hb hby at_112) rfl rfl hr) ?_
    have Zs137 : n0 ≤ T134.heap.size := Nat.le_trans Z0 K134.1
    obtain ⟨_, _, ⟨T138, L138, k138, n138⟩, -, X138, ⟨Lc138, hQ138, l138, y138, z138⟩, st138⟩ := Jvm.LawKit.callS X136 hx (y := Y4) hown (mvT hZ (tw hw 21 rfl)) (mvT hZ (tw hw 22 rfl)) (mvT hZ (tw hw 23 rfl)) (mvT hZ (tw hw 24 rfl)) (by decide) (backOf (W := 0) (rm_exp12 l Z a0 hw [] b86 b87 b88 T134.heap n0 Zs137 (Old.keep O0 K134 hws)) hZ (tw hw 24 rfl) (tw hw 23 rfl) (by decide) (by decide)) (g := (mkF m 114 #[iv p1, rv b83, rv b86, rv b87, rv b88, iv 2, rv b87, rv b86, rv w132, rv w134, .unset, .unset] [(.ref b88), (.ref b87), (.ref b86), (.int (2 : Int32)), (.int (1 : Int32)), (.ref b86)])) rfl (by rw [hml]; rfl) (argsL := [(.ref b86), (.int (1 : Int32)), (.int (2 : Int32)), (.ref b86), (.ref b87), (.ref b88)]) (rest := []) (lenOf pd_3 rfl) rfl (by show 2 * 0 + _ ≤ _; exact Nat.le_of_eq rfl) (hb hby at_114) (fun _ _ => ⟨rfl, e136, (by decide : 7 + 0 ≤ _), (by decide : 81986 + 0 ≤ _)⟩)
    dsimp only [Pt.U, Pt.locs, Pt.cells, Pt.slots] at X138 l138 y138 z138 st138 hQ138
    subst l138 y138 z138
    obtain ⟨rfl, N138q, e138⟩ := hQ138
    have N138 := Fr.app N136 N138q
    refine Goes.step (T2 := T138) (g2 := (mkF m 117 #[iv p1, rv b83, rv b86, rv b87, rv b88, iv 2, rv b87, rv b86, rv w132, rv w134, .unset, .unset] [(.int (1 : Int32))])) st138 ?_
    refine Goes.step (T2 := T138) (g2 := (mkF m 120 #[iv p1, rv b83, rv b86, rv b87, rv b88, iv 2, rv b87, rv b86, rv w132, rv w134, .unset, .unset] [])) (fun _ hr => XS.ifNo X138.here hx rfl (hb hby at_117) rfl ((if0 _ _).trans (feq (by decide : ¬ ((1 : Int32) = (0 : Int32)))).1) hr) ?_
    refine Goes.step (T2 := T138) (g2 := (mkF m 122 #[iv p1, rv b83, rv b86, rv b87, rv b88, iv 2, rv b87, rv b86, rv w132, rv w134, .unset, .unset] [(.ref w132)])) (fun _ hr => XS.aload X138.here hx rfl (hb hby at_120) rfl rfl hr) ?_
    refine Goes.step (T2 := T138) (g2 := (mkF m 123 #[iv p1, rv b83, rv b86, rv b87, rv b88, iv 2, rv b87, rv b86, rv w132, rv w134, .unset, .unset] [(.int (2 : Int32)), (.ref w132)])) (fun _ hr => XS.iconst X138.here hx rfl (hb hby at_122) hr) ?_
    refine Goes.step (T2 := T138) (g2 := (mkF m 125 #[iv p1, rv b83, rv b86, rv b87, rv b88, iv 2, rv b87, rv b86, rv w132, rv w134, .unset, .unset] [(.int (2 : Int32)), (.int (2 : Int32)), (.ref w132)])) (fun _ hr => XS.iload X138.here hx rfl (hb hby at_123) rfl  hr) ?_
    refine Goes.step (T2 := T138) (g2 := (mkF m 126 #[iv p1, rv b83, rv b86, rv b87, rv b88, iv 2, rv b87, rv b86, rv w132, rv w134, .unset, .unset] [(.ref b86), (.int (2 : Int32)), (.int (2 : Int32)), (.ref w132)])) (fun _ hr => XS.aloadN X138.here hx rfl (hb hby at_125) rfl rfl hr) ?_
    refine Goes.step (T2 := T138) (g2 := (mkF m 127 #[iv p1, rv b83, rv b86, rv b87, rv b88, iv 2, rv b87, rv b86, rv w132, rv w134, .unset, .unset] [(.ref b87), (.ref b86), (.int (2 : Int32)), (.int (2 : Int32)), (.ref w132)])) (fun _ hr => XS.aloadN X138.here hx rfl (hb hby at_126) rfl rfl hr) ?_
    refine Goes.step (T2 := T138) (g2 := (mkF m 129 #[iv p1, rv b83, rv b86, rv b87, rv b88, iv 2, rv b87, rv b86, rv w132, rv w134, .unset, .unset] [(.ref b88), (.ref b87), (.ref b86), (.int (2 : Int32)), (.int (2 : Int32)), (.ref w132)])) (fun _ hr => XS.aload X138.here hx rfl (hb hby at_127) rfl rfl hr) ?_
    have Zs139 : n0 ≤ T134.heap.size := Nat.le_trans Z0 K134.1
    obtain ⟨_, _, ⟨T140, L140, k140, n140⟩, -, X140, ⟨Lc140, hQ140, l140, y140, z140⟩, st140⟩ := Jvm.LawKit.callS X138 hx (y := Y4) hown (mvT hZ (tw hw 21 rfl)) (mvT hZ (tw hw 22 rfl)) (mvT hZ (tw hw 23 rfl)) (mvT hZ (tw hw 24 rfl)) (by decide) (backOf (W := 0) (rm_exp22 l Z a0 hw [] w132 b86 b87 b88 T134.heap n0 Zs139 (Old.keep O0 K134 hws) (LenB.of V_w132_134) (Ne.symm (Nat.ne_of_lt (Nat.lt_of_lt_of_le V_b86_130.lt P132_0))) (Ne.symm (Nat.ne_of_lt (Nat.lt_of_lt_of_le V_b87_130.lt P132_0))) (Ne.symm (Nat.ne_of_lt (Nat.lt_of_lt_of_le V_b88_130.lt P132_0)))) hZ (tw hw 24 rfl) (tw hw 23 rfl) (by decide) (by decide)) (g := (mkF m 129 #[iv p1, rv b83, rv b86, rv b87, rv b88, iv 2, rv b87, rv b86, rv w132, rv w134, .unset, .unset] [(.ref b88), (.ref b87), (.ref b86), (.int (2 : Int32)), (.int (2 : Int32)), (.ref w132)])) rfl (by rw [hml]; rfl) (argsL := [(.ref w132), (.int (2 : Int32)), (.int (2 : Int32)), (.ref b86), (.ref b87), (.ref b88)]) (rest := []) (lenOf pd_3 rfl) rfl (by show 2 * 0 + _ ≤ _; exact Nat.le_of_eq rfl) (hb hby at_129) (fun _ _ => ⟨rfl, e138, (by decide : 7 + 0 ≤ _), (by decide : 81986 + 0 ≤ _)⟩)
    dsimp only [Pt.U, Pt.locs, Pt.cells, Pt.slots] at X140 l140 y140 z140 st140 hQ140
    subst l140 y140 z140
    obtain ⟨rfl, N140q, e140⟩ := hQ140
    have N140 := Fr.app N138 N140q
    refine Goes.step (T2 := T140) (g2 := (mkF m 132 #[iv p1, rv b83, rv b86, rv b87, rv b88, iv 2, rv b87, rv b86, rv w132, rv w134, .unset, .unset] [(.int (1 : Int32))])) st140 ?_
    refine Goes.step (T2 := T140) (g2 := (mkF m 135 #[iv p1, rv b83, rv b86, rv b87, rv b88, iv 2, rv b87, rv b86, rv w132, rv w134, .unset, .unset] [])) (fun _ hr => XS.ifNo X140.here hx rfl (hb hby at_132) rfl ((if0 _ _).trans (feq (by decide : ¬ ((1 : Int32) = (0 : Int32)))).1) hr) ?_
    refine Goes.step (T2 := T140) (g2 := (mkF m 137 #[iv p1, rv b83, rv b86, rv b87, rv b88, iv 2, rv b87, rv b86, rv w132, rv w134, .unset, .unset] [(.ref w134)])) (fun _ hr => XS.aload X140.here hx rfl (hb hby at_135) rfl rfl hr) ?_
    refine Goes.step (T2 := T140) (g2 := (mkF m 138 #[iv p1, rv b83, rv b86, rv b87, rv b88, iv 2, rv b87, rv b86, rv w132, rv w134, .unset, .unset] [(.int (3 : Int32)), (.ref w134)])) (fun _ hr => XS.iconst X140.here hx rfl (hb hby at_137) hr) ?_
    refine Goes.step (T2 := T140) (g2 := (mkF m 140 #[iv p1, rv b83, rv b86, rv b87, rv b88, iv 2, rv b87, rv b86, rv w132, rv w134, .unset, .unset] [(.int (2 : Int32)), (.int (3 : Int32)), (.ref w134)])) (fun _ hr => XS.iload X140.here hx rfl (hb hby at_138) rfl  hr) ?_
    refine Goes.step (T2 := T140) (g2 := (mkF m 141 #[iv p1, rv b83, rv b86, rv b87, rv b88, iv 2, rv b87, rv b86, rv w132, rv w134, .unset, .unset] [(.ref b86), (.int (2 : Int32)), (.int (3 : Int32)), (.ref w134)])) (fun _ hr => XS.aloadN X140.here hx rfl (hb hby at_140) rfl rfl hr) ?_
    refine Goes.step (T2 := T140) (g2 := (mkF m 142 #[iv p1, rv b83, rv b86, rv b87, rv b88, iv 2, rv b87, rv b86, rv w132, rv w134, .unset, .unset] [(.ref b87), (.ref b86), (.int (2 : Int32)), (.int (3 : Int32)), (.ref w134)])) (fun _ hr => XS.aloadN X140.here hx rfl (hb hby at_141) rfl rfl hr) ?_
    refine Goes.step (T2 := T140) (g2 := (mkF m 144 #[iv p1, rv b83, rv b86, rv b87, rv b88, iv 2, rv b87, rv b86, rv w132, rv w134, .unset, .unset] [(.ref b88), (.ref b87), (.ref b86), (.int (2 : Int32)), (.int (3 : Int32)), (.ref w134)])) (fun _ hr => XS.aload X140.here hx rfl (hb hby at_142) rfl rfl hr) ?_
    have Zs141 : n0 ≤ T134.heap.size := Nat.le_trans Z0 K134.1
    obtain ⟨_, _, ⟨T142, L142, k142, n142⟩, -, X142, ⟨Lc142, hQ142, l142, y142, z142⟩, st142⟩ := Jvm.LawKit.callS X140 hx (y := Y4) hown (mvT hZ (tw hw 21 rfl)) (mvT hZ (tw hw 22 rfl)) (mvT hZ (tw hw 23 rfl)) (mvT hZ (tw hw 24 rfl)) (by decide) (backOf (W := 0) (rm_exp32 l Z a0 hw [] w134 b86 b87 b88 T134.heap n0 Zs141 (Old.keep O0 K134 hws) (LenB.of V_w134_134c) (Ne.symm (Nat.ne_of_lt (Nat.lt_of_lt_of_le V_b86_132.lt P134_0))) (Ne.symm (Nat.ne_of_lt (Nat.lt_of_lt_of_le V_b87_132.lt P134_0))) (Ne.symm (Nat.ne_of_lt (Nat.lt_of_lt_of_le V_b88_132.lt P134_0)))) hZ (tw hw 24 rfl) (tw hw 23 rfl) (by decide) (by decide)) (g := (mkF m 144 #[iv p1, rv b83, rv b86, rv b87, rv b88, iv 2, rv b87, rv b86, rv w132, rv w134, .unset, .unset] [(.ref b88), (.ref b87), (.ref b86), (.int (2 : Int32)), (.int (3 : Int32)), (.ref w134)])) rfl (by rw [hml]; rfl) (argsL := [(.ref w134), (.int (3 : Int32)), (.int (2 : Int32)), (.ref b86), (.ref b87), (.ref b88)]) (rest := []) (lenOf pd_3 rfl) rfl (by show 2 * 0 + _ ≤ _; exact Nat.le_of_eq rfl) (hb hby at_144) (fun _ _ => ⟨rfl, e140, (by decide : 7 + 0 ≤ _), (by decide : 81986 + 0 ≤ _)⟩)
    dsimp only [Pt.U, Pt.locs, Pt.cells, Pt.slots] at X142 l142 y142 z142 st142 hQ142
    subst l142 y142 z142
    obtain ⟨rfl, N142q, e142⟩ := hQ142
    have N142 := Fr.app N140 N142q
    refine Goes.step (T2 := T142) (g2 := (mkF m 147 #[iv p1, rv b83, rv b86, rv b87, rv b88, iv 2, rv b87, rv b86, rv w132, rv w134, .unset, .unset] [(.int (1 : Int32))])) st142 ?_
    refine Goes.step (T2 := T142) (g2 := (mkF m 150 #[iv p1, rv b83, rv b86, rv b87, rv b88, iv 2, rv b87, rv b86, rv w132, rv w134, .unset, .unset] [])) (fun _ hr => XS.ifNo X142.here hx rfl (hb hby at_147) rfl ((if0 _ _).trans (feq (by decide : ¬ ((1 : Int32) = (0 : Int32)))).1) hr) ?_
    refine Goes.step (T2 := T142) (g2 := (mkF m 151 #[iv p1, rv b83, rv b86, rv b87, rv b88, iv 2, rv b87, rv b86, rv w132, rv w134, .unset, .unset] [(.int (1 : Int32))])) (fun _ hr => XS.iconst X142.here hx rfl (hb hby at_150) hr) ?_
    refine Goes.step (T2 := T142) (g2 := (mkF m 155 #[iv p1, rv b83, rv b86, rv b87, rv b88, iv 2, rv b87, rv b86, rv w132, rv w134, .unset, .unset] [(.int (1 : Int32))])) (fun _ hr => XS.goto X142.here hx rfl (pc0 := 151) (pc' := 155) rfl (hb hby at_151) (by decide) (by decide) hr) ?_
    refine Goes.step (T2 := T142) (g2 := (mkF m 157 #[iv p1, rv b83, rv b86, rv b87, rv b88, iv 2, rv b87, rv b86, rv w132, rv w134, iv 1, .unset] [])) (fun _ hr => XS.istore X142.here hx rfl (hb hby at_155) rfl (l' := #[iv p1, rv b83, rv b86, rv b87, rv b88, iv 2, rv b87, rv b86, rv w132, rv w134, iv 1, .unset]) rfl hr) ?_
    refine Goes.step (T2 := T142) (g2 := (mkF m 159 #[iv p1, rv b83, rv b86, rv b87, rv b88, iv 2, rv b87, rv b86, rv w132, rv w134, iv 1, .unset] [(.ref b87)])) (fun _ hr => XS.aload X142.here hx rfl (hb hby at_157) rfl rfl hr) ?_
    refine Goes.step (T2 := T142) (g2 := (mkF m 161 #[iv p1, rv b83, rv b86, rv b87, rv b88, iv 2, rv b87, rv b86, rv w132, rv w134, iv 1, .unset] [(.ref b86), (.ref b87)])) (fun _ hr => XS.aload X142.here hx rfl (hb hby at_159) rfl rfl hr) ?_
    refine Goes.step (T2 := T142) (g2 := (mkF m 164 #[iv p1, rv b83, rv b86, rv b87, rv b88, iv 2, rv b87, rv b86, rv w132, rv w134, iv 1, .unset] [])) (fun _ hr => Jvm.RoadKit.acmp (g := (mkF m 161 #[iv p1, rv b83, rv b86, rv b87, rv b88, iv 2, rv b87, rv b86, rv w132, rv w134, iv 1, .unset] [(.ref b86), (.ref b87)])) X142 hx rfl rfl rfl (pc0 := 161) (pc' := 164) (same := false) rfl (hb hby at_161) rfl (decide_eq_false fun q => (Ne.symm (Nat.ne_of_lt (Nat.lt_of_lt_of_le V_b86_86.lt (Nat.le_of_eq g87.symm)))) (Value.ref.inj q)) (by decide) (by decide) hr) ?_
    refine Goes.step (T2 := T142) (g2 := (mkF m 166 #[iv p1, rv b83, rv b86, rv b87, rv b88, iv 2, rv b87, rv b86, rv w132, rv w134, iv 1, .unset] [(.ref b87)])) (fun _ hr => XS.aload X142.here hx rfl (hb hby at_164) rfl rfl hr) ?_
    refine Goes.step (T2 := T142) (g2 := (mkF m 168 #[iv p1, rv b83, rv b86, rv b87, rv b88, iv 2, rv b87, rv b86, rv w132, rv w134, iv 1, .unset] [(.ref w132), (.ref b87)])) (fun _ hr => XS.aload X142.here hx rfl (hb hby at_166) rfl rfl hr) ?_
    refine Goes.step (T2 := T142) (g2 := (mkF m 171 #[iv p1, rv b83, rv b86, rv b87, rv b88, iv 2, rv b87, rv b86, rv w132, rv w134, iv 1, .unset] [])) (fun _ hr => Jvm.RoadKit.acmp (g := (mkF m 168 #[iv p1, rv b83, rv b86, rv b87, rv b88, iv 2, rv b87, rv b86, rv w132, rv w134, iv 1, .unset] [(.ref w132), (.ref b87)])) X142 hx rfl rfl rfl (pc0 := 168) (pc' := 171) (same := false) rfl (hb hby at_168) rfl (decide_eq_false fun q => (Nat.ne_of_lt (Nat.lt_of_lt_of_le V_b87_130.lt P132_0)) (Value.ref.inj q)) (by decide) (by decide) hr) ?_
    refine Goes.step (T2 := T142) (g2 := (mkF m 173 #[iv p1, rv b83, rv b86, rv b87, rv b88, iv 2, rv b87, rv b86, rv w132, rv w134, iv 1, .unset] [(.ref b87)])) (fun _ hr => XS.aload X142.here hx rfl (hb hby at_171) rfl rfl hr) ?_
    refine Goes.step (T2 := T142) (g2 := (mkF m 175 #[iv p1, rv b83, rv b86, rv b87, rv b88, iv 2, rv b87, rv b86, rv w132, rv w134, iv 1, .unset] [(.ref w134), (.ref b87)])) (fun _ hr => XS.aload X142.here hx rfl (hb hby at_173) rfl rfl hr) ?_
    refine Goes.step (T2 := T142) (g2 := (mkF m 178 #[iv p1, rv b83, rv b86, rv b87, rv b88, iv 2, rv b87, rv b86, rv w132, rv w134, iv 1, .unset] [])) (fun _ hr => Jvm.RoadKit.acmp (g := (mkF m 175 #[iv p1, rv b83, rv b86, rv b87, rv b88, iv 2, rv b87, rv b86, rv w132, rv w134, iv 1, .unset] [(.ref w134), (.ref b87)])) X142 hx rfl rfl rfl (pc0 := 175) (pc' := 178) (same := false) rfl (hb hby at_175) rfl (decide_eq_false fun q => (Nat.ne_of_lt (Nat.lt_of_lt_of_le V_b87_132.lt P134_0)) (Value.ref.inj q)) (by decide) (by decide) hr) ?_
    refine Goes.step (T2 := T142) (g2 := (mkF m 180 #[iv p1, rv b83, rv b86, rv b87, rv b88, iv 2, rv b87, rv b86, rv w132, rv w134, iv 1, .unset] [(.ref b86)])) (fun _ hr => XS.aload X142.here hx rfl (hb hby at_178) rfl rfl hr) ?_
    refine Goes.step (T2 := T142) (g2 := (mkF m 182 #[iv p1, rv b83, rv b86, rv b87, rv b88, iv 2, rv b87, rv b86, rv w132, rv w134, iv 1, .unset] [(.ref w132), (.ref b86)])) (fun _ hr => XS.aload X142.here hx rfl (hb hby at_180) rfl rfl hr) ?_
    refine Goes.step (T2 := T142) (g2 := (mkF m 185 #[iv p1, rv b83, rv b86, rv b87, rv b88, iv 2, rv b87, rv b86, rv w132, rv w134, iv 1, .unset] [])) (fun _ hr => Jvm.RoadKit.acmp (g := (mkF m 182 #[iv p1, rv b83, rv b86, rv b87, rv b88, iv 2, rv b87, rv b86, rv w132, rv w134, iv 1, .unset] [(.ref w132), (.ref b86)])) X142 hx rfl rfl rfl (pc0 := 182) (pc' := 185) (same := false) rfl (hb hby at_182) rfl (decide_eq_false fun q => (Nat.ne_of_lt (Nat.lt_of_lt_of_le V_b86_130.lt P132_0)) (Value.ref.inj q)) (by decide) (by decide) hr) ?_
    refine Goes.step (T2 := T142) (g2 := (mkF m 187 #[iv p1, rv b83, rv b86, rv b87, rv b88, iv 2, rv b87, rv b86, rv w132, rv w134, iv 1, .unset] [(.ref b86)])) (fun _ hr => XS.aload X142.here hx rfl (hb hby at_185) rfl rfl hr) ?_
    refine Goes.step (T2 := T142) (g2 := (mkF m 189 #[iv p1, rv b83, rv b86, rv b87, rv b88, iv 2, rv b87, rv b86, rv w132, rv w134, iv 1, .unset] [(.ref w134), (.ref b86)])) (fun _ hr => XS.aload X142.here hx rfl (hb hby at_187) rfl rfl hr) ?_
    refine Goes.step (T2 := T142) (g2 := (mkF m 192 #[iv p1, rv b83, rv b86, rv b87, rv b88, iv 2, rv b87, rv b86, rv w132, rv w134, iv 1, .unset] [])) (fun _ hr => Jvm.RoadKit.acmp (g := (mkF m 189 #[iv p1, rv b83, rv b86, rv b87, rv b88, iv 2, rv b87, rv b86, rv w132, rv w134, iv 1, .unset] [(.ref w134), (.ref b86)])) X142 hx rfl rfl rfl (pc0 := 189) (pc' := 192) (same := false) rfl (hb hby at_189) rfl (decide_eq_false fun q => (Nat.ne_of_lt (Nat.lt_of_lt_of_le V_b86_132.lt P134_0)) (Value.ref.inj q)) (by decide) (by decide) hr) ?_
    refine Goes.step (T2 := T142) (g2 := (mkF m 194 #[iv p1, rv b83, rv b86, rv b87, rv b88, iv 2, rv b87, rv b86, rv w132, rv w134, iv 1, .unset] [(.ref w132)])) (fun _ hr => XS.aload X142.here hx rfl (hb hby at_192) rfl rfl hr) ?_
    refine Goes.step (T2 := T142) (g2 := (mkF m 196 #[iv p1, rv b83, rv b86, rv b87, rv b88, iv 2, rv b87, rv b86, rv w132, rv w134, iv 1, .unset] [(.ref w134), (.ref w132)])) (fun _ hr => XS.aload X142.here hx rfl (hb hby at_194) rfl rfl hr) ?_
    refine Goes.step (T2 := T142) (g2 := (mkF m 199 #[iv p1, rv b83, rv b86, rv b87, rv b88, iv 2, rv b87, rv b86, rv w132, rv w134, iv 1, .unset] [])) (fun _ hr => Jvm.RoadKit.acmp (g := (mkF m 196 #[iv p1, rv b83, rv b86, rv b87, rv b88, iv 2, rv b87, rv b86, rv w132, rv w134, iv 1, .unset] [(.ref w134), (.ref w132)])) X142 hx rfl rfl rfl (pc0 := 196) (pc' := 199) (same := false) rfl (hb hby at_196) rfl (decide_eq_false fun q => (Nat.ne_of_lt (Nat.lt_of_lt_of_le E_w132_132c.lt P134_0)) (Value.ref.inj q)) (by decide) (by decide) hr) ?_
    refine Goes.step (T2 := T142) (g2 := (mkF m 200 #[iv p1, rv b83, rv b86, rv b87, rv b88, iv 2, rv b87, rv b86, rv w132, rv w134, iv 1, .unset] [(.int (1 : Int32))])) (fun _ hr => XS.iconst X142.here hx rfl (hb hby at_199) hr) ?_
    refine Goes.step (T2 := T142) (g2 := (mkF m 204 #[iv p1, rv b83, rv b86, rv b87, rv b88, iv 2, rv b87, rv b86, rv w132, rv w134, iv 1, .unset] [(.int (1 : Int32))])) (fun _ hr => XS.goto X142.here hx rfl (pc0 := 200) (pc' := 204) rfl (hb hby at_200) (by decide) (by decide) hr) ?_
    refine Goes.step (T2 := T142) (g2 := (mkF m 206 #[iv p1, rv b83, rv b86, rv b87, rv b88, iv 2, rv b87, rv b86, rv w132, rv w134, iv 1, iv 1] [])) (fun _ hr => XS.istore X142.here hx rfl (hb hby at_204) rfl (l' := #[iv p1, rv b83, rv b86, rv b87, rv b88, iv 2, rv b87, rv b86, rv w132, rv w134, iv 1, iv 1]) rfl hr) ?_
    refine Goes.step (T2 := T142) (g2 := (mkF m 208 #[iv p1, rv b83, rv b86, rv b87, rv b88, iv 2, rv b87, rv b86, rv w132, rv w134, iv 1, iv 1] [(.int (1 : Int32))])) (fun _ hr => XS.iload X142.here hx rfl (hb hby at_206) rfl  hr) ?_
    refine Goes.step (T2 := T142) (g2 := (mkF m 211 #[iv p1, rv b83, rv b86, rv b87, rv b88, iv 2, rv b87, rv b86, rv w132, rv w134, iv 1, iv 1] [])) (fun _ hr => XS.ifNo X142.here hx rfl (hb hby at_208) rfl ((if0 _ _).trans (feq (by decide : ¬ ((1 : Int32) = (0 : Int32)))).1) hr) ?_
    refine Goes.step (T2 := T142) (g2 := (mkF m 213 #[iv p1, rv b83, rv b86, rv b87, rv b88, iv 2, rv b87, rv b86, rv w132, rv w134, iv 1, iv 1] [(.int (1 : Int32))])) (fun _ hr => XS.iload X142.here hx rfl (hb hby at_211) rfl  hr) ?_
    refine Goes.step (T2 := T142) (g2 := (mkF m 216 #[iv p1, rv b83, rv b86, rv b87, rv b88, iv 2, rv b87, rv b86, rv w132, rv w134, iv 1, iv 1] [])) (fun _ hr => XS.ifNo X142.here hx rfl (hb hby at_213) rfl ((if0 _ _).trans (feq (by decide : ¬ ((1 : Int32) = (0 : Int32)))).1) hr) ?_
    refine Goes.step (T2 := T142) (g2 := (mkF m 217 #[iv p1, rv b83, rv b86, rv b87, rv b88, iv 2, rv b87, rv b86, rv w132, rv w134, iv 1, iv 1] [(.int (1 : Int32))])) (fun _ hr => XS.iconst X142.here hx rfl (hb hby at_216) hr) ?_
    refine Goes.step (T2 := T142) (g2 := (mkF m 221 #[iv p1, rv b83, rv b86, rv b87, rv b88, iv 2, rv b87, rv b86, rv w132, rv w134, iv 1, iv 1] [(.int (1 : Int32))])) (fun _ hr => XS.goto X142.here hx rfl (pc0 := 217) (pc' := 221) rfl (hb hby at_217) (by decide) (by decide) hr) ?_
    exact Goes.ret (v := some (.int (1 : Int32))) X142 (by decide) (by decide) (fun h => by rw [Bd.returns] at h; cases h) ⟨rfl, N142⟩ (fun fs hr => retN X142 hx (t := .boolean) Bd.returns (by simp) (hb hby at_221) hr)
  · rw [hk]
    refine Goes.step (T2 := T88) (g2 := (mkF m 32 #[iv p1, rv b83, rv b86, rv b87, rv b88, iv 3, .unset, .unset, .unset, .unset, .unset, .unset] [])) (fun _ hr => XS.istore X88.here hx rfl (hb hby at_30) rfl (l' := #[iv p1, rv b83, rv b86, rv b87, rv b88, iv 3, .unset, .unset, .unset, .unset, .unset, .unset]) rfl hr) ?_
    refine Goes.step (T2 := T88) (g2 := (mkF m 34 #[iv p1, rv b83, rv b86, rv b87, rv b88, iv 3, .unset, .unset, .unset, .unset, .unset, .unset] [(.int (3 : Int32))])) (fun _ hr => XS.iload X88.here hx rfl (hb hby at_32) rfl  hr) ?_
    refine Goes.step (T2 := T88) (g2 := (mkF m 35 #[iv p1, rv b83, rv b86, rv b87, rv b88, iv 3, .unset, .unset, .unset, .unset, .unset, .unset] [(.int (1 : Int32)), (.int (3 : Int32))])) (fun _ hr => XS.iconst X88.here hx rfl (hb hby at_34) hr) ?_
    refine Goes.step (T2 := T88) (g2 := (mkF m 38 #[iv p1, rv b83, rv b86, rv b87, rv b88, iv 3, .unset, .unset, .unset, .unset, .unset, .unset] [])) (fun _ hr => XS.icmpNo X88.here hx rfl (hb hby at_35) rfl (flt (by decide : ¬ ((3 : Int32) < (1 : Int32)))).1 hr) ?_
    refine Goes.step (T2 := T88) (g2 := (mkF m 39 #[iv p1, rv b83, rv b86, rv b87, rv b88, iv 3, .unset, .unset, .unset, .unset, .unset, .unset] [(.ref b83)])) (fun _ hr => XS.aloadN X88.here hx rfl (hb hby at_38) rfl rfl hr) ?_
    refine Goes.step (T2 := T88) (g2 := (mkF m 40 #[iv p1, rv b83, rv b86, rv b87, rv b88, iv 3, .unset, .unset, .unset, .unset, .unset, .unset] [(.ref b86), (.ref b83)])) (fun _ hr => XS.aloadN X88.here hx rfl (hb hby at_39) rfl rfl hr) ?_
    have Zs143 : n0 ≤ h88.size := Nat.le_trans Z0 K88.1
    obtain ⟨cq144, kq144, q144a, q144b, q144c⟩ := isOf hZ e88 E_b83_88
    obtain ⟨_, _, ⟨T144, L144, k144, n144⟩, -, X144, ⟨Lc144, hQ144, l144, y144, z144⟩, st144⟩ := X88.virtualBack hx (y := Y2) (z := Y2) hown (mvT hZ (tw hw 25 rfl)) (mvT hZ (tw hw 26 rfl)) (notFace_of_selects (args := #[]) (mvT hZ (tw hw 28 rfl))) (mvT hZ (tw hw 28 rfl)) (mvT hZ (tw hw 27 rfl)) (by decide) (backOf (W := 0) (rm_give0 l Z a0 hw [] b83 sp85 k85 .null .null .null b86 h88 n0 Zs143 (Old.keep O0 K88 hws) E_b83_88 F_b83_spare_88 F_b83_spareCount_88 V_sp85_88 E_b86_88 (LenB.of V_b86_88) ge_b83 ge_sp85 (Nat.ne_of_lt (Nat.lt_of_lt_of_le A83.lt P85_0)) (Ne.symm (Nat.ne_of_lt (Nat.lt_of_lt_of_le E_b83_85.lt (Nat.le_of_eq g86.symm)))) (Ne.symm (Nat.ne_of_lt (Nat.lt_of_lt_of_le V_sp85_85c.lt (Nat.le_of_eq g86.symm)))) P85_4) hZ (tw hw 29 rfl) (tw hw 2 rfl) (by decide) (by decide)) q144a q144c (g := (mkF m 40 #[iv p1, rv b83, rv b86, rv b87, rv b88, iv 3, .unset, .unset, .unset, .unset, .unset, .unset] [(.ref b86), (.ref b83)])) rfl (by rw [hml]; rfl) (Steps.refl _) (argsL := [(.ref b86)]) (rest := []) (lenOf pd_4 rfl) rfl (by show 2 * 0 + _ ≤ _; exact Nat.le_of_eq rfl) (hb hby at_40) (fun _ _ => ⟨rfl, e88, (by decide : 5 + 0 ≤ _), (by decide : 49218 + 0 ≤ _)⟩)
    dsimp only [Pt.U, Pt.locs, Pt.cells, Pt.slots] at X144 l144 y144 z144 st144 hQ144
    subst l144 y144 z144
    obtain ⟨rfl, N144q, Kc144, P144_0, P144_1, P144_2⟩ := hQ144
    have N144 := Fr.app N85 N144q
    have E_b83_144 : Exa Z T144.heap b83 "com/example/api_policy_gateway/apipolicygateway/net/BufferPool" := E_b83_88.keep Kc144
    have V_b86_144 : Arv Z T144.heap b86 k86 .byte (16384 : Int32) [] (.int (0 : Int32)) := V_b86_88.keep Kc144 (ninS (Ne.symm (Nat.ne_of_lt (Nat.lt_of_lt_of_le E_b83_85.lt (Nat.le_of_eq g86.symm)))) (ninS (Ne.symm (Nat.ne_of_lt (Nat.lt_of_lt_of_le V_sp85_85c.lt (Nat.le_of_eq g86.symm)))) nin0))
    have E_b86_144 : Exa Z T144.heap b86 "[B" := E_b86_88.keep Kc144
    have V_b87_144 : Arv Z T144.heap b87 k87 .byte (16384 : Int32) [] (.int (0 : Int32)) := V_b87_88.keep Kc144 (ninS (Ne.symm (Nat.ne_of_lt (Nat.lt_of_lt_of_le E_b83_86.lt (Nat.le_of_eq g87.symm)))) (ninS (Ne.symm (Nat.ne_of_lt (Nat.lt_of_lt_of_le V_sp85_86.lt (Nat.le_of_eq g87.symm)))) nin0))
    have E_b87_144 : Exa Z T144.heap b87 "[B" := E_b87_88.keep Kc144
    have V_b88_144 : Arv Z T144.heap b88 k88 .byte (16384 : Int32) [] (.int (0 : Int32)) := V_b88_88.keep Kc144 (ninS (Ne.symm (Nat.ne_of_lt (Nat.lt_of_lt_of_le E_b83_87.lt (Nat.le_of_eq g88.symm)))) (ninS (Ne.symm (Nat.ne_of_lt (Nat.lt_of_lt_of_le V_sp85_87.lt (Nat.le_of_eq g88.symm)))) nin0))
    have E_b88_144 : Exa Z T144.heap b88 "[B" := Ax88.keep Kc144
    have K144 : Keep h0 T144.heap [] := K88.trans Kc144 (allS (Or.inr sz_b83) (allS (Or.inr sz_sp85) all0))
    have F_b83_spare_144c : Fld Z T144.heap b83 "com/example/api_policy_gateway/apipolicygateway/net/BufferPool" "spare" "[[B" (.ref sp85) := P144_0
    have F_b83_spareCount_144c : Fld Z T144.heap b83 "com/example/api_policy_gateway/apipolicygateway/net/BufferPool" "spareCount" "I" (.int (1 : Int32)) := P144_1
    have V_sp85_144c : Arv Z T144.heap sp85 k85 (.array .byte) (64 : Int32) [(.ref b86), .null, .null] .null := P144_2
    refine Goes.step (T2 := T144) (g2 := (mkF m 43 #[iv p1, rv b83, rv b86, rv b87, rv b88, iv 3, .unset, .unset, .unset, .unset, .unset, .unset] [])) (fun _ hr => st144.trans hr) ?_
    refine Goes.step (T2 := T144) (g2 := (mkF m 45 #[iv p1, rv b83, rv b86, rv b87, rv b88, iv 3, .unset, .unset, .unset, .unset, .unset, .unset] [(.int (3 : Int32))])) (fun _ hr => XS.iload X144.here hx rfl (hb hby at_43) rfl  hr) ?_
    refine Goes.step (T2 := T144) (g2 := (mkF m 46 #[iv p1, rv b83, rv b86, rv b87, rv b88, iv 3, .unset, .unset, .unset, .unset, .unset, .unset] [(.int (2 : Int32)), (.int (3 : Int32))])) (fun _ hr => XS.iconst X144.here hx rfl (hb hby at_45) hr) ?_
    refine Goes.step (T2 := T144) (g2 := (mkF m 49 #[iv p1, rv b83, rv b86, rv b87, rv b88, iv 3, .unset, .unset, .unset, .unset, .unset, .unset] [])) (fun _ hr => XS.icmpNo X144.here hx rfl (hb hby at_46) rfl (flt (by decide : ¬ ((3 : Int32) < (2 : Int32)))).1 hr) ?_
    refine Goes.step (T2 := T144) (g2 := (mkF m 50 #[iv p1, rv b83, rv b86, rv b87, rv b88, iv 3, .unset, .unset, .unset, .unset, .unset, .unset] [(.ref b83)])) (fun _ hr => XS.aloadN X144.here hx rfl (hb hby at_49) rfl rfl hr) ?_
    refine Goes.step (T2 := T144) (g2 := (mkF m 51 #[iv p1, rv b83, rv b86, rv b87, rv b88, iv 3, .unset, .unset, .unset, .unset, .unset, .unset] [(.ref b87), (.ref b83)])) (fun _ hr => XS.aloadN X144.here hx rfl (hb hby at_50) rfl rfl hr) ?_
    have Zs145 : n0 ≤ T144.heap.size := Nat.le_trans Z0 K144.1
    obtain ⟨cq146, kq146, q146a, q146b, q146c⟩ := isOf hZ rfl E_b83_144
    obtain ⟨_, _, ⟨T146, L146, k146, n146⟩, -, X146, ⟨Lc146, hQ146, l146, y146, z146⟩, st146⟩ := X144.virtualBack hx (y := Y2) (z := Y2) hown (mvT hZ (tw hw 25 rfl)) (mvT hZ (tw hw 26 rfl)) (notFace_of_selects (args := #[]) (mvT hZ (tw hw 28 rfl))) (mvT hZ (tw hw 28 rfl)) (mvT hZ (tw hw 27 rfl)) (by decide) (backOf (W := 0) (rm_give1 l Z a0 hw [] b83 sp85 k85 (.ref b86) .null .null b87 T144.heap n0 Zs145 (Old.keep O0 K144 hws) E_b83_144 F_b83_spare_144c F_b83_spareCount_144c V_sp85_144c E_b87_144 (LenB.of V_b87_144) ge_b83 ge_sp85 (Nat.ne_of_lt (Nat.lt_of_lt_of_le A83.lt P85_0)) (Ne.symm (Nat.ne_of_lt (Nat.lt_of_lt_of_le E_b83_86.lt (Nat.le_of_eq g87.symm)))) (Ne.symm (Nat.ne_of_lt (Nat.lt_of_lt_of_le V_sp85_86.lt (Nat.le_of_eq g87.symm)))) P85_4) hZ (tw hw 29 rfl) (tw hw 2 rfl) (by decide) (by decide)) q146a q146c (g := (mkF m 51 #[iv p1, rv b83, rv b86, rv b87, rv b88, iv 3, .unset, .unset, .unset, .unset, .unset, .unset] [(.ref b87), (.ref b83)])) rfl (by rw [hml]; rfl) (Steps.refl _) (argsL := [(.ref b87)]) (rest := []) (lenOf pd_4 rfl) rfl (by show 2 * 0 + _ ≤ _; exact Nat.le_of_eq rfl) (hb hby at_51) (fun _ _ => ⟨rfl, rfl, (by decide : 5 + 0 ≤ _), (by decide : 49218 + 0 ≤ _)⟩)
    dsimp only [Pt.U, Pt.locs, Pt.cells, Pt.slots] at X146 l146 y146 z146 st146 hQ146
    subst l146 y146 z146
    obtain ⟨rfl, N146q, Kc146, P146_0, P146_1, P146_2⟩ := hQ146
    have N146 := Fr.app N144 N146q
    have E_b83_146 : Exa Z T146.heap b83 "com/example/api_policy_gateway/apipolicygateway/net/BufferPool" := E_b83_144.keep Kc146
    have V_b86_146 : Arv Z T146.heap b86 k86 .byte (16384 : Int32) [] (.int (0 : Int32)) := V_b86_144.keep Kc146 (ninS (Ne.symm (Nat.ne_of_lt (Nat.lt_of_lt_of_le E_b83_85.lt (Nat.le_of_eq g86.symm)))) (ninS (Ne.symm (Nat.ne_of_lt (Nat.lt_of_lt_of_le V_sp85_85c.lt (Nat.le_of_eq g86.symm)))) nin0))
    have E_b86_146 : Exa Z T146.heap b86 "[B" := E_b86_144.keep Kc146
    have V_b87_146 : Arv Z T146.heap b87 k87 .byte (16384 : Int32) [] (.int (0 : Int32)) := V_b87_144.keep Kc146 (ninS (Ne.symm (Nat.ne_of_lt (Nat.lt_of_lt_of_le E_b83_86.lt (Nat.le_of_eq g87.symm)))) (ninS (Ne.symm (Nat.ne_of_lt (Nat.lt_of_lt_of_le V_sp85_86.lt (Nat.le_of_eq g87.symm)))) nin0))
    have E_b87_146 : Exa Z T146.heap b87 "[B" := E_b87_144.keep Kc146
    have V_b88_146 : Arv Z T146.heap b88 k88 .byte (16384 : Int32) [] (.int (0 : Int32)) := V_b88_144.keep Kc146 (ninS (Ne.symm (Nat.ne_of_lt (Nat.lt_of_lt_of_le E_b83_87.lt (Nat.le_of_eq g88.symm)))) (ninS (Ne.symm (Nat.ne_of_lt (Nat.lt_of_lt_of_le V_sp85_87.lt (Nat.le_of_eq g88.symm)))) nin0))
    have E_b88_146 : Exa Z T146.heap b88 "[B" := E_b88_144.keep Kc146
    have K146 : Keep h0 T146.heap [] := K144.trans Kc146 (allS (Or.inr sz_b83) (allS (Or.inr sz_sp85) all0))
    have F_b83_spare_146c : Fld Z T146.heap b83 "com/example/api_policy_gateway/apipolicygateway/net/BufferPool" "spare" "[[B" (.ref sp85) := P146_0
    have F_b83_spareCount_146c : Fld Z T146.heap b83 "com/example/api_policy_gateway/apipolicygateway/net/BufferPool" "spareCount" "I" (.int (2 : Int32)) := P146_1
    have V_sp85_146c : Arv Z T146.heap sp85 k85 (.array .byte) (64 : Int32) [(.ref b86), (.ref b87), .null] .null := P146_2
    refine Goes.step (T2 := T146) (g2 := (mkF m 54 #[iv p1, rv b83, rv b86, rv b87, rv b88, iv 3, .unset, .unset, .unset, .unset, .unset, .unset] [])) (fun _ hr => st146.trans hr) ?_
    refine Goes.step (T2 := T146) (g2 := (mkF m 56 #[iv p1, rv b83, rv b86, rv b87, rv b88, iv 3, .unset, .unset, .unset, .unset, .unset, .unset] [(.int (3 : Int32))])) (fun _ hr => XS.iload X146.here hx rfl (hb hby at_54) rfl  hr) ?_
    refine Goes.step (T2 := T146) (g2 := (mkF m 57 #[iv p1, rv b83, rv b86, rv b87, rv b88, iv 3, .unset, .unset, .unset, .unset, .unset, .unset] [(.int (3 : Int32)), (.int (3 : Int32))])) (fun _ hr => XS.iconst X146.here hx rfl (hb hby at_56) hr) ?_
    refine Goes.step (T2 := T146) (g2 := (mkF m 60 #[iv p1, rv b83, rv b86, rv b87, rv b88, iv 3, .unset, .unset, .unset, .unset, .unset, .unset] [])) (fun _ hr => XS.icmpNo X146.here hx rfl (hb hby at_57) rfl (flt (by decide : ¬ ((3 : Int32) < (3 : Int32)))).1 hr) ?_
    refine Goes.step (T2 := T146) (g2 := (mkF m 61 #[iv p1, rv b83, rv b86, rv b87, rv b88, iv 3, .unset, .unset, .unset, .unset, .unset, .unset] [(.ref b83)])) (fun _ hr => XS.aloadN X146.here hx rfl (hb hby at_60) rfl rfl hr) ?_
    refine Goes.step (T2 := T146) (g2 := (mkF m 63 #[iv p1, rv b83, rv b86, rv b87, rv b88, iv 3, .unset, .unset, .unset, .unset, .unset, .unset] [(.ref b88), (.ref b83)])) (fun _ hr => XS.aload X146.here hx rfl (hb hby at_61) rfl rfl hr) ?_
    have Zs147 : n0 ≤ T146.heap.size := Nat.le_trans Z0 K146.1
    obtain ⟨cq148, kq148, q148a, q148b, q148c⟩ := isOf hZ rfl E_b83_146
    obtain ⟨_, _, ⟨T148, L148, k148, n148⟩, -, X148, ⟨Lc148, hQ148, l148, y148, z148⟩, st148⟩ := X146.virtualBack hx (y := Y2) (z := Y2) hown (mvT hZ (tw hw 25 rfl)) (mvT hZ (tw hw 26 rfl)) (notFace_of_selects (args := #[]) (mvT hZ (tw hw 28 rfl))) (mvT hZ (tw hw 28 rfl)) (mvT hZ (tw hw 27 rfl)) (by decide) (backOf (W := 0) (rm_give2 l Z a0 hw [] b83 sp85 k85 (.ref b86) (.ref b87) .null b88 T146.heap n0 Zs147 (Old.keep O0 K146 hws) E_b83_146 F_b83_spare_146c F_b83_spareCount_146c V_sp85_146c E_b88_146 (LenB.of V_b88_146) ge_b83 ge_sp85 (Nat.ne_of_lt (Nat.lt_of_lt_of_le A83.lt P85_0)) (Ne.symm (Nat.ne_of_lt (Nat.lt_of_lt_of_le E_b83_87.lt (Nat.le_of_eq g88.symm)))) (Ne.symm (Nat.ne_of_lt (Nat.lt_of_lt_of_le V_sp85_87.lt (Nat.le_of_eq g88.symm)))) P85_4) hZ (tw hw 29 rfl) (tw hw 2 rfl) (by decide) (by decide)) q148a q148c (g := (mkF m 63 #[iv p1, rv b83, rv b86, rv b87, rv b88, iv 3, .unset, .unset, .unset, .unset, .unset, .unset] [(.ref b88), (.ref b83)])) rfl (by rw [hml]; rfl) (Steps.refl _) (argsL := [(.ref b88)]) (rest := []) (lenOf pd_4 rfl) rfl (by show 2 * 0 + _ ≤ _; exact Nat.le_of_eq rfl) (hb hby at_63) (fun _ _ => ⟨rfl, rfl, (by decide : 5 + 0 ≤ _), (by decide : 49218 + 0 ≤ _)⟩)
    dsimp only [Pt.U, Pt.locs, Pt.cells, Pt.slots] at X148 l148 y148 z148 st148 hQ148
    subst l148 y148 z148
    obtain ⟨rfl, N148q, Kc148, P148_0, P148_1, P148_2⟩ := hQ148
    have N148 := Fr.app N146 N148q
    have E_b83_148 : Exa Z T148.heap b83 "com/example/api_policy_gateway/apipolicygateway/net/BufferPool" := E_b83_146.keep Kc148
    have V_b86_148 : Arv Z T148.heap b86 k86 .byte (16384 : Int32) [] (.int (0 : Int32)) := V_b86_146.keep Kc148 (ninS (Ne.symm (Nat.ne_of_lt (Nat.lt_of_lt_of_le E_b83_85.lt (Nat.le_of_eq g86.symm)))) (ninS (Ne.symm (Nat.ne_of_lt (Nat.lt_of_lt_of_le V_sp85_85c.lt (Nat.le_of_eq g86.symm)))) nin0))
    have E_b86_148 : Exa Z T148.heap b86 "[B" := E_b86_146.keep Kc148
    have V_b87_148 : Arv Z T148.heap b87 k87 .byte (16384 : Int32) [] (.int (0 : Int32)) := V_b87_146.keep Kc148 (ninS (Ne.symm (Nat.ne_of_lt (Nat.lt_of_lt_of_le E_b83_86.lt (Nat.le_of_eq g87.symm)))) (ninS (Ne.symm (Nat.ne_of_lt (Nat.lt_of_lt_of_le V_sp85_86.lt (Nat.le_of_eq g87.symm)))) nin0))
    have E_b87_148 : Exa Z T148.heap b87 "[B" := E_b87_146.keep Kc148
    have V_b88_148 : Arv Z T148.heap b88 k88 .byte (16384 : Int32) [] (.int (0 : Int32)) := V_b88_146.keep Kc148 (ninS (Ne.symm (Nat.ne_of_lt (Nat.lt_of_lt_of_le E_b83_87.lt (Nat.le_of_eq g88.symm)))) (ninS (Ne.symm (Nat.ne_of_lt (Nat.lt_of_lt_of_le V_sp85_87.lt (Nat.le_of_eq g88.symm)))) nin0))
    have E_b88_148 : Exa Z T148.heap b88 "[B" := E_b88_146.keep Kc148
    have K148 : Keep h0 T148.heap [] := K146.trans Kc148 (allS (Or.inr sz_b83) (allS (Or.inr sz_sp85) all0))
    have F_b83_spare_148c : Fld Z T148.heap b83 "com/example/api_policy_gateway/apipolicygateway/net/BufferPool" "spare" "[[B" (.ref sp85) := P148_0
    have F_b83_spareCount_148c : Fld Z T148.heap b83 "com/example/api_policy_gateway/apipolicygateway/net/BufferPool" "spareCount" "I" (.int (3 : Int32)) := P148_1
    have V_sp85_148c : Arv Z T148.heap sp85 k85 (.array .byte) (64 : Int32) [(.ref b86), (.ref b87), (.ref b88)] .null := P148_2
    refine Goes.step (T2 := T148) (g2 := (mkF m 66 #[iv p1, rv b83, rv b86, rv b87, rv b88, iv 3, .unset, .unset, .unset, .unset, .unset, .unset] [])) (fun _ hr => st148.trans hr) ?_
    refine Goes.step (T2 := T148) (g2 := (mkF m 67 #[iv p1, rv b83, rv b86, rv b87, rv b88, iv 3, .unset, .unset, .unset, .unset, .unset, .unset] [(.ref b83)])) (fun _ hr => XS.aloadN X148.here hx rfl (hb hby at_66) rfl rfl hr) ?_
    have Zs149 : n0 ≤ T148.heap.size := Nat.le_trans Z0 K148.1
    obtain ⟨cq150, kq150, q150a, q150b, q150c⟩ := isOf hZ rfl E_b83_148
    obtain ⟨_, _, ⟨T150, L150, k150, n150⟩, -, X150, ⟨Lc150, hQ150, l150, y150, z150⟩, st150⟩ := X148.virtualBack hx (y := Y1) (z := Y1) hown (mvT hZ (tw hw 14 rfl)) (mvT hZ (tw hw 15 rfl)) (notFace_of_selects (args := #[]) (mvT hZ (tw hw 17 rfl))) (mvT hZ (tw hw 17 rfl)) (mvT hZ (tw hw 16 rfl)) (by decide) (backOf (W := 0) (rm_take3 l Z a0 hw [] b83 sp85 k85 (.ref b86) (.ref b87) b88 T148.heap n0 Zs149 (Old.keep O0 K148 hws) E_b83_148 F_b83_spare_148c F_b83_spareCount_148c V_sp85_148c ge_b83 ge_sp85 (Nat.ne_of_lt (Nat.lt_of_lt_of_le A83.lt P85_0))) hZ (tw hw 18 rfl) (tw hw 2 rfl) (by decide) (by decide)) q150a q150c (g := (mkF m 67 #[iv p1, rv b83, rv b86, rv b87, rv b88, iv 3, .unset, .unset, .unset, .unset, .unset, .unset] [(.ref b83)])) rfl (by rw [hml]; rfl) (Steps.refl _) (argsL := []) (rest := []) (lenOf pd_2 rfl) rfl (by show 2 * 0 + _ ≤ _; exact Nat.le_of_eq rfl) (hb hby at_67) (fun _ _ => ⟨rfl, rfl, (by decide : 5 + 0 ≤ _), (by decide : 49218 + 0 ≤ _)⟩)
    dsimp only [Pt.U, Pt.locs, Pt.cells, Pt.slots] at X150 l150 y150 z150 st150 hQ150
    subst l150 y150 z150
    obtain ⟨rfl, N150q, Kc150, P150_0, P150_1, P150_2⟩ := hQ150
    have N150 := Fr.app N148 N150q
    have E_b83_150 : Exa Z T150.heap b83 "com/example/api_policy_gateway/apipolicygateway/net/BufferPool" := E_b83_148.keep Kc150
    have V_b86_150 : Arv Z T150.heap b86 k86 .byte (16384 : Int32) [] (.int (0 : Int32)) := V_b86_148.keep Kc150 (ninS (Ne.symm (Nat.ne_of_lt (Nat.lt_of_lt_of_le E_b83_85.lt (Nat.le_of_eq g86.symm)))) (ninS (Ne.symm (Nat.ne_of_lt (Nat.lt_of_lt_of_le V_sp85_85c.lt (Nat.le_of_eq g86.symm)))) nin0))
    have E_b86_150 : Exa Z T150.heap b86 "[B" := E_b86_148.keep Kc150
    have V_b87_150 : Arv Z T150.heap b87 k87 .byte (16384 : Int32) [] (.int (0 : Int32)) := V_b87_148.keep Kc150 (ninS (Ne.symm (Nat.ne_of_lt (Nat.lt_of_lt_of_le E_b83_86.lt (Nat.le_of_eq g87.symm)))) (ninS (Ne.symm (Nat.ne_of_lt (Nat.lt_of_lt_of_le V_sp85_86.lt (Nat.le_of_eq g87.symm)))) nin0))
    have E_b87_150 : Exa Z T150.heap b87 "[B" := E_b87_148.keep Kc150
    have V_b88_150 : Arv Z T150.heap b88 k88 .byte (16384 : Int32) [] (.int (0 : Int32)) := V_b88_148.keep Kc150 (ninS (Ne.symm (Nat.ne_of_lt (Nat.lt_of_lt_of_le E_b83_87.lt (Nat.le_of_eq g88.symm)))) (ninS (Ne.symm (Nat.ne_of_lt (Nat.lt_of_lt_of_le V_sp85_87.lt (Nat.le_of_eq g88.symm)))) nin0))
    have E_b88_150 : Exa Z T150.heap b88 "[B" := E_b88_148.keep Kc150
    have K150 : Keep h0 T150.heap [] := K148.trans Kc150 (allS (Or.inr sz_b83) (allS (Or.inr sz_sp85) all0))
    have F_b83_spare_150c : Fld Z T150.heap b83 "com/example/api_policy_gateway/apipolicygateway/net/BufferPool" "spare" "[[B" (.ref sp85) := P150_0
    have F_b83_spareCount_150c : Fld Z T150.heap b83 "com/example/api_policy_gateway/apipolicygateway/net/BufferPool" "spareCount" "I" (.int (2 : Int32)) := P150_1
    have V_sp85_150c : Arv Z T150.heap sp85 k85 (.array .byte) (64 : Int32) [(.ref b86), (.ref b87), .null] .null := P150_2
    refine Goes.step (T2 := T150) (g2 := (mkF m 70 #[iv p1, rv b83, rv b86, rv b87, rv b88, iv 3, .unset, .unset, .unset, .unset, .unset, .unset] [(.ref b88)])) (fun _ hr => st150.trans hr) ?_
    refine Goes.step (T2 := T150) (g2 := (mkF m 72 #[iv p1, rv b83, rv b86, rv b87, rv b88, iv 3, rv b88, .unset, .unset, .unset, .unset, .unset] [])) (fun _ hr => XS.astore X150.here hx rfl (hb hby at_70) rfl rfl (l' := #[iv p1, rv b83, rv b86, rv b87, rv b88, iv 3, rv b88, .unset, .unset, .unset, .unset, .unset]) rfl hr) ?_
    refine Goes.step (T2 := T150) (g2 := (mkF m 73 #[iv p1, rv b83, rv b86, rv b87, rv b88, iv 3, rv b88, .unset, .unset, .unset, .unset, .unset] [(.ref b83)])) (fun _ hr => XS.aloadN X150.here hx rfl (hb hby at_72) rfl rfl hr) ?_
    have Zs151 : n0 ≤ T150.heap.size := Nat.le_trans Z0 K150.1
    obtain ⟨cq152, kq152, q152a, q152b, q152c⟩ := isOf hZ rfl E_b83_150
    obtain ⟨_, _, ⟨T152, L152, k152, n152⟩, -, X152, ⟨Lc152, hQ152, l152, y152, z152⟩, st152⟩ := X150.virtualBack hx (y := Y1) (z := Y1) hown (mvT hZ (tw hw 14 rfl)) (mvT hZ (tw hw 15 rfl)) (notFace_of_selects (args := #[]) (mvT hZ (tw hw 17 rfl))) (mvT hZ (tw hw 17 rfl)) (mvT hZ (tw hw 16 rfl)) (by decide) (backOf (W := 0) (rm_take2 l Z a0 hw [] b83 sp85 k85 (.ref b86) .null b87 T150.heap n0 Zs151 (Old.keep O0 K150 hws) E_b83_150 F_b83_spare_150c F_b83_spareCount_150c V_sp85_150c ge_b83 ge_sp85 (Nat.ne_of_lt (Nat.lt_of_lt_of_le A83.lt P85_0))) hZ (tw hw 18 rfl) (tw hw 2 rfl) (by decide) (by decide)) q152a q152c (g := (mkF m 73 #[iv p1, rv b83, rv b86, rv b87, rv b88, iv 3, rv b88, .unset, .unset, .unset, .unset, .unset] [(.ref b83)])) rfl (by rw [hml]; rfl) (Steps.refl _) (argsL := []) (rest := []) (lenOf pd_2 rfl) rfl (by show 2 * 0 + _ ≤ _; exact Nat.le_of_eq rfl) (hb hby at_73) (fun _ _ => ⟨rfl, rfl, (by decide : 5 + 0 ≤ _), (by decide : 49218 + 0 ≤ _)⟩)
    dsimp only [Pt.U, Pt.locs, Pt.cells, Pt.slots] at X152 l152 y152 z152 st152 hQ152
    subst l152 y152 z152
    obtain ⟨rfl, N152q, Kc152, P152_0, P152_1, P152_2⟩ := hQ152
    have N152 := Fr.app N150 N152q
    have E_b83_152 : Exa Z T152.heap b83 "com/example/api_policy_gateway/apipolicygateway/net/BufferPool" := E_b83_150.keep Kc152
    have V_b86_152 : Arv Z T152.heap b86 k86 .byte (16384 : Int32) [] (.int (0 : Int32)) := V_b86_150.keep Kc152 (ninS (Ne.symm (Nat.ne_of_lt (Nat.lt_of_lt_of_le E_b83_85.lt (Nat.le_of_eq g86.symm)))) (ninS (Ne.symm (Nat.ne_of_lt (Nat.lt_of_lt_of_le V_sp85_85c.lt (Nat.le_of_eq g86.symm)))) nin0))
    have E_b86_152 : Exa Z T152.heap b86 "[B" := E_b86_150.keep Kc152
    have V_b87_152 : Arv Z T152.heap b87 k87 .byte (16384 : Int32) [] (.int (0 : Int32)) := V_b87_150.keep Kc152 (ninS (Ne.symm (Nat.ne_of_lt (Nat.lt_of_lt_of_le E_b83_86.lt (Nat.le_of_eq g87.symm)))) (ninS (Ne.symm (Nat.ne_of_lt (Nat.lt_of_lt_of_le V_sp85_86.lt (Nat.le_of_eq g87.symm)))) nin0))
    have E_b87_152 : Exa Z T152.heap b87 "[B" := E_b87_150.keep Kc152
    have V_b88_152 : Arv Z T152.heap b88 k88 .byte (16384 : Int32) [] (.int (0 : Int32)) := V_b88_150.keep Kc152 (ninS (Ne.symm (Nat.ne_of_lt (Nat.lt_of_lt_of_le E_b83_87.lt (Nat.le_of_eq g88.symm)))) (ninS (Ne.symm (Nat.ne_of_lt (Nat.lt_of_lt_of_le V_sp85_87.lt (Nat.le_of_eq g88.symm)))) nin0))
    have E_b88_152 : Exa Z T152.heap b88 "[B" := E_b88_150.keep Kc152
    have K152 : Keep h0 T152.heap [] := K150.trans Kc152 (allS (Or.inr sz_b83) (allS (Or.inr sz_sp85) all0))
    have F_b83_spare_152c : Fld Z T152.heap b83 "com/example/api_policy_gateway/apipolicygateway/net/BufferPool" "spare" "[[B" (.ref sp85) := P152_0
    have F_b83_spareCount_152c : Fld Z T152.heap b83 "com/example/api_policy_gateway/apipolicygateway/net/BufferPool" "spareCount" "I" (.int (1 : Int32)) := P152_1
    have V_sp85_152c : Arv Z T152.heap sp85 k85 (.array .byte) (64 : Int32) [(.ref b86), .null, .null] .null := P152_2
    refine Goes.step (T2 := T152) (g2 := (mkF m 76 #[iv p1, rv b83, rv b86, rv b87, rv b88, iv 3, rv b88, .unset, .unset, .unset, .unset, .unset] [(.ref b87)])) (fun _ hr => st152.trans hr) ?_
    refine Goes.step (T2 := T152) (g2 := (mkF m 78 #[iv p1, rv b83, rv b86, rv b87, rv b88, iv 3, rv b88, rv b87, .unset, .unset, .unset, .unset] [])) (fun _ hr => XS.astore X152.here hx rfl (hb hby at_76) rfl rfl (l' := #[iv p1, rv b83, rv b86, rv b87, rv b88, iv 3, rv b88, rv b87, .unset, .unset, .unset, .unset]) rfl hr) ?_
    refine Goes.step (T2 := T152) (g2 := (mkF m 79 #[iv p1, rv b83, rv b86, rv b87, rv b88, iv 3, rv b88, rv b87, .unset, .unset, .unset, .unset] [(.ref b83)])) (fun _ hr => XS.aloadN X152.here hx rfl (hb hby at_78) rfl rfl hr) ?_
    have Zs153 : n0 ≤ T152.heap.size := Nat.le_trans Z0 K152.1
    obtain ⟨cq154, kq154, q154a, q154b, q154c⟩ := isOf hZ rfl E_b83_152
    obtain ⟨_, _, ⟨T154, L154, k154, n154⟩, -, X154, ⟨Lc154, hQ154, l154, y154, z154⟩, st154⟩ := X152.virtualBack hx (y := Y1) (z := Y1) hown (mvT hZ (tw hw 14 rfl)) (mvT hZ (tw hw 15 rfl)) (notFace_of_selects (args := #[]) (mvT hZ (tw hw 17 rfl))) (mvT hZ (tw hw 17 rfl)) (mvT hZ (tw hw 16 rfl)) (by decide) (backOf (W := 0) (rm_take1 l Z a0 hw [] b83 sp85 k85 .null .null b86 T152.heap n0 Zs153 (Old.keep O0 K152 hws) E_b83_152 F_b83_spare_152c F_b83_spareCount_152c V_sp85_152c ge_b83 ge_sp85 (Nat.ne_of_lt (Nat.lt_of_lt_of_le A83.lt P85_0))) hZ (tw hw 18 rfl) (tw hw 2 rfl) (by decide) (by decide)) q154a q154c (g := (mkF m 79 #[iv p1, rv b83, rv b86, rv b87, rv b88, iv 3, rv b88, rv b87, .unset, .unset, .unset, .unset] [(.ref b83)])) rfl (by rw [hml]; rfl) (Steps.refl _) (argsL := []) (rest := []) (lenOf pd_2 rfl) rfl (by show 2 * 0 + _ ≤ _; exact Nat.le_of_eq rfl) (hb hby at_79) (fun _ _ => ⟨rfl, rfl, (by decide : 5 + 0 ≤ _), (by decide : 49218 + 0 ≤ _)⟩)
    dsimp only [Pt.U, Pt.locs, Pt.cells, Pt.slots] at X154 l154 y154 z154 st154 hQ154
    subst l154 y154 z154
    obtain ⟨rfl, N154q, Kc154, P154_0, P154_1, P154_2⟩ := hQ154
    have N154 := Fr.app N152 N154q
    have E_b83_154 : Exa Z T154.heap b83 "com/example/api_policy_gateway/apipolicygateway/net/BufferPool" := E_b83_152.keep Kc154
    have V_b86_154 : Arv Z T154.heap b86 k86 .byte (16384 : Int32) [] (.int (0 : Int32)) := V_b86_152.keep Kc154 (ninS (Ne.symm (Nat.ne_of_lt (Nat.lt_of_lt_of_le E_b83_85.lt (Nat.le_of_eq g86.symm)))) (ninS (Ne.symm (Nat.ne_of_lt (Nat.lt_of_lt_of_le V_sp85_85c.lt (Nat.le_of_eq g86.symm)))) nin0))
    have E_b86_154 : Exa Z T154.heap b86 "[B" := E_b86_152.keep Kc154
    have V_b87_154 : Arv Z T154.heap b87 k87 .byte (16384 : Int32) [] (.int (0 : Int32)) := V_b87_152.keep Kc154 (ninS (Ne.symm (Nat.ne_of_lt (Nat.lt_of_lt_of_le E_b83_86.lt (Nat.le_of_eq g87.symm)))) (ninS (Ne.symm (Nat.ne_of_lt (Nat.lt_of_lt_of_le V_sp85_86.lt (Nat.le_of_eq g87.symm)))) nin0))
    have E_b87_154 : Exa Z T154.heap b87 "[B" := E_b87_152.keep Kc154
    have V_b88_154 : Arv Z T154.heap b88 k88 .byte (16384 : Int32) [] (.int (0 : Int32)) := V_b88_152.keep Kc154 (ninS (Ne.symm (Nat.ne_of_lt (Nat.lt_of_lt_of_le E_b83_87.lt (Nat.le_of_eq g88.symm)))) (ninS (Ne.symm (Nat.ne_of_lt (Nat.lt_of_lt_of_le V_sp85_87.lt (Nat.le_of_eq g88.symm)))) nin0))
    have E_b88_154 : Exa Z T154.heap b88 "[B" := E_b88_152.keep Kc154
    have K154 : Keep h0 T154.heap [] := K152.trans Kc154 (allS (Or.inr sz_b83) (allS (Or.inr sz_sp85) all0))
    have F_b83_spare_154c : Fld Z T154.heap b83 "com/example/api_policy_gateway/apipolicygateway/net/BufferPool" "spare" "[[B" (.ref sp85) := P154_0
    have F_b83_spareCount_154c : Fld Z T154.heap b83 "com/example/api_policy_gateway/apipolicygateway/net/BufferPool" "spareCount" "I" (.int (0 : Int32)) := P154_1
    have V_sp85_154c : Arv Z T154.heap sp85 k85 (.array .byte) (64 : Int32) [.null, .null, .null] .null := P154_2
    refine Goes.step (T2 := T154) (g2 := (mkF m 82 #[iv p1, rv b83, rv b86, rv b87, rv b88, iv 3, rv b88, rv b87, .unset, .unset, .unset, .unset] [(.ref b86)])) (fun _ hr => st154.trans hr) ?_
    refine Goes.step (T2 := T154) (g2 := (mkF m 84 #[iv p1, rv b83, rv b86, rv b87, rv b88, iv 3, rv b88, rv b87, rv b86, .unset, .unset, .unset] [])) (fun _ hr => XS.astore X154.here hx rfl (hb hby at_82) rfl rfl (l' := #[iv p1, rv b83, rv b86, rv b87, rv b88, iv 3, rv b88, rv b87, rv b86, .unset, .unset, .unset]) rfl hr) ?_
    refine Goes.step (T2 := T154) (g2 := (mkF m 85 #[iv p1, rv b83, rv b86, rv b87, rv b88, iv 3, rv b88, rv b87, rv b86, .unset, .unset, .unset] [(.ref b83)])) (fun _ hr => XS.aloadN X154.here hx rfl (hb hby at_84) rfl rfl hr) ?_
    have Zs155 : n0 ≤ T154.heap.size := Nat.le_trans Z0 K154.1
    obtain ⟨cq156, kq156, q156a, q156b, q156c⟩ := isOf hZ rfl E_b83_154
    obtain ⟨_, _, ⟨T156, L156, k156, n156⟩, -, X156, ⟨Lc156, hQ156, l156, y156, z156⟩, st156⟩ := X154.virtualBack hx (y := Y1) (z := Y1) hown (mvT hZ (tw hw 14 rfl)) (mvT hZ (tw hw 15 rfl)) (notFace_of_selects (args := #[]) (mvT hZ (tw hw 17 rfl))) (mvT hZ (tw hw 17 rfl)) (mvT hZ (tw hw 16 rfl)) (by decide) (backOf (W := 0) (rm_take0 l Z a0 hw [] b83 T154.heap n0 Zs155 (Old.keep O0 K154 hws) F_b83_spareCount_154c) hZ (tw hw 18 rfl) (tw hw 2 rfl) (by decide) (by decide)) q156a q156c (g := (mkF m 85 #[iv p1, rv b83, rv b86, rv b87, rv b88, iv 3, rv b88, rv b87, rv b86, .unset, .unset, .unset] [(.ref b83)])) rfl (by rw [hml]; rfl) (Steps.refl _) (argsL := []) (rest := []) (lenOf pd_2 rfl) rfl (by show 2 * 0 + _ ≤ _; exact Nat.le_of_eq rfl) (hb hby at_85) (fun _ _ => ⟨rfl, rfl, (by decide : 5 + 1 ≤ _), (by decide : 49218 + 16384 ≤ _)⟩)
    dsimp only [Pt.U, Pt.locs, Pt.cells, Pt.slots] at X156 l156 y156 z156 st156 hQ156
    subst l156 y156 z156
    obtain ⟨w156, kw156, rfl, N156q, Kc156, P156_0, P156_1, P156_2⟩ := hQ156
    have N156 := Fr.app N154 N156q
    have E_b83_156 : Exa Z T156.heap b83 "com/example/api_policy_gateway/apipolicygateway/net/BufferPool" := E_b83_154.keep Kc156
    have V_b86_156 : Arv Z T156.heap b86 k86 .byte (16384 : Int32) [] (.int (0 : Int32)) := V_b86_154.keep Kc156 nin0
    have E_b86_156 : Exa Z T156.heap b86 "[B" := E_b86_154.keep Kc156
    have V_b87_156 : Arv Z T156.heap b87 k87 .byte (16384 : Int32) [] (.int (0 : Int32)) := V_b87_154.keep Kc156 nin0
    have E_b87_156 : Exa Z T156.heap b87 "[B" := E_b87_154.keep Kc156
    have V_b88_156 : Arv Z T156.heap b88 k88 .byte (16384 : Int32) [] (.int (0 : Int32)) := V_b88_154.keep Kc156 nin0
    have E_b88_156 : Exa Z T156.heap b88 "[B" := E_b88_154.keep Kc156
    have F_b83_spare_156 : Fld Z T156.heap b83 "com/example/api_policy_gateway/apipolicygateway/net/BufferPool" "spare" "[[B" (.ref sp85) := F_b83_spare_154c.keep Kc156 nin0
    have F_b83_spareCount_156 : Fld Z T156.heap b83 "com/example/api_policy_gateway/apipolicygateway/net/BufferPool" "spareCount" "I" (.int (0 : Int32)) := F_b83_spareCount_154c.keep Kc156 nin0
    have V_sp85_156 : Arv Z T156.heap sp85 k85 (.array .byte) (64 : Int32) [.null, .null, .null] .null := V_sp85_154c.keep Kc156 nin0
    have K156 : Keep h0 T156.heap [] := K154.trans Kc156 all0
    have sz_w156 : h0.size ≤ w156 := Nat.le_trans K154.1 P156_0
    have ge_w156 : n0 ≤ w156 := Nat.le_trans Z0 sz_w156
    have E_w156_156c : Exa Z T156.heap w156 "[B" := P156_1
    have V_w156_156c : Arv Z T156.heap w156 kw156 .byte (16384 : Int32) [] (.int (0 : Int32)) := P156_2
    refine Goes.step (T2 := T156) (g2 := (mkF m 88 #[iv p1, rv b83, rv b86, rv b87, rv b88, iv 3, rv b88, rv b87, rv b86, .unset, .unset, .unset] [(.ref w156)])) (fun _ hr => st156.trans hr) ?_
    refine Goes.step (T2 := T156) (g2 := (mkF m 90 #[iv p1, rv b83, rv b86, rv b87, rv b88, iv 3, rv b88, rv b87, rv b86, rv w156, .unset, .unset] [])) (fun _ hr => XS.astore X156.here hx rfl (hb hby at_88) rfl rfl (l' := #[iv p1, rv b83, rv b86, rv b87, rv b88, iv 3, rv b88, rv b87, rv b86, rv w156, .unset, .unset]) rfl hr) ?_
    refine Goes.step (T2 := T156) (g2 := (mkF m 92 #[iv p1, rv b83, rv b86, rv b87, rv b88, iv 3, rv b88, rv b87, rv b86, rv w156, .unset, .unset] [(.ref b88)])) (fun _ hr => XS.aload X156.here hx rfl (hb hby at_90) rfl rfl hr) ?_
    refine Goes.step (T2 := T156) (g2 := (mkF m 93 #[iv p1, rv b83, rv b86, rv b87, rv b88, iv 3, rv b88, rv b87, rv b86, rv w156, .unset, .unset] [(.int (0 : Int32)), (.ref b88)])) (fun _ hr => XS.iconst X156.here hx rfl (hb hby at_92) hr) ?_
    refine Goes.step (T2 := T156) (g2 := (mkF m 95 #[iv p1, rv b83, rv b86, rv b87, rv b88, iv 3, rv b88, rv b87, rv b86, rv w156, .unset, .unset] [(.int (3 : Int32)), (.int (0 : Int32)), (.ref b88)])) (fun _ hr => XS.iload X156.here hx rfl (hb hby at_93) rfl  hr) ?_
    refine Goes.step (T2 := T156) (g2 := (mkF m 96 #[iv p1, rv b83, rv b86, rv b87, rv b88, iv 3, rv b88, rv b87, rv b86, rv w156, .unset, .unset] [(.ref b86), (.int (3 : Int32)), (.int (0 : Int32)), (.ref b88)])) (fun _ hr => XS.aloadN X156.here hx rfl (hb hby at_95) rfl rfl hr) ?_
    refine Goes.step (T2 := T156) (g2 := (mkF m 97 #[iv p1, rv b83, rv b86, rv b87, rv b88, iv 3, rv b88, rv b87, rv b86, rv w156, .unset, .unset] [(.ref b87), (.ref b86), (.int (3 : Int32)), (.int (0 : Int32)), (.ref b88)])) (fun _ hr => XS.aloadN X156.here hx rfl (hb hby at_96) rfl rfl hr) ?_
    refine Goes.step (T2 := T156) (g2 := (mkF m 99 #[iv p1, rv b83, rv b86, rv b87, rv b88, iv 3, rv b88, rv b87, rv b86, rv w156, .unset, .unset] [(.ref b88), (.ref b87), (.ref b86), (.int (3 : Int32)), (.int (0 : Int32)), (.ref b88)])) (fun _ hr => XS.aload X156.here hx rfl (hb hby at_97) rfl rfl hr) ?_
    have Zs157 : n0 ≤ T156.heap.size := Nat.le_trans Z0 K156.1
    obtain ⟨_, _, ⟨T158, L158, k158, n158⟩, -, X158, ⟨Lc158, hQ158, l158, y158, z158⟩, st158⟩ := Jvm.LawKit.callS X156 hx (y := Y4) hown (mvT hZ (tw hw 21 rfl)) (mvT hZ (tw hw 22 rfl)) (mvT hZ (tw hw 23 rfl)) (mvT hZ (tw hw 24 rfl)) (by decide) (backOf (W := 0) (rm_exp03 l Z a0 hw [] b86 b87 b88 T156.heap n0 Zs157 (Old.keep O0 K156 hws)) hZ (tw hw 24 rfl) (tw hw 23 rfl) (by decide) (by decide)) (g := (mkF m 99 #[iv p1, rv b83, rv b86, rv b87, rv b88, iv 3, rv b88, rv b87, rv b86, rv w156, .unset, .unset] [(.ref b88), (.ref b87), (.ref b86), (.int (3 : Int32)), (.int (0 : Int32)), (.ref b88)])) rfl (by rw [hml]; rfl) (argsL := [(.ref b88), (.int (0 : Int32)), (.int (3 : Int32)), (.ref b86), (.ref b87), (.ref b88)]) (rest := []) (lenOf pd_3 rfl) rfl (by show 2 * 0 + _ ≤ _; exact Nat.le_of_eq rfl) (hb hby at_99) (fun _ _ => ⟨rfl, rfl, (by decide : 6 + 0 ≤ _), (by decide : 65602 + 0 ≤ _)⟩)
    dsimp only [Pt.U, Pt.locs, Pt.cells, Pt.slots] at X158 l158 y158 z158 st158 hQ158
    subst l158 y158 z158
    obtain ⟨rfl, N158q, e158⟩ := hQ158
    have N158 := Fr.app N156 N158q
    refine Goes.step (T2 := T158) (g2 := (mkF m 102 #[iv p1, rv b83, rv b86, rv b87, rv b88, iv 3, rv b88, rv b87, rv b86, rv w156, .unset, .unset] [(.int (1 : Int32))])) st158 ?_
    refine Goes.step (T2 := T158) (g2 := (mkF m 105 #[iv p1, rv b83, rv b86, rv b87, rv b88, iv 3, rv b88, rv b87, rv b86, rv w156, .unset, .unset] [])) (fun _ hr => XS.ifNo X158.here hx rfl (hb hby at_102) rfl ((if0 _ _).trans (feq (by decide : ¬ ((1 : Int32) = (0 : Int32)))).1) hr) ?_
    refine Goes.step (T2 := T158) (g2 := (mkF m 107 #[iv p1, rv b83, rv b86, rv b87, rv b88, iv 3, rv b88, rv b87, rv b86, rv w156, .unset, .unset] [(.ref b87)])) (fun _ hr => XS.aload X158.here hx rfl (hb hby at_105) rfl rfl hr) ?_
    refine Goes.step (T2 := T158) (g2 := (mkF m 108 #[iv p1, rv b83, rv b86, rv b87, rv b88, iv 3, rv b88, rv b87, rv b86, rv w156, .unset, .unset] [(.int (1 : Int32)), (.ref b87)])) (fun _ hr => XS.iconst X158.here hx rfl (hb hby at_107) hr) ?_
    refine Goes.step (T2 := T158) (g2 := (mkF m 110 #[iv p1, rv b83, rv b86, rv b87, rv b88, iv 3, rv b88, rv b87, rv b86, rv w156, .unset, .unset] [(.int (3 : Int32)), (.int (1 : Int32)), (.ref b87)])) (fun _ hr => XS.iload X158.here hx rfl (hb hby at_108) rfl  hr) ?_
    refine Goes.step (T2 := T158) (g2 := (mkF m 111 #[iv p1, rv b83, rv b86, rv b87, rv b88, iv 3, rv b88, rv b87, rv b86, rv w156, .unset, .unset] [(.ref b86), (.int (3 : Int32)), (.int (1 : Int32)), (.ref b87)])) (fun _ hr => XS.aloadN X158.here hx rfl (hb hby at_110) rfl rfl hr) ?_
    refine Goes.step (T2 := T158) (g2 := (mkF m 112 #[iv p1, rv b83, rv b86, rv b87, rv b88, iv 3, rv b88, rv b87, rv b86, rv w156, .unset, .unset] [(.ref b87), (.ref b86), (.int (3 : Int32)), (.int (1 : Int32)), (.ref b87)])) (fun _ hr => XS.aloadN X158.here hx rfl (hb hby at_111) rfl rfl hr) ?_
    refine Goes.step (T2 := T158) (g2 := (mkF m 114 #[iv p1, rv b83, rv b86, rv b87, rv b88, iv 3, rv b88, rv b87, rv b86, rv w156, .unset, .unset] [(.ref b88), (.ref b87), (.ref b86), (.int (3 : Int32)), (.int (1 : Int32)), (.ref b87)])) (fun _ hr => XS.aload X158.here hx rfl (hb hby at_112) rfl rfl hr) ?_
    have Zs159 : n0 ≤ T156.heap.size := Nat.le_trans Z0 K156.1
    obtain ⟨_, _, ⟨T160, L160, k160, n160⟩, -, X160, ⟨Lc160, hQ160, l160, y160, z160⟩, st160⟩ := Jvm.LawKit.callS X158 hx (y := Y4) hown (mvT hZ (tw hw 21 rfl)) (mvT hZ (tw hw 22 rfl)) (mvT hZ (tw hw 23 rfl)) (mvT hZ (tw hw 24 rfl)) (by decide) (backOf (W := 0) (rm_exp13 l Z a0 hw [] b86 b87 b88 T156.heap n0 Zs159 (Old.keep O0 K156 hws)) hZ (tw hw 24 rfl) (tw hw 23 rfl) (by decide) (by decide)) (g := (mkF m 114 #[iv p1, rv b83, rv b86, rv b87, rv b88, iv 3, rv b88, rv b87, rv b86, rv w156, .unset, .unset] [(.ref b88), (.ref b87), (.ref b86), (.int (3 : Int32)), (.int (1 : Int32)), (.ref b87)])) rfl (by rw [hml]; rfl) (argsL := [(.ref b87), (.int (1 : Int32)), (.int (3 : Int32)), (.ref b86), (.ref b87), (.ref b88)]) (rest := []) (lenOf pd_3 rfl) rfl (by show 2 * 0 + _ ≤ _; exact Nat.le_of_eq rfl) (hb hby at_114) (fun _ _ => ⟨rfl, e158, (by decide : 6 + 0 ≤ _), (by decide : 65602 + 0 ≤ _)⟩)
    dsimp only [Pt.U, Pt.locs, Pt.cells, Pt.slots] at X160 l160 y160 z160 st160 hQ160
    subst l160 y160 z160
    obtain ⟨rfl, N160q, e160⟩ := hQ160
    have N160 := Fr.app N158 N160q
    refine Goes.step (T2 := T160) (g2 := (mkF m 117 #[iv p1, rv b83, rv b86, rv b87, rv b88, iv 3, rv b88, rv b87, rv b86, rv w156, .unset, .unset] [(.int (1 : Int32))])) st160 ?_
    refine Goes.step (T2 := T160) (g2 := (mkF m 120 #[iv p1, rv b83, rv b86, rv b87, rv b88, iv 3, rv b88, rv b87, rv b86, rv w156, .unset, .unset] [])) (fun _ hr => XS.ifNo X160.here hx rfl (hb hby at_117) rfl ((if0 _ _).trans (feq (by decide : ¬ ((1 : Int32) = (0 : Int32)))).1) hr) ?_
    refine Goes.step (T2 := T160) (g2 := (mkF m 122 #[iv p1, rv b83, rv b86, rv b87, rv b88, iv 3, rv b88, rv b87, rv b86, rv w156, .unset, .unset] [(.ref b86)])) (fun _ hr => XS.aload X160.here hx rfl (hb hby at_120) rfl rfl hr) ?_
    refine Goes.step (T2 := T160) (g2 := (mkF m 123 #[iv p1, rv b83, rv b86, rv b87, rv b88, iv 3, rv b88, rv b87, rv b86, rv w156, .unset, .unset] [(.int (2 : Int32)), (.ref b86)])) (fun _ hr => XS.iconst X160.here hx rfl (hb hby at_122) hr) ?_
    refine Goes.step (T2 := T160) (g2 := (mkF m 125 #[iv p1, rv b83, rv b86, rv b87, rv b88, iv 3, rv b88, rv b87, rv b86, rv w156, .unset, .unset] [(.int (3 : Int32)), (.int (2 : Int32)), (.ref b86)])) (fun _ hr => XS.iload X160.here hx rfl (hb hby at_123) rfl  hr) ?_
    refine Goes.step (T2 := T160) (g2 := (mkF m 126 #[iv p1, rv b83, rv b86, rv b87, rv b88, iv 3, rv b88, rv b87, rv b86, rv w156, .unset, .unset] [(.ref b86), (.int (3 : Int32)), (.int (2 : Int32)), (.ref b86)])) (fun _ hr => XS.aloadN X160.here hx rfl (hb hby at_125) rfl rfl hr) ?_
    refine Goes.step (T2 := T160) (g2 := (mkF m 127 #[iv p1, rv b83, rv b86, rv b87, rv b88, iv 3, rv b88, rv b87, rv b86, rv w156, .unset, .unset] [(.ref b87), (.ref b86), (.int (3 : Int32)), (.int (2 : Int32)), (.ref b86)])) (fun _ hr => XS.aloadN X160.here hx rfl (hb hby at_126) rfl rfl hr) ?_
    refine Goes.step (T2 := T160) (g2 := (mkF m 129 #[iv p1, rv b83, rv b86, rv b87, rv b88, iv 3, rv b88, rv b87, rv b86, rv w156, .unset, .unset] [(.ref b88), (.ref b87), (.ref b86), (.int (3 : Int32)), (.int (2 : Int32)), (.ref b86)])) (fun _ hr => XS.aload X160.here hx rfl (hb hby at_127) rfl rfl hr) ?_
    have Zs161 : n0 ≤ T156.heap.size := Nat.le_trans Z0 K156.1
    obtain ⟨_, _, ⟨T162, L162, k162, n162⟩, -, X162, ⟨Lc162, hQ162, l162, y162, z162⟩, st162⟩ := Jvm.LawKit.callS X160 hx (y := Y4) hown (mvT hZ (tw hw 21 rfl)) (mvT hZ (tw hw 22 rfl)) (mvT hZ (tw hw 23 rfl)) (mvT hZ (tw hw 24 rfl)) (by decide) (backOf (W := 0) (rm_exp23 l Z a0 hw [] b86 b87 b88 T156.heap n0 Zs161 (Old.keep O0 K156 hws)) hZ (tw hw 24 rfl) (tw hw 23 rfl) (by decide) (by decide)) (g := (mkF m 129 #[iv p1, rv b83, rv b86, rv b87, rv b88, iv 3, rv b88, rv b87, rv b86, rv w156, .unset, .unset] [(.ref b88), (.ref b87), (.ref b86), (.int (3 : Int32)), (.int (2 : Int32)), (.ref b86)])) rfl (by rw [hml]; rfl) (argsL := [(.ref b86), (.int (2 : Int32)), (.int (3 : Int32)), (.ref b86), (.ref b87), (.ref b88)]) (rest := []) (lenOf pd_3 rfl) rfl (by show 2 * 0 + _ ≤ _; exact Nat.le_of_eq rfl) (hb hby at_129) (fun _ _ => ⟨rfl, e160, (by decide : 6 + 0 ≤ _), (by decide : 65602 + 0 ≤ _)⟩)
    dsimp only [Pt.U, Pt.locs, Pt.cells, Pt.slots] at X162 l162 y162 z162 st162 hQ162
    subst l162 y162 z162
    obtain ⟨rfl, N162q, e162⟩ := hQ162
    have N162 := Fr.app N160 N162q
    refine Goes.step (T2 := T162) (g2 := (mkF m 132 #[iv p1, rv b83, rv b86, rv b87, rv b88, iv 3, rv b88, rv b87, rv b86, rv w156, .unset, .unset] [(.int (1 : Int32))])) st162 ?_
    refine Goes.step (T2 := T162) (g2 := (mkF m 135 #[iv p1, rv b83, rv b86, rv b87, rv b88, iv 3, rv b88, rv b87, rv b86, rv w156, .unset, .unset] [])) (fun _ hr => XS.ifNo X162.here hx rfl (hb hby at_132) rfl ((if0 _ _).trans (feq (by decide : ¬ ((1 : Int32) = (0 : Int32)))).1) hr) ?_
    refine Goes.step (T2 := T162) (g2 := (mkF m 137 #[iv p1, rv b83, rv b86, rv b87, rv b88, iv 3, rv b88, rv b87, rv b86, rv w156, .unset, .unset] [(.ref w156)])) (fun _ hr => XS.aload X162.here hx rfl (hb hby at_135) rfl rfl hr) ?_
    refine Goes.step (T2 := T162) (g2 := (mkF m 138 #[iv p1, rv b83, rv b86, rv b87, rv b88, iv 3, rv b88, rv b87, rv b86, rv w156, .unset, .unset] [(.int (3 : Int32)), (.ref w156)])) (fun _ hr => XS.iconst X162.here hx rfl (hb hby at_137) hr) ?_
    refine Goes.step (T2 := T162) (g2 := (mkF m 140 #[iv p1, rv b83, rv b86, rv b87, rv b88, iv 3, rv b88, rv b87, rv b86, rv w156, .unset, .unset] [(.int (3 : Int32)), (.int (3 : Int32)), (.ref w156)])) (fun _ hr => XS.iload X162.here hx rfl (hb hby at_138) rfl  hr) ?_
    refine Goes.step (T2 := T162) (g2 := (mkF m 141 #[iv p1, rv b83, rv b86, rv b87, rv b88, iv 3, rv b88, rv b87, rv b86, rv w156, .unset, .unset] [(.ref b86), (.int (3 : Int32)), (.int (3 : Int32)), (.ref w156)])) (fun _ hr => XS.aloadN X162.here hx rfl (hb hby at_140) rfl rfl hr) ?_
    refine Goes.step (T2 := T162) (g2 := (mkF m 142 #[iv p1, rv b83, rv b86, rv b87, rv b88, iv 3, rv b88, rv b87, rv b86, rv w156, .unset, .unset] [(.ref b87), (.ref b86), (.int (3 : Int32)), (.int (3 : Int32)), (.ref w156)])) (fun _ hr => XS.aloadN X162.here hx rfl (hb hby at_141) rfl rfl hr) ?_
    refine Goes.step (T2 := T162) (g2 := (mkF m 144 #[iv p1, rv b83, rv b86, rv b87, rv b88, iv 3, rv b88, rv b87, rv b86, rv w156, .unset, .unset] [(.ref b88), (.ref b87), (.ref b86), (.int (3 : Int32)), (.int (3 : Int32)), (.ref w156)])) (fun _ hr => XS.aload X162.here hx rfl (hb hby at_142) rfl rfl hr) ?_
    have Zs163 : n0 ≤ T156.heap.size := Nat.le_trans Z0 K156.1
    obtain ⟨_, _, ⟨T164, L164, k164, n164⟩, -, X164, ⟨Lc164, hQ164, l164, y164, z164⟩, st164⟩ := Jvm.LawKit.callS X162 hx (y := Y4) hown (mvT hZ (tw hw 21 rfl)) (mvT hZ (tw hw 22 rfl)) (mvT hZ (tw hw 23 rfl)) (mvT hZ (tw hw 24 rfl)) (by decide) (backOf (W := 0) (rm_exp33 l Z a0 hw [] w156 b86 b87 b88 T156.heap n0 Zs163 (Old.keep O0 K156 hws) (LenB.of V_w156_156c) (Ne.symm (Nat.ne_of_lt (Nat.lt_of_lt_of_le V_b86_154.lt P156_0))) (Ne.symm (Nat.ne_of_lt (Nat.lt_of_lt_of_le V_b87_154.lt P156_0))) (Ne.symm (Nat.ne_of_lt (Nat.lt_of_lt_of_le V_b88_154.lt P156_0)))) hZ (tw hw 24 rfl) (tw hw 23 rfl) (by decide) (by decide)) (g := (mkF m 144 #[iv p1, rv b83, rv b86, rv b87, rv b88, iv 3, rv b88, rv b87, rv b86, rv w156, .unset, .unset] [(.ref b88), (.ref b87), (.ref b86), (.int (3 : Int32)), (.int (3 : Int32)), (.ref w156)])) rfl (by rw [hml]; rfl) (argsL := [(.ref w156), (.int (3 : Int32)), (.int (3 : Int32)), (.ref b86), (.ref b87), (.ref b88)]) (rest := []) (lenOf pd_3 rfl) rfl (by show 2 * 0 + _ ≤ _; exact Nat.le_of_eq rfl) (hb hby at_144) (fun _ _ => ⟨rfl, e162, (by decide : 6 + 0 ≤ _), (by decide : 65602 + 0 ≤ _)⟩)
    dsimp only [Pt.U, Pt.locs, Pt.cells, Pt.slots] at X164 l164 y164 z164 st164 hQ164
    subst l164 y164 z164
    obtain ⟨rfl, N164q, e164⟩ := hQ164
    have N164 := Fr.app N162 N164q
    refine Goes.step (T2 := T164) (g2 := (mkF m 147 #[iv p1, rv b83, rv b86, rv b87, rv b88, iv 3, rv b88, rv b87, rv b86, rv w156, .unset, .unset] [(.int (1 : Int32))])) st164 ?_
    refine Goes.step (T2 := T164) (g2 := (mkF m 150 #[iv p1, rv b83, rv b86, rv b87, rv b88, iv 3, rv b88, rv b87, rv b86, rv w156, .unset, .unset] [])) (fun _ hr => XS.ifNo X164.here hx rfl (hb hby at_147) rfl ((if0 _ _).trans (feq (by decide : ¬ ((1 : Int32) = (0 : Int32)))).1) hr) ?_
    refine Goes.step (T2 := T164) (g2 := (mkF m 151 #[iv p1, rv b83, rv b86, rv b87, rv b88, iv 3, rv b88, rv b87, rv b86, rv w156, .unset, .unset] [(.int (1 : Int32))])) (fun _ hr => XS.iconst X164.here hx rfl (hb hby at_150) hr) ?_
    refine Goes.step (T2 := T164) (g2 := (mkF m 155 #[iv p1, rv b83, rv b86, rv b87, rv b88, iv 3, rv b88, rv b87, rv b86, rv w156, .unset, .unset] [(.int (1 : Int32))])) (fun _ hr => XS.goto X164.here hx rfl (pc0 := 151) (pc' := 155) rfl (hb hby at_151) (by decide) (by decide) hr) ?_
    refine Goes.step (T2 := T164) (g2 := (mkF m 157 #[iv p1, rv b83, rv b86, rv b87, rv b88, iv 3, rv b88, rv b87, rv b86, rv w156, iv 1, .unset] [])) (fun _ hr => XS.istore X164.here hx rfl (hb hby at_155) rfl (l' := #[iv p1, rv b83, rv b86, rv b87, rv b88, iv 3, rv b88, rv b87, rv b86, rv w156, iv 1, .unset]) rfl hr) ?_
    refine Goes.step (T2 := T164) (g2 := (mkF m 159 #[iv p1, rv b83, rv b86, rv b87, rv b88, iv 3, rv b88, rv b87, rv b86, rv w156, iv 1, .unset] [(.ref b88)])) (fun _ hr => XS.aload X164.here hx rfl (hb hby at_157) rfl rfl hr) ?_
    refine Goes.step (T2 := T164) (g2 := (mkF m 161 #[iv p1, rv b83, rv b86, rv b87, rv b88, iv 3, rv b88, rv b87, rv b86, rv w156, iv 1, .unset] [(.ref b87), (.ref b88)])) (fun _ hr => XS.aload X164.here hx rfl (hb hby at_159) rfl rfl hr) ?_
    refine Goes.step (T2 := T164) (g2 := (mkF m 164 #[iv p1, rv b83, rv b86, rv b87, rv b88, iv 3, rv b88, rv b87, rv b86, rv w156, iv 1, .unset] [])) (fun _ hr => Jvm.RoadKit.acmp (g := (mkF m 161 #[iv p1, rv b83, rv b86, rv b87, rv b88, iv 3, rv b88, rv b87, rv b86, rv w156, iv 1, .unset] [(.ref b87), (.ref b88)])) X164 hx rfl rfl rfl (pc0 := 161) (pc' := 164) (same := false) rfl (hb hby at_161) rfl (decide_eq_false fun q => (Ne.symm (Nat.ne_of_lt (Nat.lt_of_lt_of_le V_b87_87.lt (Nat.le_of_eq g88.symm)))) (Value.ref.inj q)) (by decide) (by decide) hr) ?_
    refine Goes.step (T2 := T164) (g2 := (mkF m 166 #[iv p1, rv b83, rv b86, rv b87, rv b88, iv 3, rv b88, rv b87, rv b86, rv w156, iv 1, .unset] [(.ref b88)])) (fun _ hr => XS.aload X164.here hx rfl (hb hby at_164) rfl rfl hr) ?_
    refine Goes.step (T2 := T164) (g2 := (mkF m 168 #[iv p1, rv b83, rv b86, rv b87, rv b88, iv 3, rv b88, rv b87, rv b86, rv w156, iv 1, .unset] [(.ref b86), (.ref b88)])) (fun _ hr => XS.aload X164.here hx rfl (hb hby at_166) rfl rfl hr) ?_
    refine Goes.step (T2 := T164) (g2 := (mkF m 171 #[iv p1, rv b83, rv b86, rv b87, rv b88, iv 3, rv b88, rv b87, rv b86, rv w156, iv 1, .unset] [])) (fun _ hr => Jvm.RoadKit.acmp (g := (mkF m 168 #[iv p1, rv b83, rv b86, rv b87, rv b88, iv 3, rv b88, rv b87, rv b86, rv w156, iv 1, .unset] [(.ref b86), (.ref b88)])) X164 hx rfl rfl rfl (pc0 := 168) (pc' := 171) (same := false) rfl (hb hby at_168) rfl (decide_eq_false fun q => (Ne.symm (Nat.ne_of_lt (Nat.lt_of_lt_of_le V_b86_87.lt (Nat.le_of_eq g88.symm)))) (Value.ref.inj q)) (by decide) (by decide) hr) ?_
    refine Goes.step (T2 := T164) (g2 := (mkF m 173 #[iv p1, rv b83, rv b86, rv b87, rv b88, iv 3, rv b88, rv b87, rv b86, rv w156, iv 1, .unset] [(.ref b88)])) (fun _ hr => XS.aload X164.here hx rfl (hb hby at_171) rfl rfl hr) ?_
    refine Goes.step (T2 := T164) (g2 := (mkF m 175 #[iv p1, rv b83, rv b86, rv b87, rv b88, iv 3, rv b88, rv b87, rv b86, rv w156, iv 1, .unset] [(.ref w156), (.ref b88)])) (fun _ hr => XS.aload X164.here hx rfl (hb hby at_173) rfl rfl hr) ?_
    refine Goes.step (T2 := T164) (g2 := (mkF m 178 #[iv p1, rv b83, rv b86, rv b87, rv b88, iv 3, rv b88, rv b87, rv b86, rv w156, iv 1, .unset] [])) (fun _ hr => Jvm.RoadKit.acmp (g := (mkF m 175 #[iv p1, rv b83, rv b86, rv b87, rv b88, iv 3, rv b88, rv b87, rv b86, rv w156, iv 1, .unset] [(.ref w156), (.ref b88)])) X164 hx rfl rfl rfl (pc0 := 175) (pc' := 178) (same := false) rfl (hb hby at_175) rfl (decide_eq_false fun q => (Nat.ne_of_lt (Nat.lt_of_lt_of_le V_b88_154.lt P156_0)) (Value.ref.inj q)) (by decide) (by decide) hr) ?_
    refine Goes.step (T2 := T164) (g2 := (mkF m 180 #[iv p1, rv b83, rv b86, rv b87, rv b88, iv 3, rv b88, rv b87, rv b86, rv w156, iv 1, .unset] [(.ref b87)])) (fun _ hr => XS.aload X164.here hx rfl (hb hby at_178) rfl rfl hr) ?_
    refine Goes.step (T2 := T164) (g2 := (mkF m 182 #[iv p1, rv b83, rv b86, rv b87, rv b88, iv 3, rv b88, rv b87, rv b86, rv w156, iv 1, .unset] [(.ref b86), (.ref b87)])) (fun _ hr => XS.aload X164.here hx rfl (hb hby at_180) rfl rfl hr) ?_
    refine Goes.step (T2 := T164) (g2 := (mkF m 185 #[iv p1, rv b83, rv b86, rv b87, rv b88, iv 3, rv b88, rv b87, rv b86, rv w156, iv 1, .unset] [])) (fun _ hr => Jvm.RoadKit.acmp (g := (mkF m 182 #[iv p1, rv b83, rv b86, rv b87, rv b88, iv 3, rv b88, rv b87, rv b86, rv w156, iv 1, .unset] [(.ref b86), (.ref b87)])) X164 hx rfl rfl rfl (pc0 := 182) (pc' := 185) (same := false) rfl (hb hby at_182) rfl (decide_eq_false fun q => (Ne.symm (Nat.ne_of_lt (Nat.lt_of_lt_of_le V_b86_86.lt (Nat.le_of_eq g87.symm)))) (Value.ref.inj q)) (by decide) (by decide) hr) ?_
    refine Goes.step (T2 := T164) (g2 := (mkF m 187 #[iv p1, rv b83, rv b86, rv b87, rv b88, iv 3, rv b88, rv b87, rv b86, rv w156, iv 1, .unset] [(.ref b87)])) (fun _ hr => XS.aload X164.here hx rfl (hb hby at_185) rfl rfl hr) ?_
    refine Goes.step (T2 := T164) (g2 := (mkF m 189 #[iv p1, rv b83, rv b86, rv b87, rv b88, iv 3, rv b88, rv b87, rv b86, rv w156, iv 1, .unset] [(.ref w156), (.ref b87)])) (fun _ hr => XS.aload X164.here hx rfl (hb hby at_187) rfl rfl hr) ?_
    refine Goes.step (T2 := T164) (g2 := (mkF m 192 #[iv p1, rv b83, rv b86, rv b87, rv b88, iv 3, rv b88, rv b87, rv b86, rv w156, iv 1, .unset] [])) (fun _ hr => Jvm.RoadKit.acmp (g := (mkF m 189 #[iv p1, rv b83, rv b86, rv b87, rv b88, iv 3, rv b88, rv b87, rv b86, rv w156, iv 1, .unset] [(.ref w156), (.ref b87)])) X164 hx rfl rfl rfl (pc0 := 189) (pc' := 192) (same := false) rfl (hb hby at_189) rfl (decide_eq_false fun q => (Nat.ne_of_lt (Nat.lt_of_lt_of_le V_b87_154.lt P156_0)) (Value.ref.inj q)) (by decide) (by decide) hr) ?_
    refine Goes.step (T2 := T164) (g2 := (mkF m 194 #[iv p1, rv b83, rv b86, rv b87, rv b88, iv 3, rv b88, rv b87, rv b86, rv w156, iv 1, .unset] [(.ref b86)])) (fun _ hr => XS.aload X164.here hx rfl (hb hby at_192) rfl rfl hr) ?_
    refine Goes.step (T2 := T164) (g2 := (mkF m 196 #[iv p1, rv b83, rv b86, rv b87, rv b88, iv 3, rv b88, rv b87, rv b86, rv w156, iv 1, .unset] [(.ref w156), (.ref b86)])) (fun _ hr => XS.aload X164.here hx rfl (hb hby at_194) rfl rfl hr) ?_
    refine Goes.step (T2 := T164) (g2 := (mkF m 199 #[iv p1, rv b83, rv b86, rv b87, rv b88, iv 3, rv b88, rv b87, rv b86, rv w156, iv 1, .unset] [])) (fun _ hr => Jvm.RoadKit.acmp (g := (mkF m 196 #[iv p1, rv b83, rv b86, rv b87, rv b88, iv 3, rv b88, rv b87, rv b86, rv w156, iv 1, .unset] [(.ref w156), (.ref b86)])) X164 hx rfl rfl rfl (pc0 := 196) (pc' := 199) (same := false) rfl (hb hby at_196) rfl (decide_eq_false fun q => (Nat.ne_of_lt (Nat.lt_of_lt_of_le V_b86_154.lt P156_0)) (Value.ref.inj q)) (by decide) (by decide) hr) ?_
    refine Goes.step (T2 := T164) (g2 := (mkF m 200 #[iv p1, rv b83, rv b86, rv b87, rv b88, iv 3, rv b88, rv b87, rv b86, rv w156, iv 1, .unset] [(.int (1 : Int32))])) (fun _ hr => XS.iconst X164.here hx rfl (hb hby at_199) hr) ?_
    refine Goes.step (T2 := T164) (g2 := (mkF m 204 #[iv p1, rv b83, rv b86, rv b87, rv b88, iv 3, rv b88, rv b87, rv b86, rv w156, iv 1, .unset] [(.int (1 : Int32))])) (fun _ hr => XS.goto X164.here hx rfl (pc0 := 200) (pc' := 204) rfl (hb hby at_200) (by decide) (by decide) hr) ?_
    refine Goes.step (T2 := T164) (g2 := (mkF m 206 #[iv p1, rv b83, rv b86, rv b87, rv b88, iv 3, rv b88, rv b87, rv b86, rv w156, iv 1, iv 1] [])) (fun _ hr => XS.istore X164.here hx rfl (hb hby at_204) rfl (l' := #[iv p1, rv b83, rv b86, rv b87, rv b88, iv 3, rv b88, rv b87, rv b86, rv w156, iv 1, iv 1]) rfl hr) ?_
    refine Goes.step (T2 := T164) (g2 := (mkF m 208 #[iv p1, rv b83, rv b86, rv b87, rv b88, iv 3, rv b88, rv b87, rv b86, rv w156, iv 1, iv 1] [(.int (1 : Int32))])) (fun _ hr => XS.iload X164.here hx rfl (hb hby at_206) rfl  hr) ?_
    refine Goes.step (T2 := T164) (g2 := (mkF m 211 #[iv p1, rv b83, rv b86, rv b87, rv b88, iv 3, rv b88, rv b87, rv b86, rv w156, iv 1, iv 1] [])) (fun _ hr => XS.ifNo X164.here hx rfl (hb hby at_208) rfl ((if0 _ _).trans (feq (by decide : ¬ ((1 : Int32) = (0 : Int32)))).1) hr) ?_
    refine Goes.step (T2 := T164) (g2 := (mkF m 213 #[iv p1, rv b83, rv b86, rv b87, rv b88, iv 3, rv b88, rv b87, rv b86, rv w156, iv 1, iv 1] [(.int (1 : Int32))])) (fun _ hr => XS.iload X164.here hx rfl (hb hby at_211) rfl  hr) ?_
    refine Goes.step (T2 := T164) (g2 := (mkF m 216 #[iv p1, rv b83, rv b86, rv b87, rv b88, iv 3, rv b88, rv b87, rv b86, rv w156, iv 1, iv 1] [])) (fun _ hr => XS.ifNo X164.here hx rfl (hb hby at_213) rfl ((if0 _ _).trans (feq (by decide : ¬ ((1 : Int32) = (0 : Int32)))).1) hr) ?_
    refine Goes.step (T2 := T164) (g2 := (mkF m 217 #[iv p1, rv b83, rv b86, rv b87, rv b88, iv 3, rv b88, rv b87, rv b86, rv w156, iv 1, iv 1] [(.int (1 : Int32))])) (fun _ hr => XS.iconst X164.here hx rfl (hb hby at_216) hr) ?_
    refine Goes.step (T2 := T164) (g2 := (mkF m 221 #[iv p1, rv b83, rv b86, rv b87, rv b88, iv 3, rv b88, rv b87, rv b86, rv w156, iv 1, iv 1] [(.int (1 : Int32))])) (fun _ hr => XS.goto X164.here hx rfl (pc0 := 217) (pc' := 221) rfl (hb hby at_217) (by decide) (by decide) hr) ?_
    exact Goes.ret (v := some (.int (1 : Int32))) X164 (by decide) (by decide) (fun h => by rw [Bd.returns] at h; cases h) ⟨rfl, N164⟩ (fun fs hr => retN X164 hx (t := .boolean) Bd.returns (by simp) (hb hby at_221) hr)
set_option maxRecDepth 65536 in
set_option maxHeartbeats 40000000 in
theorem comes_1 {Post : Tables → Env → Array Value → State → Outcome → State → Prop} (hpost : ∀ tb e args s v u, (limb_1_1.after args s (.returned v) u = true ∧ limb_1_2.after args s (.returned v) u = true ∧ True) → FrameEnd s (.returned v) u (Jvm.fieldLocs frame_1_writes args s ++ Jvm.arrayLocs frame_1_arrays args s ++ Jvm.staticLocs frame_1_statics s) 32 137728 → Post tb e args s (.returned v) u) :
    ArmFor flags0 classFile x code maxLocals ret World_1 tables_1 room_1 Calls_1 rest_1 Pre_1 Post := by
  intro l hfl _ _ p e ha hc hk s m args below hf hA hF happ hP
  obtain ⟨hcalls, hrest, hpre⟩ := hP
  obtain ⟨-, -, -, hnamed, -, -, -, hat⟩ := (Spec.applies_iff hf).mp happ
  obtain ⟨hg, hn⟩ := and_e (Cond.before_iff.mp (show (Jvm.Cond.and given_1 narrow_1).before args s = true from hpre))
  obtain ⟨g1, g2⟩ := and_e hg
  obtain ⟨w0, rfl⟩ : ∃ w0 : Value, args = #[w0] := by
    have hs : args.size = 1 := by simpa [Cond.value, given_1] using g1
    obtain ⟨L⟩ := args
    match L, hs with
    | [w0], _ => exact ⟨w0, rfl⟩
  have hw := fun d (hd : d ∈ tables_1) => atoms_spec (ws := Jvm.Cond.code x code maxLocals ret :: tables_1) hat d (List.mem_cons_of_mem _ hd)
  have hfit : Fit s := fun {y c} hc i hi => by
    obtain ⟨ha, rfl⟩ := Array.getElem?_eq_some_iff.mp hc
    have q := List.all_eq_true.mp ((Array.all_eq_true_iff_forall_mem.mp hF) _ (Array.getElem_mem ha)) i (List.mem_range.mpr hi)
    simpa [Array.getElem?_eq_getElem hi] using q
  obtain ⟨i0, ei0⟩ := is_v g2
  obtain rfl : w0 = (.int i0) := Option.some.inj ei0
  obtain ⟨n, o, h1, h2, h3, _, L, rfl, ⟨rfl, N⟩, hq⟩ := rm_law l s _ hw tables_1 i0 s.heap s.heap.size (Nat.le_refl _) (Old.start s) p e ha hc hk s m _ below hf ((Spec.applies_iff_loose hf).mp happ).1 ⟨rfl, State.Warmed39.refl s, rfl⟩ trivial
  refine ⟨n, _, h1, h2, h3, hpost _ _ _ _ _ _ ⟨Cond.after_iff.mpr rfl, Cond.after_iff.mpr (eq_i res_at (Term.int_eval (1)) rfl), trivial⟩ ⟨hq.1, hq.2.1, (hq.2.2.sift fun y hy => Or.inr (N y hy)).mono (by decide) (by decide)⟩⟩
theorem main_1_1 : Claimed_1_1 := comes_1 fun _ _ _ _ _ _ h hF => ⟨h.1, hF⟩
theorem main_1_2 : Claimed_1_2 := comes_1 fun _ _ _ _ _ _ h hF => ⟨h.2.1, hF⟩
end Jvm.Pilot.@@N@@
namespace Jvm.Pilot.@@N@@
open Jvm Jvm.ClassFile Sem Op Lib Jvm.Free Jvm.Stand Jvm.Pilot.@@N@@.Jvm.D
/-! MADE BY PROGRAM (witnessworld.py) out of the Statement's table words and the real class files: 9 classes; the members and pool entries that the words name. The judged class is class 1, her method 1. -/
namespace start1
open Jvm.ClassFile
def u (s : String) : CpInfo := .utf8 (stringToUtf16 s)
/-- a pool by its gaps: so many unusable entries, then the entry; so many at the end -/
def gap : Nat → List CpInfo → List CpInfo
  | 0, r => r
  | n + 1, r => .unusable :: gap n r
def poolList (es : List (Nat × CpInfo)) (last : Nat) : List CpInfo := es.foldr (fun e r => gap e.1 (e.2 :: r)) (gap last [])
def pool (es : List (Nat × CpInfo)) (last : Nat) : Array CpInfo := ⟨poolList es last⟩
def fileOf (pool : Array CpInfo) (this : Nat) (attrs : Array Attribute := #[]) (ms : Array MethodInfo := #[]) (fl : Nat := 33) (sup : Nat := 0) (ifs : Array Nat := #[]) (fds : Array FieldInfo := #[]) : ClassFile where
  minorVersion := 0
  majorVersion := 65
  constantPool := pool
  accessFlags := fl
  thisClass := this
  superClass := sup
  interfaces := ifs
  fields := fds
  methods := ms
  attributes := attrs
def plain (name : String) (sup : Option ClassId) : Class where
  name := name
  kind := .ordinary
  loader := none
  accessFlags := 33
  super := sup
  interfaces := #[]
  cf := none
  fields := #[]
  methods := #[]
  instanceTypes := #[]
  staticTypes := #[]
  resolved := #[]
  callSites := []
  init := .initialized
  statics := none
  mirror := none

def pool0 : Array CpInfo := pool [(5, u "<init>"), (0, u "()V"), (1, .class_ 10), (1, u "java/lang/Object")] 113

def k0c0 : Code := { maxStack := 0, maxLocals := 1, code := object_method_1_code, exceptionTable := #[], attributes := #[] }
def k0m0 : Method := { name := "<init>", desc := "()V", sig := { parameters := [], returnType := none }, accessFlags := 1, code := some k0c0 }
/-- java/lang/Object -/
def k0 : Class := { plain "java/lang/Object" none with
  accessFlags := 33
  interfaces := #[]
  cf := some (fileOf pool0 8 #[] #[{ accessFlags := 1, nameIndex := 5, descriptorIndex := 6, attributes := #[] }] 33 0 #[] #[])
  fields := #[]
  methods := #[k0m0]
  instanceTypes := #[]
  staticTypes := #[]
  resolved := Array.replicate 124 none
  statics := none }

def pool1 : Array CpInfo := pool [(2, .class_ 4), (0, .nameAndType 5 6), (0, u "java/lang/Object"), (0, u "<init>"), (0, u "()V"), (0, .class_ 8), (0, u "com/example/api_policy_gateway/apipolicygateway/net/BufferPool"), (0, .methodref 7 3), (0, .methodref 7 11), (0, .nameAndType 12 13), (0, u "give"), (0, u "([B)V"), (0, .methodref 7 15), (0, .nameAndType 16 17), (0, u "take"), (0, u "()[B"), (0, .methodref 19 20), (0, .class_ 21), (0, .nameAndType 22 23), (0, u "com/example/api_policy_gateway/apipolicygateway/net/BufferPoolGivePinLaw"), (0, u "expect"), (0, u "([BII[B[B[B)Z"), (0, .methodref 19 25), (0, .nameAndType 26 27), (0, u "pick"), (0, u "(I[B[B[B)[B"), (2, u "law"), (0, u "(I)Z")] 5

def k1m0 : Method := { name := "<init>", desc := "()V", sig := { parameters := [], returnType := none }, accessFlags := 1, code := none }
def k1c1 : Code := { maxStack := 6, maxLocals := 12, code := code, exceptionTable := #[], attributes := #[] }
def k1m1 : Method := { name := "law", desc := "(I)Z", sig := { parameters := [.int], returnType := some .boolean }, accessFlags := 9, code := some k1c1 }
def k1c2 : Code := { maxStack := 2, maxLocals := 4, code := method_3_code, exceptionTable := #[], attributes := #[] }
def k1m2 : Method := { name := "pick", desc := "(I[B[B[B)[B", sig := { parameters := [.int, (.array .byte), (.array .byte), (.array .byte)], returnType := some (.array .byte) }, accessFlags := 10, code := some k1c2 }
def k1c3 : Code := { maxStack := 5, maxLocals := 6, code := method_4_code, exceptionTable := #[], attributes := #[] }
def k1m3 : Method := { name := "expect", desc := "([BII[B[B[B)Z", sig := { parameters := [(.array .byte), .int, .int, (.array .byte), (.array .byte), (.array .byte)], returnType := some .boolean }, accessFlags := 10, code := some k1c3 }
/-- com/example/api_policy_gateway/apipolicygateway/net/BufferPoolGivePinLaw -/
def k1 : Class := { plain "com/example/api_policy_gateway/apipolicygateway/net/BufferPoolGivePinLaw" (some 0) with
  accessFlags := 49
  interfaces := #[]
  cf := some (fileOf pool1 19 #[] #[{ accessFlags := 1, nameIndex := 5, descriptorIndex := 6, attributes := #[] }, { accessFlags := 9, nameIndex := 30, descriptorIndex := 31, attributes := #[] }, { accessFlags := 10, nameIndex := 26, descriptorIndex := 27, attributes := #[] }, { accessFlags := 10, nameIndex := 22, descriptorIndex := 23, attributes := #[] }] 49 2 #[] #[])
  fields := #[]
  methods := #[k1m0, k1m1, k1m2, k1m3]
  instanceTypes := #[]
  staticTypes := #[]
  resolved := Array.replicate 37 none
  statics := none }

def pool2 : Array CpInfo := pool [(1, .methodref 2 3), (0, .class_ 4), (0, .nameAndType 5 6), (0, u "java/lang/Object"), (0, u "<init>"), (0, u "()V"), (0, .class_ 8), (0, u "com/example/api_policy_gateway/apipolicygateway/net/BufferPool"), (0, .class_ 10), (0, u "[B"), (0, .fieldref 7 12), (0, .nameAndType 13 14), (0, u "spare"), (0, u "[[B"), (0, .fieldref 7 16), (0, .nameAndType 17 18), (0, u "spareCount"), (0, u "I"), (9, u "SIZE"), (2, u "MAX_SPARE"), (3, u "take"), (0, u "()[B"), (1, u "give"), (0, u "([B)V")] 17

def k2c0 : Code := { maxStack := 2, maxLocals := 1, code := prog_16_method_1_code, exceptionTable := #[], attributes := #[] }
def k2m0 : Method := { name := "<init>", desc := "()V", sig := { parameters := [], returnType := none }, accessFlags := 1, code := some k2c0 }
def k2c1 : Code := { maxStack := 3, maxLocals := 2, code := prog_16_method_2_code, exceptionTable := #[], attributes := #[] }
def k2m1 : Method := { name := "take", desc := "()[B", sig := { parameters := [], returnType := some (.array .byte) }, accessFlags := 1, code := some k2c1 }
def k2c2 : Code := { maxStack := 3, maxLocals := 2, code := prog_16_method_3_code, exceptionTable := #[], attributes := #[] }
def k2m2 : Method := { name := "give", desc := "([B)V", sig := { parameters := [(.array .byte)], returnType := none }, accessFlags := 1, code := some k2c2 }
/-- com/example/api_policy_gateway/apipolicygateway/net/BufferPool -/
def k2 : Class := { plain "com/example/api_policy_gateway/apipolicygateway/net/BufferPool" (some 0) with
  accessFlags := 49
  interfaces := #[]
  cf := some (fileOf pool2 7 #[] #[{ accessFlags := 1, nameIndex := 5, descriptorIndex := 6, attributes := #[] }, { accessFlags := 1, nameIndex := 35, descriptorIndex := 36, attributes := #[] }, { accessFlags := 1, nameIndex := 38, descriptorIndex := 39, attributes := #[] }] 49 2 #[] #[{ accessFlags := 25, nameIndex := 28, descriptorIndex := 18, attributes := #[] }, { accessFlags := 26, nameIndex := 31, descriptorIndex := 18, attributes := #[] }, { accessFlags := 18, nameIndex := 13, descriptorIndex := 14, attributes := #[] }, { accessFlags := 2, nameIndex := 17, descriptorIndex := 18, attributes := #[] }])
  fields := #[{ name := "SIZE", type := .int, accessFlags := 25, slot := 0, constantValue := 0 }, { name := "MAX_SPARE", type := .int, accessFlags := 26, slot := 1, constantValue := 0 }, { name := "spare", type := (.array (.array .byte)), accessFlags := 18, slot := 0, constantValue := 0 }, { name := "spareCount", type := .int, accessFlags := 2, slot := 1, constantValue := 0 }]
  methods := #[k2m0, k2m1, k2m2]
  instanceTypes := #[(.array (.array .byte)), .int]
  staticTypes := #[.int, .int]
  resolved := Array.replicate 57 none
  statics := none }

def pool3 : Array CpInfo := pool [(1, u "java/lang/Cloneable"), (0, .class_ 1), (0, u "java/lang/Object"), (0, .class_ 3)] 3

/-- java/lang/Cloneable -/
def k3 : Class := { plain "java/lang/Cloneable" (some 0) with
  accessFlags := 1537
  interfaces := #[]
  cf := some (fileOf pool3 2 #[] #[] 1537 4 #[] #[])
  fields := #[]
  methods := #[]
  instanceTypes := #[]
  staticTypes := #[]
  resolved := Array.replicate 8 none
  statics := none }

def pool4 : Array CpInfo := pool [(1, u "java/io/Serializable"), (0, .class_ 1), (0, u "java/lang/Object"), (0, .class_ 3)] 3

/-- java/io/Serializable -/
def k4 : Class := { plain "java/io/Serializable" (some 0) with
  accessFlags := 1537
  interfaces := #[]
  cf := some (fileOf pool4 2 #[] #[] 1537 4 #[] #[])
  fields := #[]
  methods := #[]
  instanceTypes := #[]
  staticTypes := #[]
  resolved := Array.replicate 8 none
  statics := none }

/-- the primitive byte -/
def k5 : Class := { plain "byte" none with kind := .primitive 'B', accessFlags := 0x411 }
/-- [B -/
def k6 : Class := { plain "[B" (some 0) with kind := .array 5 .byte, interfaces := #[3, 4], accessFlags := 1041 }

/-- the primitive int -/
def k7 : Class := { plain "int" none with kind := .primitive 'I', accessFlags := 0x411 }
/-- [I -/
def k8 : Class := { plain "[I" (some 0) with kind := .array 7 .int, interfaces := #[3, 4], accessFlags := 1041 }

def heap : Heap := #[]
/-- [[B -/
def k9 : Class := { plain "[[B" (some 0) with kind := .array 6 (.array .byte), interfaces := #[3, 4], accessFlags := 1041 }
def classes : Array Class := #[k0, k1, k2, k3, k4, k5, k6, k7, k8, k9]
def interned : List (Array UInt16 × Addr) := []
def slotsUsed : Nat := 0
def theMethod : MethodId := ⟨1, 1⟩
def args0 : Array Value := #[.int 5]
def aboutOver (below : List Frame) : State where
  vm := { classes := classes, interned := interned.toArray }
  heap := heap
  slotsUsed := slotsUsed
  threads := #[{ frames := .invoking theMethod args0 :: below }]
def below0 : List Frame := [.native { method := ⟨0, 0⟩, args := #[] }]
def about1 : State := aboutOver below0
def p0 : Program := .bare "" "" ""
def e0 : Env := launch0.env 0 0 0
theorem w_frames : about1.frames = Frame.invoking theMethod args0 :: below0 := rfl
set_option maxRecDepth 65536 in
theorem w_args : argsFit about1.vm theMethod args0 = true := by decide +kernel
set_option maxRecDepth 65536 in
theorem w_heap : heapFits about1 = true := by decide +kernel
set_option maxRecDepth 65536 in
theorem w_runnable : about1.curStatus? = some .runnable := by decide +kernel
set_option maxRecDepth 65536 in
theorem w_alone : about1.alone = true := by decide +kernel
set_option maxRecDepth 65536 in
theorem w_named : about1.methodNamed? x = some theMethod := by decide +kernel
set_option maxRecDepth 65536 in
theorem w_hears : about1.hears theMethod below0 = true := by decide +kernel
set_option maxRecDepth 65536 in
theorem w_ripe : about1.ripe theMethod args0 below0 = true := by decide +kernel
theorem w_running : about1.status = .running := rfl
set_option maxRecDepth 65536 in
theorem w_room : about1.hasRoom e0.platform room_1 = true :=
  launch0.hasRoom_least _ room_1 (by decide +kernel) (by decide +kernel) (by decide +kernel) (by decide +kernel) (by decide +kernel) (by decide +kernel)
theorem allAtoms_all (ts : List Jvm.Cond) (a : Array Jvm.Value) (st : Jvm.State) : (allAtoms ts).before a st = ts.all (fun c => c.before a st) := by
  induction ts with
  | nil => rfl
  | cons c t ih =>
    show (Jvm.Cond.and c (allAtoms t)).before a st = _
    rw [Jvm.Cond.before_and, ih, List.all_cons]
def words1 : List Jvm.Cond := Jvm.Cond.code x code maxLocals ret :: tables_1
/-- a 'code' word, met by the world's own term for the bytes: nothing is compared byte by byte -/
theorem code_word {y : MethodName} {bytes : ByteArray} {mx : Nat} {rt : Option FieldType} {a : Array Value} {s : State} {m : MethodId} {meth : Method} {c : Code} (h1 : s.methodNamed? y = some m) (h2 : s.vm.method? m = some meth) (h3 : meth.code = some c) (h4 : c.code = bytes)
    (h5 : (c.maxLocals == mx && c.exceptionTable.isEmpty && decide (c.maxStack ≤ mostOperands) && decide (meth.sig.returnType = rt) && !meth.locks && decide (parseMethodDescriptor y.desc = some meth.sig)) = true) : (Jvm.Cond.code y bytes mx rt).before a s = true := by
  simp only [Bool.and_eq_true, beq_iff_eq, Bool.not_eq_true', decide_eq_true_eq] at h5
  obtain ⟨⟨⟨⟨⟨g1, g2⟩, g3⟩, g4⟩, g5⟩, g6⟩ := h5
  simp [Cond.before, Cond.holds, Cond.value, h1, h2, h3, h4, g1, g2, g3, g4, g5, g6]
def isCode : Jvm.Cond → Bool
  | .code _ _ _ _ => true
  | _ => false
theorem all_split {L : List Jvm.Cond} {P : Jvm.Cond → Bool} (h1 : L.all (fun c => isCode c || P c) = true) (h2 : ∀ c ∈ L.filter isCode, P c = true) : L.all P = true := by
  refine List.all_eq_true.mpr fun c hc => ?_
  have h := List.all_eq_true.mp h1 c hc
  rcases Bool.eq_false_or_eq_true (isCode c) with hi | hi
  · exact h2 c (List.mem_filter.mpr ⟨hc, hi⟩)
  · simpa [hi] using h
set_option maxRecDepth 65536 in
theorem w_c0 : (Jvm.Cond.code x code maxLocals ret).before args0 about1 = true := code_word (m := ⟨1, 1⟩) (meth := k1m1) (c := k1c1) (by decide +kernel) rfl rfl rfl (by decide +kernel)
set_option maxRecDepth 65536 in
theorem w_c1 : (Jvm.Cond.code ({ cls := "com/example/api_policy_gateway/apipolicygateway/net/BufferPool", name := "<init>", desc := "()V" } : Jvm.MethodName) prog_16_method_1_code (1 : Nat) (Option.none : Option Jvm.ClassFile.FieldType)).before args0 about1 = true := code_word (m := ⟨2, 0⟩) (meth := k2m0) (c := k2c0) (by decide +kernel) rfl rfl rfl (by decide +kernel)
set_option maxRecDepth 65536 in
theorem w_c2 : (Jvm.Cond.code ({ cls := "java/lang/Object", name := "<init>", desc := "()V" } : Jvm.MethodName) object_method_1_code (1 : Nat) (Option.none : Option Jvm.ClassFile.FieldType)).before args0 about1 = true := code_word (m := ⟨0, 0⟩) (meth := k0m0) (c := k0c0) (by decide +kernel) rfl rfl rfl (by decide +kernel)
set_option maxRecDepth 65536 in
theorem w_c3 : (Jvm.Cond.code ({ cls := "com/example/api_policy_gateway/apipolicygateway/net/BufferPool", name := "take", desc := "()[B" } : Jvm.MethodName) prog_16_method_2_code (2 : Nat) (Option.some (Jvm.ClassFile.FieldType.array Jvm.ClassFile.FieldType.byte))).before args0 about1 = true := code_word (m := ⟨2, 1⟩) (meth := k2m1) (c := k2c1) (by decide +kernel) rfl rfl rfl (by decide +kernel)
set_option maxRecDepth 65536 in
theorem w_c4 : (Jvm.Cond.code ({ cls := "com/example/api_policy_gateway/apipolicygateway/net/BufferPoolGivePinLaw", name := "expect", desc := "([BII[B[B[B)Z" } : Jvm.MethodName) method_4_code (6 : Nat) (Option.some Jvm.ClassFile.FieldType.boolean)).before args0 about1 = true := code_word (m := ⟨1, 3⟩) (meth := k1m3) (c := k1c3) (by decide +kernel) rfl rfl rfl (by decide +kernel)
set_option maxRecDepth 65536 in
theorem w_c5 : (Jvm.Cond.code ({ cls := "com/example/api_policy_gateway/apipolicygateway/net/BufferPool", name := "give", desc := "([B)V" } : Jvm.MethodName) prog_16_method_3_code (2 : Nat) (Option.none : Option Jvm.ClassFile.FieldType)).before args0 about1 = true := code_word (m := ⟨2, 2⟩) (meth := k2m2) (c := k2c2) (by decide +kernel) rfl rfl rfl (by decide +kernel)
set_option maxRecDepth 65536 in
theorem w_c6 : (Jvm.Cond.code ({ cls := "com/example/api_policy_gateway/apipolicygateway/net/BufferPoolGivePinLaw", name := "pick", desc := "(I[B[B[B)[B" } : Jvm.MethodName) method_3_code (4 : Nat) (Option.some (Jvm.ClassFile.FieldType.array Jvm.ClassFile.FieldType.byte))).before args0 about1 = true := code_word (m := ⟨1, 2⟩) (meth := k1m2) (c := k1c2) (by decide +kernel) rfl rfl rfl (by decide +kernel)
def codes1 : List Jvm.Cond := [Jvm.Cond.code x code maxLocals ret, Jvm.Cond.code ({ cls := "com/example/api_policy_gateway/apipolicygateway/net/BufferPool", name := "<init>", desc := "()V" } : Jvm.MethodName) prog_16_method_1_code (1 : Nat) (Option.none : Option Jvm.ClassFile.FieldType), Jvm.Cond.code ({ cls := "java/lang/Object", name := "<init>", desc := "()V" } : Jvm.MethodName) object_method_1_code (1 : Nat) (Option.none : Option Jvm.ClassFile.FieldType), Jvm.Cond.code ({ cls := "com/example/api_policy_gateway/apipolicygateway/net/BufferPool", name := "take", desc := "()[B" } : Jvm.MethodName) prog_16_method_2_code (2 : Nat) (Option.some (Jvm.ClassFile.FieldType.array Jvm.ClassFile.FieldType.byte)), Jvm.Cond.code ({ cls := "com/example/api_policy_gateway/apipolicygateway/net/BufferPoolGivePinLaw", name := "expect", desc := "([BII[B[B[B)Z" } : Jvm.MethodName) method_4_code (6 : Nat) (Option.some Jvm.ClassFile.FieldType.boolean), Jvm.Cond.code ({ cls := "com/example/api_policy_gateway/apipolicygateway/net/BufferPool", name := "give", desc := "([B)V" } : Jvm.MethodName) prog_16_method_3_code (2 : Nat) (Option.none : Option Jvm.ClassFile.FieldType), Jvm.Cond.code ({ cls := "com/example/api_policy_gateway/apipolicygateway/net/BufferPoolGivePinLaw", name := "pick", desc := "(I[B[B[B)[B" } : Jvm.MethodName) method_3_code (4 : Nat) (Option.some (Jvm.ClassFile.FieldType.array Jvm.ClassFile.FieldType.byte))]
set_option maxRecDepth 65536 in
theorem codes_eq : words1.filter isCode = codes1 := rfl
theorem w_codes : ∀ c ∈ words1.filter isCode, c.before args0 about1 = true := by
  rw [codes_eq]
  intro c hc
  simp only [codes1, List.mem_cons, List.not_mem_nil, or_false] at hc
  rcases hc with rfl | rfl | rfl | rfl | rfl | rfl | rfl
  · exact w_c0
  · exact w_c1
  · exact w_c2
  · exact w_c3
  · exact w_c4
  · exact w_c5
  · exact w_c6
set_option maxRecDepth 65536 in
theorem w_t1 : (words1.take 24).all (fun c => isCode c || c.before args0 about1) = true := by decide +kernel
set_option maxRecDepth 65536 in
theorem w_t2 : (words1.drop 24).all (fun c => isCode c || c.before args0 about1) = true := by decide +kernel
theorem w_tables : (allAtoms (Jvm.Cond.code x code maxLocals ret :: tables_1)).before args0 about1 = true := by
  rw [allAtoms_all]
  show words1.all (fun c => c.before args0 about1) = true
  refine all_split ?_ w_codes
  rw [← List.take_append_drop 24 words1, List.all_append, w_t1, w_t2]
  rfl
set_option maxRecDepth 65536 in
theorem w_case : (Jvm.Cond.and given_1 narrow_1).before args0 about1 = true := by decide +kernel
theorem w_applies : (headSpec (Jvm.Cond.code x code maxLocals ret :: tables_1) room_1).applies x e0.platform about1 = true :=
  (Spec.applies_iff w_frames).mpr ⟨w_running, w_runnable, w_alone, w_named, w_hears, w_ripe, w_room, w_tables⟩
theorem atStart : AtStart classFile x code maxLocals ret World_1 tables_1 room_1 Calls_1 rest_1 Pre_1 launch0 p0 e0 about1 theMethod args0 below0 :=
  ⟨lists_1, trivial, launch0.admits_env _ _ _, launch0.least_env, fairChoices_fair.cas, fairChoices_fair.clock, w_frames, w_args, w_heap, w_applies, trivial, trivial, w_case⟩
end start1
theorem witness_1 : WitnessClaimed_1 := ⟨start1.p0, start1.e0, start1.about1, start1.theMethod, start1.args0, start1.below0, start1.atStart⟩
end Jvm.Pilot.@@N@@
