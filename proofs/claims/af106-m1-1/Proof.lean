import JvmDerived
import JvmDerived.Pilot.@@N@@Statement
import JvmDerived.Pilot.@@N@@Code
set_option linter.unusedVariables false
set_option linter.unusedSimpArgs false
@@BLOCK:NumsL.lean.txt@@
namespace Jvm.Pilot.@@N@@
open Jvm Jvm.ClassFile Sem Op Lib Jvm.Free Jvm.Stand Jvm.LawKit Jvm.RoadKit Bundle Jvm.Pilot.@@N@@.Jvm.D
/-- from the state T with the frame g on top the method comes to its end, and Q holds there -/
def Goes (p : Program) (l : Launch) (e : Env) (R : Room) (s : State) (m : MethodId) (args : Array Value) (below : List Frame) (meth : Method) (c : Code) (Q : Option Value → Heap → List Loc → Prop) (T : State) (g : JFrame) : Prop :=
  ∃ (T' : State) (v : Option Value) (L : List Loc) (k n : Nat), Stand p l e R s m args below meth c T' L k n ∧ k ≤ R.cells ∧ n ≤ R.slots ∧ (meth.sig.returnType = none → v = none) ∧ Q v T'.heap L ∧
    ∀ fs, (∀ (f : JFrame) (acts : List Action), f.method = m → f.locked = none → f.entered = [] → (doReturn e (T'.setTop f) acts v).1 = T'.setFrames fs) → Steps p.tables e below (T.setTop g) (T'.setFrames fs)
section OwnGoes
variable {p : Program} {l : Launch} {e : Env} {R : Room} {s : State} {m : MethodId} {args : Array Value} {below : List Frame} {meth : Method} {c : Code} {Q : Option Value → Heap → List Loc → Prop} {T T2 : State} {g g2 : JFrame} {L : List Loc} {k n : Nat}
theorem Goes.step (st : ∀ target, Steps p.tables e below (T2.setTop g2) target → Steps p.tables e below (T.setTop g) target) (F : Goes p l e R s m args below meth c Q T2 g2) : Goes p l e R s m args below meth c Q T g := by
  obtain ⟨T', v, L, k, n, X, hk, hn, hv, hq, hs⟩ := F
  exact ⟨T', v, L, k, n, X, hk, hn, hv, hq, fun fs h => st _ (hs fs h)⟩
theorem Goes.cast (q : g = g2) (F : Goes p l e R s m args below meth c Q T g2) : Goes p l e R s m args below meth c Q T g := q ▸ F
theorem Goes.out {maxL : Nat} {s₁ : State} (hl : meth.locks = false) (F : Goes p l e R s m args below meth c Q s₁ (entryFrame m args maxL)) :
    ∃ s₂ o, Steps p.tables e below (s₁.setTop (entryFrame m args maxL)) s₂ ∧ s₂.status = .running ∧ Ended s₂ below o ∧ ∃ v L, o = .returned v ∧ Q v s₂.heap L ∧ FrameEnd s o s₂ L R.cells R.slots := by
  obtain ⟨T', v, L, k, n, X, hk, hn, hv, hq, hs⟩ := F
  obtain ⟨fs, hr, hrun, hended, hW, hsame⟩ := X.leave (v := v) hv hl
  exact ⟨_, _, hs fs hr, hrun, hended, v, L, rfl, hq, ⟨_, rfl⟩, hW, hsame.mono hk hn⟩
theorem Goes.ret {v : Option Value} (X : Stand p l e R s m args below meth c T L k n) (hk : k ≤ R.cells) (hn : n ≤ R.slots) (hv : meth.sig.returnType = none → v = none) (hq : Q v T.heap L)
    (hs : ∀ fs, (∀ (f : JFrame) (acts : List Action), f.method = m → f.locked = none → f.entered = [] → (doReturn e (T.setTop f) acts v).1 = T.setFrames fs) → Steps p.tables e below (T.setTop g) (T.setFrames fs)) : Goes p l e R s m args below meth c Q T g :=
  ⟨T, v, L, k, n, X, hk, hn, hv, hq, hs⟩
/-- the same where String constants may have been interned on the road -/
def GoesW (p : Program) (l : Launch) (e : Env) (R : Room) (s : State) (m : MethodId) (args : Array Value) (below : List Frame) (meth : Method) (c : Code) (Q : Option Value → Heap → List Loc → Prop) (T : State) (g : JFrame) : Prop :=
  ∃ (T' : State) (v : Option Value) (L : List Loc) (k n : Nat) (vm : Vm) (j : Nat), Stand p l e R (s.setVm vm) m args below meth c T' L k n ∧ s.Since vm j ∧ j ≤ T'.heap.size ∧ k ≤ R.cells ∧ n ≤ R.slots ∧ (meth.sig.returnType = none → v = none) ∧ Q v T'.heap L ∧
    ∀ fs, (∀ (f : JFrame) (acts : List Action), f.method = m → f.locked = none → f.entered = [] → (doReturn e (T'.setTop f) acts v).1 = T'.setFrames fs) → Steps p.tables e below (T.setTop g) (T'.setFrames fs)
theorem GoesW.step (st : ∀ target, Steps p.tables e below (T2.setTop g2) target → Steps p.tables e below (T.setTop g) target) (F : GoesW p l e R s m args below meth c Q T2 g2) : GoesW p l e R s m args below meth c Q T g := by
  obtain ⟨T', v, L, k, n, vm, j, X, hS, hj, hk, hn, hv, hq, hs⟩ := F
  exact ⟨T', v, L, k, n, vm, j, X, hS, hj, hk, hn, hv, hq, fun fs h => st _ (hs fs h)⟩
theorem GoesW.cast (q : g = g2) (F : GoesW p l e R s m args below meth c Q T g2) : GoesW p l e R s m args below meth c Q T g := q ▸ F
theorem GoesW.out {maxL : Nat} {s₁ : State} (hl : meth.locks = false) (F : GoesW p l e R s m args below meth c Q s₁ (entryFrame m args maxL)) :
    ∃ s₂ o, Steps p.tables e below (s₁.setTop (entryFrame m args maxL)) s₂ ∧ s₂.status = .running ∧ Ended s₂ below o ∧ ∃ v L, o = .returned v ∧ Q v s₂.heap L ∧ ReturnedEndW s o s₂ L R.cells R.slots := by
  obtain ⟨T', v, L, k, n, vm, j, X, hS, hj, hk, hn, hv, hq, hs⟩ := F
  obtain ⟨fs, hr, hrun, hended, h1, h2, h3, hsame⟩ := X.leaveW (v := v) hS hj hv hl
  exact ⟨_, _, hs fs hr, hrun, hended, v, L, rfl, hq, h1, h2, h3, hsame.mono hk hn⟩
theorem GoesW.ret {v : Option Value} {vm : Vm} {j : Nat} (X : Stand p l e R (s.setVm vm) m args below meth c T L k n) (hS : s.Since vm j) (hj : j ≤ T.heap.size) (hk : k ≤ R.cells) (hn : n ≤ R.slots) (hv : meth.sig.returnType = none → v = none) (hq : Q v T.heap L)
    (hs : ∀ fs, (∀ (f : JFrame) (acts : List Action), f.method = m → f.locked = none → f.entered = [] → (doReturn e (T.setTop f) acts v).1 = T.setFrames fs) → Steps p.tables e below (T.setTop g) (T.setFrames fs)) : GoesW p l e R s m args below meth c Q T g :=
  ⟨T, v, L, k, n, vm, j, X, hS, hj, hk, hn, hv, hq, hs⟩
theorem tw {a0 : Array Value} {Z : State} (hw : ∀ d ∈ tables_1, d.before a0 Z = true) (i : Nat) {d : Jvm.Cond} (h : tables_1[i]? = some d) : d.before a0 Z = true := hw d (List.mem_of_getElem? h)
theorem own_at {T : State} {h : Heap} {a : Addr} {c : Cell} (e : T.heap = h) (q : h[a]? = some c) : T.heap[a]? = some c := by rw [e]; exact q
theorem cmpL_self (x : Int64) : Jvm.Free.XT.cmpL x x = (0 : Int32) := by simp [Jvm.Free.XT.cmpL, Int64.lt_iff_toInt_lt]
theorem own_mvMN {Z s : State} {a0 args : Array Value} {own host : String} {index : Nat} {y : MethodName} (hZ : Z.Warmed39 s.vm) (w : (Jvm.Cond.methodLinkNest own index y host).before a0 Z = true) : (Jvm.Cond.methodLinkNest own index y host).before args s = true := (Cond.methodLinkNest_wide hZ w :)
end OwnGoes
theorem pd_0 : parseMethodDescriptor "()V" = some ⟨[], none⟩ := by decide +kernel
theorem pd_1 : parseMethodDescriptor "()[B" = some ⟨[], some (.array .byte)⟩ := by decide +kernel
theorem pd_2 : parseMethodDescriptor "([BI[B[B[B[B)Z" = some ⟨[(.array .byte), .int, (.array .byte), (.array .byte), (.array .byte), (.array .byte)], some .boolean⟩ := by decide +kernel
theorem pd_3 : parseMethodDescriptor "([B)V" = some ⟨[(.array .byte)], none⟩ := by decide +kernel
abbrev Y0 : MethodName := (⟨"com/example/api_policy_gateway/apipolicygateway/net/BufferPool", "<init>", "()V"⟩ : MethodName)
abbrev Y1 : MethodName := (⟨"com/example/api_policy_gateway/apipolicygateway/net/BufferPool", "take", "()[B"⟩ : MethodName)
abbrev Y2 : MethodName := (⟨"com/example/api_policy_gateway/apipolicygateway/net/BufferPool", "give", "([B)V"⟩ : MethodName)
abbrev Y3 : MethodName := (⟨"com/example/api_policy_gateway/apipolicygateway/net/BufferPoolTakePinLaw", "fresh", "([BI[B[B[B[B)Z"⟩ : MethodName)
def LenB (Z : State) (h : Heap) (a : Addr) (z : Int32) : Prop := ∃ c : Cell, Arr Z h a c .byte ∧ c.slots.size = z.toNatClampNeg ∧ ¬ z < 0
section OwnLen
variable {Z : State} {h h' : Heap} {a b : Addr} {z : Int32} {sl : Nat} {v : Value} {ws : List Addr} {k : ClassId} {vs : List Value} {dv : Value}
theorem LenB.of (F : Arv Z h a k .byte z vs dv) : LenB Z h a z := by obtain ⟨c, A, -, S, N, -⟩ := F; exact ⟨c, A, S, N⟩
theorem LenB.lt (F : LenB Z h a z) : a < h.size := by obtain ⟨c, A, -⟩ := F; exact A.lt
theorem LenB.ext (F : LenB Z h a z) (E : Ext h h') : LenB Z h' a z := by obtain ⟨c, A, r⟩ := F; exact ⟨c, A.ext E, r⟩
theorem LenB.other (F : LenB Z h b z) (W : Wr h h' a sl v) (q : b ≠ a) : LenB Z h' b z := by obtain ⟨c, A, r⟩ := F; exact ⟨c, A.other W q, r⟩
theorem LenB.keep (F : LenB Z h a z) (K : Keep h h' ws) (q : a ∉ ws) : LenB Z h' a z := by obtain ⟨c, A, r⟩ := F; exact ⟨c, ⟨K.2.1 a c A.1 q, A.2⟩, r⟩
end OwnLen
theorem own_mask3 (x : Int32) : (x &&& (3 : Int32)) = (0 : Int32) ∨ (x &&& (3 : Int32)) = (1 : Int32) ∨ (x &&& (3 : Int32)) = (2 : Int32) ∨ (x &&& (3 : Int32)) = (3 : Int32) := by
  have e1 : (x &&& 3).toInt = x.toInt % 2 ^ 2 := Jvm.Kit.i32_mask x 3 (k := 2) (by decide) (by decide)
  have e3 : (x &&& 3).toInt = 0 ∨ (x &&& 3).toInt = 1 ∨ (x &&& 3).toInt = 2 ∨ (x &&& 3).toInt = 3 := by omega
  simp only [← Int32.toInt_inj]
  rcases e3 with h | h | h | h <;> rw [h] <;> decide
theorem own_idx (x : Int32) : ¬ ((x &&& (16383 : Int32)) < 0) ∧ (x &&& (16383 : Int32)) < (16384 : Int32) := by
  have e1 : (x &&& 16383).toInt = x.toInt % 2 ^ 14 := Jvm.Kit.i32_mask x 16383 (k := 14) (by decide) (by decide)
  have a0 : (0 : Int32).toInt = 0 := by decide
  have a1 : (16384 : Int32).toInt = 16384 := by decide
  rw [Int32.lt_iff_toInt_lt, Int32.lt_iff_toInt_lt]
  omega
theorem d0_0 : decode prog_16_method_1_code 0 = .ok (.aload_n 0, 1) := by decide +kernel
theorem d0_1 : decode prog_16_method_1_code 1 = .ok (.invokespecial 1, 3) := by decide +kernel
theorem d0_4 : decode prog_16_method_1_code 4 = .ok (.aload_n 0, 1) := by decide +kernel
theorem d0_5 : decode prog_16_method_1_code 5 = .ok (.bipush 64, 2) := by decide +kernel
theorem d0_7 : decode prog_16_method_1_code 7 = .ok (.anewarray 9, 3) := by decide +kernel
theorem d0_10 : decode prog_16_method_1_code 10 = .ok (.putfield 11, 3) := by decide +kernel
theorem d0_13 : decode prog_16_method_1_code 13 = .ok (.return_, 1) := by decide +kernel
theorem pn_com_example_api_policy_gateway_apipolicygateway_net_BufferPool : plainName "com/example/api_policy_gateway/apipolicygateway/net/BufferPool" = true := by first | (simp [plainName, overriddenIn]; done) | decide +kernel
def Q_rm_pool (Z : State) (a1 : Addr) (h0 : Heap) (n0 : Nat) (v : Option Value) (h : Heap) (L : List Loc) : Prop := ∃ sp : Addr, ∃ k : ClassId, v = none ∧ Fr n0 L ∧ Keep h0 h [a1] ∧ h0.size ≤ sp ∧ Fld Z h a1 "com/example/api_policy_gateway/apipolicygateway/net/BufferPool" "spare" "[[B" (.ref sp) ∧ Fld Z h a1 "com/example/api_policy_gateway/apipolicygateway/net/BufferPool" "spareCount" "I" (.int (0 : Int32)) ∧ Arv Z h sp k (.array .byte) (64 : Int32) [.null, .null, .null] .null ∧ OvrA Z k .byte "[B"
set_option maxRecDepth 65536 in
set_option maxHeartbeats 40000000 in
theorem rm_pool (l : Launch) (Z : State) (a0 : Array Value) (hw : ∀ d ∈ tables_1, d.before a0 Z = true) (ws : List Jvm.Cond) (a1 : Addr) (h0 : Heap) (n0 : Nat) (Z0 : n0 ≤ h0.size) (O0 : Old Z n0 h0) (E_a1 : Exa Z h0 a1 "com/example/api_policy_gateway/apipolicygateway/net/BufferPool") (F_a1_spare : Fld Z h0 a1 "com/example/api_policy_gateway/apipolicygateway/net/BufferPool" "spare" "[[B" .null) (F_a1_spareCount : Fld Z h0 a1 "com/example/api_policy_gateway/apipolicygateway/net/BufferPool" "spareCount" "I" (.int (0 : Int32))) (ge_a1 : n0 ≤ a1) :
    MetFree l Y0 (head1 (Jvm.Cond.code Y0 prog_16_method_1_code 1 none :: ws) ({ frames := 1, cells := 1, slots := 64, locals := 12 } : Room)) (fun a U => a = #[(.ref a1)] ∧ Z.Warmed39 U.vm ∧ U.heap = h0) (fun _ _ _ _ _ => True) (fun _ U o U' => ∃ v L, o = .returned v ∧ Q_rm_pool Z a1 h0 n0 v U'.heap L ∧ FrameEnd U o U' L ({ frames := 1, cells := 1, slots := 64, locals := 12 } : Room).cells ({ frames := 1, cells := 1, slots := 64, locals := 12 } : Room).slots) := by
  refine MetFree.of_bodySF (plainFor_of_name pn_com_example_api_policy_gateway_apipolicygateway_net_BufferPool) hisR ?_
  intro p e s m args below meth c s₁ Bd hml0 hP hK
  obtain ⟨rfl, hZ, hh⟩ := hP
  have hx := Bd.exec
  have hby := Bd.bytes
  have hml : c.maxLocals = 1 := hml0
  have hown : s.vm.findClass "com/example/api_policy_gateway/apipolicygateway/net/BufferPool" = some m.cls := findClass_of_methodNamed Bd.named
  have hnm := (name_of_methodNamed Bd.named Bd.method).1
  have X0 : Stand p l e ({ frames := 1, cells := 1, slots := 64, locals := 12 } : Room) s m #[(.ref a1)] below meth c s₁ [] 0 0 := Stand.of_body Bd
  have e0 : s₁.heap = h0 := by rw [← hh, Bd.state]; rfl
  have N0 := Fr.nil n0
  refine Goes.out (l := l) (c := c) (R := ({ frames := 1, cells := 1, slots := 64, locals := 12 } : Room)) (Q := Q_rm_pool Z a1 h0 n0) Bd.notSynchronized ?_
  refine Goes.cast (g2 := mkF m 0 #[rv a1] []) (by first | (simp [entryFrame, mkF, argsToLocals, Value.category]; done) | rfl) ?_
  have K0 : Keep h0 h0 [a1] := Keep.refl h0 _
  have hws : ∀ x ∈ [a1], n0 ≤ x := (allS ge_a1 all0)
  refine Goes.step (T2 := s₁) (g2 := (mkF m 1 #[rv a1] [(.ref a1)])) (fun _ hr => XS.aloadN X0.here hx rfl (hb hby d0_0) rfl rfl hr) ?_
  have Zs1 : n0 ≤ h0.size := Nat.le_trans Z0 K0.1
  obtain ⟨T2, X2, e2, st2⟩ := initO X0 hx hZ hown (tw hw 6 rfl) (tw hw 7 rfl) (tw hw 8 rfl) e0 (g := (mkF m 1 #[rv a1] [(.ref a1)])) rfl (by rw [hml]; rfl) rfl (hb hby d0_1) (by decide) (W := 0) (by show 2 * 0 + _ ≤ _; exact Nat.le_of_eq rfl) (by decide)
  refine Goes.step (T2 := T2) (g2 := (mkF m 4 #[rv a1] [])) st2 ?_
  refine Goes.step (T2 := T2) (g2 := (mkF m 5 #[rv a1] [(.ref a1)])) (fun _ hr => XS.aloadN X2.here hx rfl (hb hby d0_4) rfl rfl hr) ?_
  refine Goes.step (T2 := T2) (g2 := (mkF m 7 #[rv a1] [(.int (64 : Int32)), (.ref a1)])) (fun _ hr => XS.bipush X2.here hx rfl (hb hby d0_5) hr) ?_
  obtain ⟨T3, h3, k3, X3, e3, E3, A3, Ax3, Ov3, st3⟩ := newRA X2 hx hZ hown (ty := .byte) (C := "[B") (by decide) (tw hw 9 rfl) (tw hw 10 rfl) e2 (g := (mkF m 7 #[rv a1] [(.int (64 : Int32)), (.ref a1)])) rfl (hb hby d0_7) rfl (by decide) (cap := 64) (by decide) (by decide) (by decide) (by decide) (ad := "[[B") (by decide)
  obtain ⟨b3, g3⟩ : ∃ z, z = h0.size := ⟨_, rfl⟩
  rw [← g3] at A3 Ax3 st3
  have sz_b3 : h0.size ≤ b3 := Nat.le_trans K0.1 (Nat.le_of_eq g3.symm)
  have ge_b3 : n0 ≤ b3 := Nat.le_trans Z0 sz_b3
  have E_a1_3 : Exa Z h3 a1 "com/example/api_policy_gateway/apipolicygateway/net/BufferPool" := E_a1.ext E3
  have F_a1_spare_3 : Fld Z h3 a1 "com/example/api_policy_gateway/apipolicygateway/net/BufferPool" "spare" "[[B" .null := F_a1_spare.ext E3
  have F_a1_spareCount_3 : Fld Z h3 a1 "com/example/api_policy_gateway/apipolicygateway/net/BufferPool" "spareCount" "I" (.int (0 : Int32)) := F_a1_spareCount.ext E3
  have K3 : Keep h0 h3 [a1] := K0.ext E3
  have V_b3_3 : Arv Z h3 b3 k3 (.array .byte) (64 : Int32) [.null, .null, .null] .null := (Arv.new A3 (by decide)).pad (pad_rep [] .null 3)
  refine Goes.step (T2 := T3) (g2 := (mkF m 10 #[rv a1] [(.ref b3), (.ref a1)])) st3 ?_
  obtain ⟨T4, h4, X4, e4, W4, st4⟩ := putF X3 hx hZ hown (host := "") (Or.inl (tw hw 11 rfl)) Via.refl e3 F_a1_spare_3 E_a1_3 (Or.inr ⟨(tw hw 12 rfl), rfl, hnm⟩) (tw hw 1 rfl) (ty := (.array (.array .byte))) (by decide) rfl rfl (g := (mkF m 10 #[rv a1] [(.ref b3), (.ref a1)])) rfl rfl (hb hby d0_10)
  have E_a1_4 : Exa Z h4 a1 "com/example/api_policy_gateway/apipolicygateway/net/BufferPool" := E_a1_3.wr W4
  have F_a1_spareCount_4 : Fld Z h4 a1 "com/example/api_policy_gateway/apipolicygateway/net/BufferPool" "spareCount" "I" (.int (0 : Int32)) := F_a1_spareCount_3.other W4 (Or.inr (slot_ne (Or.inl (tw hw 19 rfl)) (Or.inr (tw hw 12 rfl)) (by decide) (t := .int) (t' := (.array (.array .byte))) (by decide) (by decide)))
  have V_b3_4 : Arv Z h4 b3 k3 (.array .byte) (64 : Int32) [.null, .null, .null] .null := V_b3_3.other W4 (Ne.symm (Nat.ne_of_lt (Nat.lt_of_lt_of_le E_a1.lt (Nat.le_of_eq g3.symm))))
  have E_b3_4 : Exa Z h4 b3 "[[B" := Ax3.wr W4
  have K4 : Keep h0 h4 [a1] := K3.wr W4 (Or.inl (List.mem_of_getElem? (i := 0) rfl))
  have N4 := Fr.snoc X4 N0 ge_a1
  have F_a1_spare_4 : Fld Z h4 a1 "com/example/api_policy_gateway/apipolicygateway/net/BufferPool" "spare" "[[B" (.ref b3) := F_a1_spare_3.same W4
  refine Goes.step (T2 := T4) (g2 := (mkF m 13 #[rv a1] [])) st4 ?_
  exact Goes.ret (v := none) X4 (by decide) (by decide) (fun _ => rfl) (by show Q_rm_pool Z a1 h0 n0 _ T4.heap _; rw [e4]; exact ⟨b3, k3, rfl, N4, K4, sz_b3, F_a1_spare_4, F_a1_spareCount_4, V_b3_4, Ov3⟩) (fun fs hr => X4.returnOut hx Bd.returns (hb hby d0_13) hr)
theorem d1_0 : decode prog_16_method_2_code 0 = .ok (.aload_n 0, 1) := by decide +kernel
theorem d1_1 : decode prog_16_method_2_code 1 = .ok (.getfield 15, 3) := by decide +kernel
theorem d1_4 : decode prog_16_method_2_code 4 = .ok (.ifCond .ne 9, 3) := by decide +kernel
theorem d1_7 : decode prog_16_method_2_code 7 = .ok (.sipush 16384, 3) := by decide +kernel
theorem d1_10 : decode prog_16_method_2_code 10 = .ok (.newarray .byte, 2) := by decide +kernel
theorem d1_12 : decode prog_16_method_2_code 12 = .ok (.areturn, 1) := by decide +kernel
def Q_rm_take0 (Z : State) (a1 : Addr) (h0 : Heap) (n0 : Nat) (v : Option Value) (h : Heap) (L : List Loc) : Prop := ∃ w : Addr, ∃ kw : ClassId, v = some (.ref w) ∧ Fr n0 L ∧ Keep h0 h [] ∧ h0.size ≤ w ∧ Exa Z h w "[B" ∧ Arv Z h w kw .byte (16384 : Int32) [] (.int (0 : Int32))
set_option maxRecDepth 65536 in
set_option maxHeartbeats 40000000 in
theorem rm_take0 (l : Launch) (Z : State) (a0 : Array Value) (hw : ∀ d ∈ tables_1, d.before a0 Z = true) (ws : List Jvm.Cond) (a1 : Addr) (h0 : Heap) (n0 : Nat) (Z0 : n0 ≤ h0.size) (O0 : Old Z n0 h0) (F_a1_spareCount : Fld Z h0 a1 "com/example/api_policy_gateway/apipolicygateway/net/BufferPool" "spareCount" "I" (.int (0 : Int32))) :
    MetFree l Y1 (head1 (Jvm.Cond.code Y1 prog_16_method_2_code 2 (some (.array .byte)) :: ws) ({ frames := 0, cells := 1, slots := 16384, locals := 0 } : Room)) (fun a U => a = #[(.ref a1)] ∧ Z.Warmed39 U.vm ∧ U.heap = h0) (fun _ _ _ _ _ => True) (fun _ U o U' => ∃ v L, o = .returned v ∧ Q_rm_take0 Z a1 h0 n0 v U'.heap L ∧ FrameEnd U o U' L ({ frames := 0, cells := 1, slots := 16384, locals := 0 } : Room).cells ({ frames := 0, cells := 1, slots := 16384, locals := 0 } : Room).slots) := by
  refine MetFree.of_bodySF (plainFor_of_name pn_com_example_api_policy_gateway_apipolicygateway_net_BufferPool) hisR ?_
  intro p e s m args below meth c s₁ Bd hml0 hP hK
  obtain ⟨rfl, hZ, hh⟩ := hP
  have hx := Bd.exec
  have hby := Bd.bytes
  have hml : c.maxLocals = 2 := hml0
  have hown : s.vm.findClass "com/example/api_policy_gateway/apipolicygateway/net/BufferPool" = some m.cls := findClass_of_methodNamed Bd.named
  have hnm := (name_of_methodNamed Bd.named Bd.method).1
  have X0 : Stand p l e ({ frames := 0, cells := 1, slots := 16384, locals := 0 } : Room) s m #[(.ref a1)] below meth c s₁ [] 0 0 := Stand.of_body Bd
  have e0 : s₁.heap = h0 := by rw [← hh, Bd.state]; rfl
  have N0 := Fr.nil n0
  refine Goes.out (l := l) (c := c) (R := ({ frames := 0, cells := 1, slots := 16384, locals := 0 } : Room)) (Q := Q_rm_take0 Z a1 h0 n0) Bd.notSynchronized ?_
  refine Goes.cast (g2 := mkF m 0 #[rv a1, .unset] []) (by first | (simp [entryFrame, mkF, argsToLocals, Value.category]; done) | rfl) ?_
  have K0 : Keep h0 h0 [] := Keep.refl h0 _
  have hws : ∀ x ∈ ([] : List Addr), n0 ≤ x := all0
  refine Goes.step (T2 := s₁) (g2 := (mkF m 1 #[rv a1, .unset] [(.ref a1)])) (fun _ hr => XS.aloadN X0.here hx rfl (hb hby d1_0) rfl rfl hr) ?_
  obtain ⟨T5, X5, e5, st5⟩ := getF X0 hx hZ hown (host := "") (Or.inl (tw hw 18 rfl)) Via.refl e0 F_a1_spareCount (g := (mkF m 1 #[rv a1, .unset] [(.ref a1)])) rfl rfl (hb hby d1_1)
  refine Goes.step (T2 := T5) (g2 := (mkF m 4 #[rv a1, .unset] [(.int (0 : Int32))])) st5 ?_
  refine Goes.step (T2 := T5) (g2 := (mkF m 7 #[rv a1, .unset] [])) (fun _ hr => XS.ifNo X5.here hx rfl (hb hby d1_4) rfl ((if0 _ _).trans (teq (by decide : (0 : Int32) = (0 : Int32))).2) hr) ?_
  refine Goes.step (T2 := T5) (g2 := (mkF m 10 #[rv a1, .unset] [(.int (16384 : Int32))])) (fun _ hr => XS.sipush X5.here hx rfl (hb hby d1_7) hr) ?_
  obtain ⟨T6, h6, k6, X6, e6, E6, A6, Ax6, st6⟩ := newPE X5 hx hZ (tw hw 20 rfl) e5 (g := (mkF m 10 #[rv a1, .unset] [(.int (16384 : Int32))])) rfl (hb hby d1_10) rfl (by decide) (cap := 16384) (by decide) (by decide) (by decide) (by decide) (ad := "[B") (by decide)
  obtain ⟨b6, g6⟩ : ∃ z, z = h0.size := ⟨_, rfl⟩
  rw [← g6] at A6 Ax6 st6
  have sz_b6 : h0.size ≤ b6 := Nat.le_trans K0.1 (Nat.le_of_eq g6.symm)
  have ge_b6 : n0 ≤ b6 := Nat.le_trans Z0 sz_b6
  have F_a1_spareCount_6 : Fld Z h6 a1 "com/example/api_policy_gateway/apipolicygateway/net/BufferPool" "spareCount" "I" (.int (0 : Int32)) := F_a1_spareCount.ext E6
  have K6 : Keep h0 h6 [] := K0.ext E6
  have V_b6_6 : Arv Z h6 b6 k6 .byte (16384 : Int32) [] (.int (0 : Int32)) := Arv.new A6 (by decide)
  refine Goes.step (T2 := T6) (g2 := (mkF m 12 #[rv a1, .unset] [(.ref b6)])) st6 ?_
  exact Goes.ret (v := some (.ref b6)) X6 (by decide) (by decide) (fun h => by rw [Bd.returns] at h; cases h) (by show Q_rm_take0 Z a1 h0 n0 _ T6.heap _; rw [e6]; exact ⟨b6, k6, rfl, N0, K6, sz_b6, Ax6, V_b6_6⟩) (fun fs hr => retOut X6 hx Bd.returns rfl (Or.inr (Or.inr (Or.inr (Or.inr ⟨rfl, rfl, rfl⟩)))) (hb hby d1_12) hr)
theorem d1_13 : decode prog_16_method_2_code 13 = .ok (.aload_n 0, 1) := by decide +kernel
theorem d1_14 : decode prog_16_method_2_code 14 = .ok (.dup, 1) := by decide +kernel
theorem d1_15 : decode prog_16_method_2_code 15 = .ok (.getfield 15, 3) := by decide +kernel
theorem d1_18 : decode prog_16_method_2_code 18 = .ok (.iconst 1, 1) := by decide +kernel
theorem d1_19 : decode prog_16_method_2_code 19 = .ok (.isub, 1) := by decide +kernel
theorem d1_20 : decode prog_16_method_2_code 20 = .ok (.putfield 15, 3) := by decide +kernel
theorem d1_23 : decode prog_16_method_2_code 23 = .ok (.aload_n 0, 1) := by decide +kernel
theorem d1_24 : decode prog_16_method_2_code 24 = .ok (.getfield 11, 3) := by decide +kernel
theorem d1_27 : decode prog_16_method_2_code 27 = .ok (.aload_n 0, 1) := by decide +kernel
theorem d1_28 : decode prog_16_method_2_code 28 = .ok (.getfield 15, 3) := by decide +kernel
theorem d1_31 : decode prog_16_method_2_code 31 = .ok (.aaload, 1) := by decide +kernel
theorem d1_32 : decode prog_16_method_2_code 32 = .ok (.astore_n 1, 1) := by decide +kernel
theorem d1_33 : decode prog_16_method_2_code 33 = .ok (.aload_n 0, 1) := by decide +kernel
theorem d1_34 : decode prog_16_method_2_code 34 = .ok (.getfield 11, 3) := by decide +kernel
theorem d1_37 : decode prog_16_method_2_code 37 = .ok (.aload_n 0, 1) := by decide +kernel
theorem d1_38 : decode prog_16_method_2_code 38 = .ok (.getfield 15, 3) := by decide +kernel
theorem d1_41 : decode prog_16_method_2_code 41 = .ok (.aconst_null, 1) := by decide +kernel
theorem d1_42 : decode prog_16_method_2_code 42 = .ok (.aastore, 1) := by decide +kernel
theorem d1_43 : decode prog_16_method_2_code 43 = .ok (.aload_n 1, 1) := by decide +kernel
theorem d1_44 : decode prog_16_method_2_code 44 = .ok (.areturn, 1) := by decide +kernel
def Q_rm_take1 (Z : State) (a1 : Addr) (sp : Addr) (k : ClassId) (v1 : Value) (v2 : Value) (x : Addr) (h0 : Heap) (n0 : Nat) (v : Option Value) (h : Heap) (L : List Loc) : Prop := v = some (.ref x) ∧ Fr n0 L ∧ Keep h0 h [a1, sp] ∧ Fld Z h a1 "com/example/api_policy_gateway/apipolicygateway/net/BufferPool" "spare" "[[B" (.ref sp) ∧ Fld Z h a1 "com/example/api_policy_gateway/apipolicygateway/net/BufferPool" "spareCount" "I" (.int (0 : Int32)) ∧ Arv Z h sp k (.array .byte) (64 : Int32) [.null, v1, v2] .null
set_option maxRecDepth 65536 in
set_option maxHeartbeats 40000000 in
theorem rm_take1 (l : Launch) (Z : State) (a0 : Array Value) (hw : ∀ d ∈ tables_1, d.before a0 Z = true) (ws : List Jvm.Cond) (a1 : Addr) (sp : Addr) (k : ClassId) (v1 : Value) (v2 : Value) (x : Addr) (h0 : Heap) (n0 : Nat) (Z0 : n0 ≤ h0.size) (O0 : Old Z n0 h0) (E_a1 : Exa Z h0 a1 "com/example/api_policy_gateway/apipolicygateway/net/BufferPool") (F_a1_spare : Fld Z h0 a1 "com/example/api_policy_gateway/apipolicygateway/net/BufferPool" "spare" "[[B" (.ref sp)) (F_a1_spareCount : Fld Z h0 a1 "com/example/api_policy_gateway/apipolicygateway/net/BufferPool" "spareCount" "I" (.int (1 : Int32))) (V_sp : Arv Z h0 sp k (.array .byte) (64 : Int32) [(.ref x), v1, v2] .null) (ge_a1 : n0 ≤ a1) (ge_sp : n0 ≤ sp) (ne_a1_sp : a1 ≠ sp) :
    MetFree l Y1 (head1 (Jvm.Cond.code Y1 prog_16_method_2_code 2 (some (.array .byte)) :: ws) ({ frames := 0, cells := 0, slots := 0, locals := 0 } : Room)) (fun a U => a = #[(.ref a1)] ∧ Z.Warmed39 U.vm ∧ U.heap = h0) (fun _ _ _ _ _ => True) (fun _ U o U' => ∃ v L, o = .returned v ∧ Q_rm_take1 Z a1 sp k v1 v2 x h0 n0 v U'.heap L ∧ FrameEnd U o U' L ({ frames := 0, cells := 0, slots := 0, locals := 0 } : Room).cells ({ frames := 0, cells := 0, slots := 0, locals := 0 } : Room).slots) := by
  refine MetFree.of_bodySF (plainFor_of_name pn_com_example_api_policy_gateway_apipolicygateway_net_BufferPool) hisR ?_
  intro p e s m args below meth c s₁ Bd hml0 hP hK
  obtain ⟨rfl, hZ, hh⟩ := hP
  have hx := Bd.exec
  have hby := Bd.bytes
  have hml : c.maxLocals = 2 := hml0
  have hown : s.vm.findClass "com/example/api_policy_gateway/apipolicygateway/net/BufferPool" = some m.cls := findClass_of_methodNamed Bd.named
  have hnm := (name_of_methodNamed Bd.named Bd.method).1
  have X0 : Stand p l e ({ frames := 0, cells := 0, slots := 0, locals := 0 } : Room) s m #[(.ref a1)] below meth c s₁ [] 0 0 := Stand.of_body Bd
  have e0 : s₁.heap = h0 := by rw [← hh, Bd.state]; rfl
  have N0 := Fr.nil n0
  refine Goes.out (l := l) (c := c) (R := ({ frames := 0, cells := 0, slots := 0, locals := 0 } : Room)) (Q := Q_rm_take1 Z a1 sp k v1 v2 x h0 n0) Bd.notSynchronized ?_
  refine Goes.cast (g2 := mkF m 0 #[rv a1, .unset] []) (by first | (simp [entryFrame, mkF, argsToLocals, Value.category]; done) | rfl) ?_
  have K0 : Keep h0 h0 [a1, sp] := Keep.refl h0 _
  have hws : ∀ x ∈ [a1, sp], n0 ≤ x := (allS ge_a1 (allS ge_sp all0))
  refine Goes.step (T2 := s₁) (g2 := (mkF m 1 #[rv a1, .unset] [(.ref a1)])) (fun _ hr => XS.aloadN X0.here hx rfl (hb hby d1_0) rfl rfl hr) ?_
  obtain ⟨T7, X7, e7, st7⟩ := getF X0 hx hZ hown (host := "") (Or.inl (tw hw 18 rfl)) Via.refl e0 F_a1_spareCount (g := (mkF m 1 #[rv a1, .unset] [(.ref a1)])) rfl rfl (hb hby d1_1)
  refine Goes.step (T2 := T7) (g2 := (mkF m 4 #[rv a1, .unset] [(.int (1 : Int32))])) st7 ?_
  refine Goes.step (T2 := T7) (g2 := (mkF m 13 #[rv a1, .unset] [])) (fun _ hr => XS.ifYes X7.here hx rfl (pc0 := 4) (pc' := 13) rfl (hb hby d1_4) rfl ((if0 _ _).trans (feq (by decide : ¬ ((1 : Int32) = (0 : Int32)))).2) (by decide) (by decide) hr) ?_
  refine Goes.step (T2 := T7) (g2 := (mkF m 14 #[rv a1, .unset] [(.ref a1)])) (fun _ hr => XS.aloadN X7.here hx rfl (hb hby d1_13) rfl rfl hr) ?_
  refine Goes.step (T2 := T7) (g2 := (mkF m 15 #[rv a1, .unset] [(.ref a1), (.ref a1)])) (fun _ hr => XS.dup X7.here hx rfl (hb hby d1_14) rfl rfl hr) ?_
  obtain ⟨T8, X8, e8, st8⟩ := getF X7 hx hZ hown (host := "") (Or.inl (tw hw 18 rfl)) Via.refl e7 F_a1_spareCount (g := (mkF m 15 #[rv a1, .unset] [(.ref a1), (.ref a1)])) rfl rfl (hb hby d1_15)
  refine Goes.step (T2 := T8) (g2 := (mkF m 18 #[rv a1, .unset] [(.int (1 : Int32)), (.ref a1)])) st8 ?_
  refine Goes.step (T2 := T8) (g2 := (mkF m 19 #[rv a1, .unset] [(.int (1 : Int32)), (.int (1 : Int32)), (.ref a1)])) (fun _ hr => XS.iconst X8.here hx rfl (hb hby d1_18) hr) ?_
  refine Goes.step (T2 := T8) (g2 := (mkF m 20 #[rv a1, .unset] [(.int (0 : Int32)), (.ref a1)])) (fun _ hr => XS.isub X8.here hx rfl (hb hby d1_19) rfl hr) ?_
  obtain ⟨T9, h9, X9, e9, W9, st9⟩ := putF X8 hx hZ hown (host := "") (Or.inl (tw hw 18 rfl)) Via.refl e8 F_a1_spareCount E_a1 (Or.inl (tw hw 19 rfl)) (tw hw 1 rfl) (ty := .int) (by decide) rfl rfl (g := (mkF m 20 #[rv a1, .unset] [(.int (0 : Int32)), (.ref a1)])) rfl rfl (hb hby d1_20)
  have E_a1_9 : Exa Z h9 a1 "com/example/api_policy_gateway/apipolicygateway/net/BufferPool" := E_a1.wr W9
  have F_a1_spare_9 : Fld Z h9 a1 "com/example/api_policy_gateway/apipolicygateway/net/BufferPool" "spare" "[[B" (.ref sp) := F_a1_spare.other W9 (Or.inr (slot_ne (Or.inr (tw hw 12 rfl)) (Or.inl (tw hw 19 rfl)) (by decide) (t := (.array (.array .byte))) (t' := .int) (by decide) (by decide)))
  have V_sp_9 : Arv Z h9 sp k (.array .byte) (64 : Int32) [(.ref x), v1, v2] .null := V_sp.other W9 (Ne.symm ne_a1_sp)
  have K9 : Keep h0 h9 [a1, sp] := K0.wr W9 (Or.inl (List.mem_of_getElem? (i := 0) rfl))
  have N9 := Fr.snoc X9 N0 ge_a1
  have F_a1_spareCount_9 : Fld Z h9 a1 "com/example/api_policy_gateway/apipolicygateway/net/BufferPool" "spareCount" "I" (.int (0 : Int32)) := F_a1_spareCount.same W9
  refine Goes.step (T2 := T9) (g2 := (mkF m 23 #[rv a1, .unset] [])) st9 ?_
  refine Goes.step (T2 := T9) (g2 := (mkF m 24 #[rv a1, .unset] [(.ref a1)])) (fun _ hr => XS.aloadN X9.here hx rfl (hb hby d1_23) rfl rfl hr) ?_
  obtain ⟨T10, X10, e10, st10⟩ := getF X9 hx hZ hown (host := "") (Or.inl (tw hw 11 rfl)) Via.refl e9 F_a1_spare_9 (g := (mkF m 24 #[rv a1, .unset] [(.ref a1)])) rfl rfl (hb hby d1_24)
  refine Goes.step (T2 := T10) (g2 := (mkF m 27 #[rv a1, .unset] [(.ref sp)])) st10 ?_
  refine Goes.step (T2 := T10) (g2 := (mkF m 28 #[rv a1, .unset] [(.ref a1), (.ref sp)])) (fun _ hr => XS.aloadN X10.here hx rfl (hb hby d1_27) rfl rfl hr) ?_
  obtain ⟨T11, X11, e11, st11⟩ := getF X10 hx hZ hown (host := "") (Or.inl (tw hw 18 rfl)) Via.refl e10 F_a1_spareCount_9 (g := (mkF m 28 #[rv a1, .unset] [(.ref a1), (.ref sp)])) rfl rfl (hb hby d1_28)
  refine Goes.step (T2 := T11) (g2 := (mkF m 31 #[rv a1, .unset] [(.int (0 : Int32)), (.ref sp)])) st11 ?_
  obtain ⟨cl12, Ar12, q12, S12, Nn12, H12, G12⟩ := id V_sp_9
  have hin12 : ¬ ((0 : Int32) < 0 ∨ cl12.slots.size ≤ ((0 : Int32)).toNatClampNeg) := inb_of S12 ⟨by decide, by decide⟩
  refine Goes.step (T2 := T11) (g2 := (mkF m 32 #[rv a1, .unset] [(.ref x)])) (X11.aaload hx (j := (0 : Int32)) (v := (.ref x)) (own_at e11 Ar12.1) (State.isArrayOf_alike hZ.alike Ar12.2.1) rfl Ar12.2.2 hin12 (H12.at hin12 rfl) (g := (mkF m 31 #[rv a1, .unset] [(.int (0 : Int32)), (.ref sp)])) rfl rfl (hb hby d1_31)) ?_
  refine Goes.step (T2 := T11) (g2 := (mkF m 33 #[rv a1, rv x] [])) (fun _ hr => XS.astoreN X11.here hx rfl (hb hby d1_32) rfl rfl (l' := #[rv a1, rv x]) rfl hr) ?_
  refine Goes.step (T2 := T11) (g2 := (mkF m 34 #[rv a1, rv x] [(.ref a1)])) (fun _ hr => XS.aloadN X11.here hx rfl (hb hby d1_33) rfl rfl hr) ?_
  obtain ⟨T13, X13, e13, st13⟩ := getF X11 hx hZ hown (host := "") (Or.inl (tw hw 11 rfl)) Via.refl e11 F_a1_spare_9 (g := (mkF m 34 #[rv a1, rv x] [(.ref a1)])) rfl rfl (hb hby d1_34)
  refine Goes.step (T2 := T13) (g2 := (mkF m 37 #[rv a1, rv x] [(.ref sp)])) st13 ?_
  refine Goes.step (T2 := T13) (g2 := (mkF m 38 #[rv a1, rv x] [(.ref a1), (.ref sp)])) (fun _ hr => XS.aloadN X13.here hx rfl (hb hby d1_37) rfl rfl hr) ?_
  obtain ⟨T14, X14, e14, st14⟩ := getF X13 hx hZ hown (host := "") (Or.inl (tw hw 18 rfl)) Via.refl e13 F_a1_spareCount_9 (g := (mkF m 38 #[rv a1, rv x] [(.ref a1), (.ref sp)])) rfl rfl (hb hby d1_38)
  refine Goes.step (T2 := T14) (g2 := (mkF m 41 #[rv a1, rv x] [(.int (0 : Int32)), (.ref sp)])) st14 ?_
  refine Goes.step (T2 := T14) (g2 := (mkF m 42 #[rv a1, rv x] [.null, (.int (0 : Int32)), (.ref sp)])) (fun _ hr => XS.aconstNull X14.here hx rfl (hb hby d1_41) hr) ?_
  obtain ⟨cl15, Ar15, q15, S15, Nn15, H15, G15⟩ := id V_sp_9
  have hin15 : ¬ ((0 : Int32) < 0 ∨ cl15.slots.size ≤ ((0 : Int32)).toNatClampNeg) := inb_of S15 ⟨by decide, by decide⟩
  obtain ⟨T15, h15, X15, e15, W15, st15⟩ := stR X14 hx hZ e14 Ar15 (j := (0 : Int32)) hin15 rfl (Or.inl rfl) (g := (mkF m 42 #[rv a1, rv x] [.null, (.int (0 : Int32)), (.ref sp)])) rfl rfl (hb hby d1_42)
  have E_a1_15 : Exa Z h15 a1 "com/example/api_policy_gateway/apipolicygateway/net/BufferPool" := E_a1_9.wr W15
  have F_a1_spare_15 : Fld Z h15 a1 "com/example/api_policy_gateway/apipolicygateway/net/BufferPool" "spare" "[[B" (.ref sp) := F_a1_spare_9.other W15 (Or.inl ne_a1_sp)
  have F_a1_spareCount_15 : Fld Z h15 a1 "com/example/api_policy_gateway/apipolicygateway/net/BufferPool" "spareCount" "I" (.int (0 : Int32)) := F_a1_spareCount_9.other W15 (Or.inl ne_a1_sp)
  have K15 : Keep h0 h15 [a1, sp] := K9.wr W15 (Or.inl (List.mem_of_getElem? (i := 1) rfl))
  have N15 := Fr.snoc X15 N9 ge_sp
  have V_sp_15 : Arv Z h15 sp k (.array .byte) (64 : Int32) [.null, v1, v2] .null := Arv.set Ar15 q15 S15 Nn15 H15 G15 rfl W15 0 rfl (Nat.le_of_ble_eq_true rfl)
  refine Goes.step (T2 := T15) (g2 := (mkF m 43 #[rv a1, rv x] [])) st15 ?_
  refine Goes.step (T2 := T15) (g2 := (mkF m 44 #[rv a1, rv x] [(.ref x)])) (fun _ hr => XS.aloadN X15.here hx rfl (hb hby d1_43) rfl rfl hr) ?_
  exact Goes.ret (v := some (.ref x)) X15 (by decide) (by decide) (fun h => by rw [Bd.returns] at h; cases h) (by show Q_rm_take1 Z a1 sp k v1 v2 x h0 n0 _ T15.heap _; rw [e15]; exact ⟨rfl, N15, K15, F_a1_spare_15, F_a1_spareCount_15, V_sp_15⟩) (fun fs hr => retOut X15 hx Bd.returns rfl (Or.inr (Or.inr (Or.inr (Or.inr ⟨rfl, rfl, rfl⟩)))) (hb hby d1_44) hr)
def Q_rm_take2 (Z : State) (a1 : Addr) (sp : Addr) (k : ClassId) (v0 : Value) (v2 : Value) (x : Addr) (h0 : Heap) (n0 : Nat) (v : Option Value) (h : Heap) (L : List Loc) : Prop := v = some (.ref x) ∧ Fr n0 L ∧ Keep h0 h [a1, sp] ∧ Fld Z h a1 "com/example/api_policy_gateway/apipolicygateway/net/BufferPool" "spare" "[[B" (.ref sp) ∧ Fld Z h a1 "com/example/api_policy_gateway/apipolicygateway/net/BufferPool" "spareCount" "I" (.int (1 : Int32)) ∧ Arv Z h sp k (.array .byte) (64 : Int32) [v0, .null, v2] .null
set_option maxRecDepth 65536 in
set_option maxHeartbeats 40000000 in
theorem rm_take2 (l : Launch) (Z : State) (a0 : Array Value) (hw : ∀ d ∈ tables_1, d.before a0 Z = true) (ws : List Jvm.Cond) (a1 : Addr) (sp : Addr) (k : ClassId) (v0 : Value) (v2 : Value) (x : Addr) (h0 : Heap) (n0 : Nat) (Z0 : n0 ≤ h0.size) (O0 : Old Z n0 h0) (E_a1 : Exa Z h0 a1 "com/example/api_policy_gateway/apipolicygateway/net/BufferPool") (F_a1_spare : Fld Z h0 a1 "com/example/api_policy_gateway/apipolicygateway/net/BufferPool" "spare" "[[B" (.ref sp)) (F_a1_spareCount : Fld Z h0 a1 "com/example/api_policy_gateway/apipolicygateway/net/BufferPool" "spareCount" "I" (.int (2 : Int32))) (V_sp : Arv Z h0 sp k (.array .byte) (64 : Int32) [v0, (.ref x), v2] .null) (ge_a1 : n0 ≤ a1) (ge_sp : n0 ≤ sp) (ne_a1_sp : a1 ≠ sp) :
    MetFree l Y1 (head1 (Jvm.Cond.code Y1 prog_16_method_2_code 2 (some (.array .byte)) :: ws) ({ frames := 0, cells := 0, slots := 0, locals := 0 } : Room)) (fun a U => a = #[(.ref a1)] ∧ Z.Warmed39 U.vm ∧ U.heap = h0) (fun _ _ _ _ _ => True) (fun _ U o U' => ∃ v L, o = .returned v ∧ Q_rm_take2 Z a1 sp k v0 v2 x h0 n0 v U'.heap L ∧ FrameEnd U o U' L ({ frames := 0, cells := 0, slots := 0, locals := 0 } : Room).cells ({ frames := 0, cells := 0, slots := 0, locals := 0 } : Room).slots) := by
  refine MetFree.of_bodySF (plainFor_of_name pn_com_example_api_policy_gateway_apipolicygateway_net_BufferPool) hisR ?_
  intro p e s m args below meth c s₁ Bd hml0 hP hK
  obtain ⟨rfl, hZ, hh⟩ := hP
  have hx := Bd.exec
  have hby := Bd.bytes
  have hml : c.maxLocals = 2 := hml0
  have hown : s.vm.findClass "com/example/api_policy_gateway/apipolicygateway/net/BufferPool" = some m.cls := findClass_of_methodNamed Bd.named
  have hnm := (name_of_methodNamed Bd.named Bd.method).1
  have X0 : Stand p l e ({ frames := 0, cells := 0, slots := 0, locals := 0 } : Room) s m #[(.ref a1)] below meth c s₁ [] 0 0 := Stand.of_body Bd
  have e0 : s₁.heap = h0 := by rw [← hh, Bd.state]; rfl
  have N0 := Fr.nil n0
  refine Goes.out (l := l) (c := c) (R := ({ frames := 0, cells := 0, slots := 0, locals := 0 } : Room)) (Q := Q_rm_take2 Z a1 sp k v0 v2 x h0 n0) Bd.notSynchronized ?_
  refine Goes.cast (g2 := mkF m 0 #[rv a1, .unset] []) (by first | (simp [entryFrame, mkF, argsToLocals, Value.category]; done) | rfl) ?_
  have K0 : Keep h0 h0 [a1, sp] := Keep.refl h0 _
  have hws : ∀ x ∈ [a1, sp], n0 ≤ x := (allS ge_a1 (allS ge_sp all0))
  refine Goes.step (T2 := s₁) (g2 := (mkF m 1 #[rv a1, .unset] [(.ref a1)])) (fun _ hr => XS.aloadN X0.here hx rfl (hb hby d1_0) rfl rfl hr) ?_
  obtain ⟨T16, X16, e16, st16⟩ := getF X0 hx hZ hown (host := "") (Or.inl (tw hw 18 rfl)) Via.refl e0 F_a1_spareCount (g := (mkF m 1 #[rv a1, .unset] [(.ref a1)])) rfl rfl (hb hby d1_1)
  refine Goes.step (T2 := T16) (g2 := (mkF m 4 #[rv a1, .unset] [(.int (2 : Int32))])) st16 ?_
  refine Goes.step (T2 := T16) (g2 := (mkF m 13 #[rv a1, .unset] [])) (fun _ hr => XS.ifYes X16.here hx rfl (pc0 := 4) (pc' := 13) rfl (hb hby d1_4) rfl ((if0 _ _).trans (feq (by decide : ¬ ((2 : Int32) = (0 : Int32)))).2) (by decide) (by decide) hr) ?_
  refine Goes.step (T2 := T16) (g2 := (mkF m 14 #[rv a1, .unset] [(.ref a1)])) (fun _ hr => XS.aloadN X16.here hx rfl (hb hby d1_13) rfl rfl hr) ?_
  refine Goes.step (T2 := T16) (g2 := (mkF m 15 #[rv a1, .unset] [(.ref a1), (.ref a1)])) (fun _ hr => XS.dup X16.here hx rfl (hb hby d1_14) rfl rfl hr) ?_
  obtain ⟨T17, X17, e17, st17⟩ := getF X16 hx hZ hown (host := "") (Or.inl (tw hw 18 rfl)) Via.refl e16 F_a1_spareCount (g := (mkF m 15 #[rv a1, .unset] [(.ref a1), (.ref a1)])) rfl rfl (hb hby d1_15)
  refine Goes.step (T2 := T17) (g2 := (mkF m 18 #[rv a1, .unset] [(.int (2 : Int32)), (.ref a1)])) st17 ?_
  refine Goes.step (T2 := T17) (g2 := (mkF m 19 #[rv a1, .unset] [(.int (1 : Int32)), (.int (2 : Int32)), (.ref a1)])) (fun _ hr => XS.iconst X17.here hx rfl (hb hby d1_18) hr) ?_
  refine Goes.step (T2 := T17) (g2 := (mkF m 20 #[rv a1, .unset] [(.int (1 : Int32)), (.ref a1)])) (fun _ hr => XS.isub X17.here hx rfl (hb hby d1_19) rfl hr) ?_
  obtain ⟨T18, h18, X18, e18, W18, st18⟩ := putF X17 hx hZ hown (host := "") (Or.inl (tw hw 18 rfl)) Via.refl e17 F_a1_spareCount E_a1 (Or.inl (tw hw 19 rfl)) (tw hw 1 rfl) (ty := .int) (by decide) rfl rfl (g := (mkF m 20 #[rv a1, .unset] [(.int (1 : Int32)), (.ref a1)])) rfl rfl (hb hby d1_20)
  have E_a1_18 : Exa Z h18 a1 "com/example/api_policy_gateway/apipolicygateway/net/BufferPool" := E_a1.wr W18
  have F_a1_spare_18 : Fld Z h18 a1 "com/example/api_policy_gateway/apipolicygateway/net/BufferPool" "spare" "[[B" (.ref sp) := F_a1_spare.other W18 (Or.inr (slot_ne (Or.inr (tw hw 12 rfl)) (Or.inl (tw hw 19 rfl)) (by decide) (t := (.array (.array .byte))) (t' := .int) (by decide) (by decide)))
  have V_sp_18 : Arv Z h18 sp k (.array .byte) (64 : Int32) [v0, (.ref x), v2] .null := V_sp.other W18 (Ne.symm ne_a1_sp)
  have K18 : Keep h0 h18 [a1, sp] := K0.wr W18 (Or.inl (List.mem_of_getElem? (i := 0) rfl))
  have N18 := Fr.snoc X18 N0 ge_a1
  have F_a1_spareCount_18 : Fld Z h18 a1 "com/example/api_policy_gateway/apipolicygateway/net/BufferPool" "spareCount" "I" (.int (1 : Int32)) := F_a1_spareCount.same W18
  refine Goes.step (T2 := T18) (g2 := (mkF m 23 #[rv a1, .unset] [])) st18 ?_
  refine Goes.step (T2 := T18) (g2 := (mkF m 24 #[rv a1, .unset] [(.ref a1)])) (fun _ hr => XS.aloadN X18.here hx rfl (hb hby d1_23) rfl rfl hr) ?_
  obtain ⟨T19, X19, e19, st19⟩ := getF X18 hx hZ hown (host := "") (Or.inl (tw hw 11 rfl)) Via.refl e18 F_a1_spare_18 (g := (mkF m 24 #[rv a1, .unset] [(.ref a1)])) rfl rfl (hb hby d1_24)
  refine Goes.step (T2 := T19) (g2 := (mkF m 27 #[rv a1, .unset] [(.ref sp)])) st19 ?_
  refine Goes.step (T2 := T19) (g2 := (mkF m 28 #[rv a1, .unset] [(.ref a1), (.ref sp)])) (fun _ hr => XS.aloadN X19.here hx rfl (hb hby d1_27) rfl rfl hr) ?_
  obtain ⟨T20, X20, e20, st20⟩ := getF X19 hx hZ hown (host := "") (Or.inl (tw hw 18 rfl)) Via.refl e19 F_a1_spareCount_18 (g := (mkF m 28 #[rv a1, .unset] [(.ref a1), (.ref sp)])) rfl rfl (hb hby d1_28)
  refine Goes.step (T2 := T20) (g2 := (mkF m 31 #[rv a1, .unset] [(.int (1 : Int32)), (.ref sp)])) st20 ?_
  obtain ⟨cl21, Ar21, q21, S21, Nn21, H21, G21⟩ := id V_sp_18
  have hin21 : ¬ ((1 : Int32) < 0 ∨ cl21.slots.size ≤ ((1 : Int32)).toNatClampNeg) := inb_of S21 ⟨by decide, by decide⟩
  refine Goes.step (T2 := T20) (g2 := (mkF m 32 #[rv a1, .unset] [(.ref x)])) (X20.aaload hx (j := (1 : Int32)) (v := (.ref x)) (own_at e20 Ar21.1) (State.isArrayOf_alike hZ.alike Ar21.2.1) rfl Ar21.2.2 hin21 (H21.at hin21 rfl) (g := (mkF m 31 #[rv a1, .unset] [(.int (1 : Int32)), (.ref sp)])) rfl rfl (hb hby d1_31)) ?_
  refine Goes.step (T2 := T20) (g2 := (mkF m 33 #[rv a1, rv x] [])) (fun _ hr => XS.astoreN X20.here hx rfl (hb hby d1_32) rfl rfl (l' := #[rv a1, rv x]) rfl hr) ?_
  refine Goes.step (T2 := T20) (g2 := (mkF m 34 #[rv a1, rv x] [(.ref a1)])) (fun _ hr => XS.aloadN X20.here hx rfl (hb hby d1_33) rfl rfl hr) ?_
  obtain ⟨T22, X22, e22, st22⟩ := getF X20 hx hZ hown (host := "") (Or.inl (tw hw 11 rfl)) Via.refl e20 F_a1_spare_18 (g := (mkF m 34 #[rv a1, rv x] [(.ref a1)])) rfl rfl (hb hby d1_34)
  refine Goes.step (T2 := T22) (g2 := (mkF m 37 #[rv a1, rv x] [(.ref sp)])) st22 ?_
  refine Goes.step (T2 := T22) (g2 := (mkF m 38 #[rv a1, rv x] [(.ref a1), (.ref sp)])) (fun _ hr => XS.aloadN X22.here hx rfl (hb hby d1_37) rfl rfl hr) ?_
  obtain ⟨T23, X23, e23, st23⟩ := getF X22 hx hZ hown (host := "") (Or.inl (tw hw 18 rfl)) Via.refl e22 F_a1_spareCount_18 (g := (mkF m 38 #[rv a1, rv x] [(.ref a1), (.ref sp)])) rfl rfl (hb hby d1_38)
  refine Goes.step (T2 := T23) (g2 := (mkF m 41 #[rv a1, rv x] [(.int (1 : Int32)), (.ref sp)])) st23 ?_
  refine Goes.step (T2 := T23) (g2 := (mkF m 42 #[rv a1, rv x] [.null, (.int (1 : Int32)), (.ref sp)])) (fun _ hr => XS.aconstNull X23.here hx rfl (hb hby d1_41) hr) ?_
  obtain ⟨cl24, Ar24, q24, S24, Nn24, H24, G24⟩ := id V_sp_18
  have hin24 : ¬ ((1 : Int32) < 0 ∨ cl24.slots.size ≤ ((1 : Int32)).toNatClampNeg) := inb_of S24 ⟨by decide, by decide⟩
  obtain ⟨T24, h24, X24, e24, W24, st24⟩ := stR X23 hx hZ e23 Ar24 (j := (1 : Int32)) hin24 rfl (Or.inl rfl) (g := (mkF m 42 #[rv a1, rv x] [.null, (.int (1 : Int32)), (.ref sp)])) rfl rfl (hb hby d1_42)
  have E_a1_24 : Exa Z h24 a1 "com/example/api_policy_gateway/apipolicygateway/net/BufferPool" := E_a1_18.wr W24
  have F_a1_spare_24 : Fld Z h24 a1 "com/example/api_policy_gateway/apipolicygateway/net/BufferPool" "spare" "[[B" (.ref sp) := F_a1_spare_18.other W24 (Or.inl ne_a1_sp)
  have F_a1_spareCount_24 : Fld Z h24 a1 "com/example/api_policy_gateway/apipolicygateway/net/BufferPool" "spareCount" "I" (.int (1 : Int32)) := F_a1_spareCount_18.other W24 (Or.inl ne_a1_sp)
  have K24 : Keep h0 h24 [a1, sp] := K18.wr W24 (Or.inl (List.mem_of_getElem? (i := 1) rfl))
  have N24 := Fr.snoc X24 N18 ge_sp
  have V_sp_24 : Arv Z h24 sp k (.array .byte) (64 : Int32) [v0, .null, v2] .null := Arv.set Ar24 q24 S24 Nn24 H24 G24 rfl W24 1 rfl (Nat.le_of_ble_eq_true rfl)
  refine Goes.step (T2 := T24) (g2 := (mkF m 43 #[rv a1, rv x] [])) st24 ?_
  refine Goes.step (T2 := T24) (g2 := (mkF m 44 #[rv a1, rv x] [(.ref x)])) (fun _ hr => XS.aloadN X24.here hx rfl (hb hby d1_43) rfl rfl hr) ?_
  exact Goes.ret (v := some (.ref x)) X24 (by decide) (by decide) (fun h => by rw [Bd.returns] at h; cases h) (by show Q_rm_take2 Z a1 sp k v0 v2 x h0 n0 _ T24.heap _; rw [e24]; exact ⟨rfl, N24, K24, F_a1_spare_24, F_a1_spareCount_24, V_sp_24⟩) (fun fs hr => retOut X24 hx Bd.returns rfl (Or.inr (Or.inr (Or.inr (Or.inr ⟨rfl, rfl, rfl⟩)))) (hb hby d1_44) hr)
def Q_rm_take3 (Z : State) (a1 : Addr) (sp : Addr) (k : ClassId) (v0 : Value) (v1 : Value) (x : Addr) (h0 : Heap) (n0 : Nat) (v : Option Value) (h : Heap) (L : List Loc) : Prop := v = some (.ref x) ∧ Fr n0 L ∧ Keep h0 h [a1, sp] ∧ Fld Z h a1 "com/example/api_policy_gateway/apipolicygateway/net/BufferPool" "spare" "[[B" (.ref sp) ∧ Fld Z h a1 "com/example/api_policy_gateway/apipolicygateway/net/BufferPool" "spareCount" "I" (.int (2 : Int32)) ∧ Arv Z h sp k (.array .byte) (64 : Int32) [v0, v1, .null] .null
set_option maxRecDepth 65536 in
set_option maxHeartbeats 40000000 in
theorem rm_take3 (l : Launch) (Z : State) (a0 : Array Value) (hw : ∀ d ∈ tables_1, d.before a0 Z = true) (ws : List Jvm.Cond) (a1 : Addr) (sp : Addr) (k : ClassId) (v0 : Value) (v1 : Value) (x : Addr) (h0 : Heap) (n0 : Nat) (Z0 : n0 ≤ h0.size) (O0 : Old Z n0 h0) (E_a1 : Exa Z h0 a1 "com/example/api_policy_gateway/apipolicygateway/net/BufferPool") (F_a1_spare : Fld Z h0 a1 "com/example/api_policy_gateway/apipolicygateway/net/BufferPool" "spare" "[[B" (.ref sp)) (F_a1_spareCount : Fld Z h0 a1 "com/example/api_policy_gateway/apipolicygateway/net/BufferPool" "spareCount" "I" (.int (3 : Int32))) (V_sp : Arv Z h0 sp k (.array .byte) (64 : Int32) [v0, v1, (.ref x)] .null) (ge_a1 : n0 ≤ a1) (ge_sp : n0 ≤ sp) (ne_a1_sp : a1 ≠ sp) :
    MetFree l Y1 (head1 (Jvm.Cond.code Y1 prog_16_method_2_code 2 (some (.array .byte)) :: ws) ({ frames := 0, cells := 0, slots := 0, locals := 0 } : Room)) (fun a U => a = #[(.ref a1)] ∧ Z.Warmed39 U.vm ∧ U.heap = h0) (fun _ _ _ _ _ => True) (fun _ U o U' => ∃ v L, o = .returned v ∧ Q_rm_take3 Z a1 sp k v0 v1 x h0 n0 v U'.heap L ∧ FrameEnd U o U' L ({ frames := 0, cells := 0, slots := 0, locals := 0 } : Room).cells ({ frames := 0, cells := 0, slots := 0, locals := 0 } : Room).slots) := by
  refine MetFree.of_bodySF (plainFor_of_name pn_com_example_api_policy_gateway_apipolicygateway_net_BufferPool) hisR ?_
  intro p e s m args below meth c s₁ Bd hml0 hP hK
  obtain ⟨rfl, hZ, hh⟩ := hP
  have hx := Bd.exec
  have hby := Bd.bytes
  have hml : c.maxLocals = 2 := hml0
  have hown : s.vm.findClass "com/example/api_policy_gateway/apipolicygateway/net/BufferPool" = some m.cls := findClass_of_methodNamed Bd.named
  have hnm := (name_of_methodNamed Bd.named Bd.method).1
  have X0 : Stand p l e ({ frames := 0, cells := 0, slots := 0, locals := 0 } : Room) s m #[(.ref a1)] below meth c s₁ [] 0 0 := Stand.of_body Bd
  have e0 : s₁.heap = h0 := by rw [← hh, Bd.state]; rfl
  have N0 := Fr.nil n0
  refine Goes.out (l := l) (c := c) (R := ({ frames := 0, cells := 0, slots := 0, locals := 0 } : Room)) (Q := Q_rm_take3 Z a1 sp k v0 v1 x h0 n0) Bd.notSynchronized ?_
  refine Goes.cast (g2 := mkF m 0 #[rv a1, .unset] []) (by first | (simp [entryFrame, mkF, argsToLocals, Value.category]; done) | rfl) ?_
  have K0 : Keep h0 h0 [a1, sp] := Keep.refl h0 _
  have hws : ∀ x ∈ [a1, sp], n0 ≤ x := (allS ge_a1 (allS ge_sp all0))
  refine Goes.step (T2 := s₁) (g2 := (mkF m 1 #[rv a1, .unset] [(.ref a1)])) (fun _ hr => XS.aloadN X0.here hx rfl (hb hby d1_0) rfl rfl hr) ?_
  obtain ⟨T25, X25, e25, st25⟩ := getF X0 hx hZ hown (host := "") (Or.inl (tw hw 18 rfl)) Via.refl e0 F_a1_spareCount (g := (mkF m 1 #[rv a1, .unset] [(.ref a1)])) rfl rfl (hb hby d1_1)
  refine Goes.step (T2 := T25) (g2 := (mkF m 4 #[rv a1, .unset] [(.int (3 : Int32))])) st25 ?_
  refine Goes.step (T2 := T25) (g2 := (mkF m 13 #[rv a1, .unset] [])) (fun _ hr => XS.ifYes X25.here hx rfl (pc0 := 4) (pc' := 13) rfl (hb hby d1_4) rfl ((if0 _ _).trans (feq (by decide : ¬ ((3 : Int32) = (0 : Int32)))).2) (by decide) (by decide) hr) ?_
  refine Goes.step (T2 := T25) (g2 := (mkF m 14 #[rv a1, .unset] [(.ref a1)])) (fun _ hr => XS.aloadN X25.here hx rfl (hb hby d1_13) rfl rfl hr) ?_
  refine Goes.step (T2 := T25) (g2 := (mkF m 15 #[rv a1, .unset] [(.ref a1), (.ref a1)])) (fun _ hr => XS.dup X25.here hx rfl (hb hby d1_14) rfl rfl hr) ?_
  obtain ⟨T26, X26, e26, st26⟩ := getF X25 hx hZ hown (host := "") (Or.inl (tw hw 18 rfl)) Via.refl e25 F_a1_spareCount (g := (mkF m 15 #[rv a1, .unset] [(.ref a1), (.ref a1)])) rfl rfl (hb hby d1_15)
  refine Goes.step (T2 := T26) (g2 := (mkF m 18 #[rv a1, .unset] [(.int (3 : Int32)), (.ref a1)])) st26 ?_
  refine Goes.step (T2 := T26) (g2 := (mkF m 19 #[rv a1, .unset] [(.int (1 : Int32)), (.int (3 : Int32)), (.ref a1)])) (fun _ hr => XS.iconst X26.here hx rfl (hb hby d1_18) hr) ?_
  refine Goes.step (T2 := T26) (g2 := (mkF m 20 #[rv a1, .unset] [(.int (2 : Int32)), (.ref a1)])) (fun _ hr => XS.isub X26.here hx rfl (hb hby d1_19) rfl hr) ?_
  obtain ⟨T27, h27, X27, e27, W27, st27⟩ := putF X26 hx hZ hown (host := "") (Or.inl (tw hw 18 rfl)) Via.refl e26 F_a1_spareCount E_a1 (Or.inl (tw hw 19 rfl)) (tw hw 1 rfl) (ty := .int) (by decide) rfl rfl (g := (mkF m 20 #[rv a1, .unset] [(.int (2 : Int32)), (.ref a1)])) rfl rfl (hb hby d1_20)
  have E_a1_27 : Exa Z h27 a1 "com/example/api_policy_gateway/apipolicygateway/net/BufferPool" := E_a1.wr W27
  have F_a1_spare_27 : Fld Z h27 a1 "com/example/api_policy_gateway/apipolicygateway/net/BufferPool" "spare" "[[B" (.ref sp) := F_a1_spare.other W27 (Or.inr (slot_ne (Or.inr (tw hw 12 rfl)) (Or.inl (tw hw 19 rfl)) (by decide) (t := (.array (.array .byte))) (t' := .int) (by decide) (by decide)))
  have V_sp_27 : Arv Z h27 sp k (.array .byte) (64 : Int32) [v0, v1, (.ref x)] .null := V_sp.other W27 (Ne.symm ne_a1_sp)
  have K27 : Keep h0 h27 [a1, sp] := K0.wr W27 (Or.inl (List.mem_of_getElem? (i := 0) rfl))
  have N27 := Fr.snoc X27 N0 ge_a1
  have F_a1_spareCount_27 : Fld Z h27 a1 "com/example/api_policy_gateway/apipolicygateway/net/BufferPool" "spareCount" "I" (.int (2 : Int32)) := F_a1_spareCount.same W27
  refine Goes.step (T2 := T27) (g2 := (mkF m 23 #[rv a1, .unset] [])) st27 ?_
  refine Goes.step (T2 := T27) (g2 := (mkF m 24 #[rv a1, .unset] [(.ref a1)])) (fun _ hr => XS.aloadN X27.here hx rfl (hb hby d1_23) rfl rfl hr) ?_
  obtain ⟨T28, X28, e28, st28⟩ := getF X27 hx hZ hown (host := "") (Or.inl (tw hw 11 rfl)) Via.refl e27 F_a1_spare_27 (g := (mkF m 24 #[rv a1, .unset] [(.ref a1)])) rfl rfl (hb hby d1_24)
  refine Goes.step (T2 := T28) (g2 := (mkF m 27 #[rv a1, .unset] [(.ref sp)])) st28 ?_
  refine Goes.step (T2 := T28) (g2 := (mkF m 28 #[rv a1, .unset] [(.ref a1), (.ref sp)])) (fun _ hr => XS.aloadN X28.here hx rfl (hb hby d1_27) rfl rfl hr) ?_
  obtain ⟨T29, X29, e29, st29⟩ := getF X28 hx hZ hown (host := "") (Or.inl (tw hw 18 rfl)) Via.refl e28 F_a1_spareCount_27 (g := (mkF m 28 #[rv a1, .unset] [(.ref a1), (.ref sp)])) rfl rfl (hb hby d1_28)
  refine Goes.step (T2 := T29) (g2 := (mkF m 31 #[rv a1, .unset] [(.int (2 : Int32)), (.ref sp)])) st29 ?_
  obtain ⟨cl30, Ar30, q30, S30, Nn30, H30, G30⟩ := id V_sp_27
  have hin30 : ¬ ((2 : Int32) < 0 ∨ cl30.slots.size ≤ ((2 : Int32)).toNatClampNeg) := inb_of S30 ⟨by decide, by decide⟩
  refine Goes.step (T2 := T29) (g2 := (mkF m 32 #[rv a1, .unset] [(.ref x)])) (X29.aaload hx (j := (2 : Int32)) (v := (.ref x)) (own_at e29 Ar30.1) (State.isArrayOf_alike hZ.alike Ar30.2.1) rfl Ar30.2.2 hin30 (H30.at hin30 rfl) (g := (mkF m 31 #[rv a1, .unset] [(.int (2 : Int32)), (.ref sp)])) rfl rfl (hb hby d1_31)) ?_
  refine Goes.step (T2 := T29) (g2 := (mkF m 33 #[rv a1, rv x] [])) (fun _ hr => XS.astoreN X29.here hx rfl (hb hby d1_32) rfl rfl (l' := #[rv a1, rv x]) rfl hr) ?_
  refine Goes.step (T2 := T29) (g2 := (mkF m 34 #[rv a1, rv x] [(.ref a1)])) (fun _ hr => XS.aloadN X29.here hx rfl (hb hby d1_33) rfl rfl hr) ?_
  obtain ⟨T31, X31, e31, st31⟩ := getF X29 hx hZ hown (host := "") (Or.inl (tw hw 11 rfl)) Via.refl e29 F_a1_spare_27 (g := (mkF m 34 #[rv a1, rv x] [(.ref a1)])) rfl rfl (hb hby d1_34)
  refine Goes.step (T2 := T31) (g2 := (mkF m 37 #[rv a1, rv x] [(.ref sp)])) st31 ?_
  refine Goes.step (T2 := T31) (g2 := (mkF m 38 #[rv a1, rv x] [(.ref a1), (.ref sp)])) (fun _ hr => XS.aloadN X31.here hx rfl (hb hby d1_37) rfl rfl hr) ?_
  obtain ⟨T32, X32, e32, st32⟩ := getF X31 hx hZ hown (host := "") (Or.inl (tw hw 18 rfl)) Via.refl e31 F_a1_spareCount_27 (g := (mkF m 38 #[rv a1, rv x] [(.ref a1), (.ref sp)])) rfl rfl (hb hby d1_38)
  refine Goes.step (T2 := T32) (g2 := (mkF m 41 #[rv a1, rv x] [(.int (2 : Int32)), (.ref sp)])) st32 ?_
  refine Goes.step (T2 := T32) (g2 := (mkF m 42 #[rv a1, rv x] [.null, (.int (2 : Int32)), (.ref sp)])) (fun _ hr => XS.aconstNull X32.here hx rfl (hb hby d1_41) hr) ?_
  obtain ⟨cl33, Ar33, q33, S33, Nn33, H33, G33⟩ := id V_sp_27
  have hin33 : ¬ ((2 : Int32) < 0 ∨ cl33.slots.size ≤ ((2 : Int32)).toNatClampNeg) := inb_of S33 ⟨by decide, by decide⟩
  obtain ⟨T33, h33, X33, e33, W33, st33⟩ := stR X32 hx hZ e32 Ar33 (j := (2 : Int32)) hin33 rfl (Or.inl rfl) (g := (mkF m 42 #[rv a1, rv x] [.null, (.int (2 : Int32)), (.ref sp)])) rfl rfl (hb hby d1_42)
  have E_a1_33 : Exa Z h33 a1 "com/example/api_policy_gateway/apipolicygateway/net/BufferPool" := E_a1_27.wr W33
  have F_a1_spare_33 : Fld Z h33 a1 "com/example/api_policy_gateway/apipolicygateway/net/BufferPool" "spare" "[[B" (.ref sp) := F_a1_spare_27.other W33 (Or.inl ne_a1_sp)
  have F_a1_spareCount_33 : Fld Z h33 a1 "com/example/api_policy_gateway/apipolicygateway/net/BufferPool" "spareCount" "I" (.int (2 : Int32)) := F_a1_spareCount_27.other W33 (Or.inl ne_a1_sp)
  have K33 : Keep h0 h33 [a1, sp] := K27.wr W33 (Or.inl (List.mem_of_getElem? (i := 1) rfl))
  have N33 := Fr.snoc X33 N27 ge_sp
  have V_sp_33 : Arv Z h33 sp k (.array .byte) (64 : Int32) [v0, v1, .null] .null := Arv.set Ar33 q33 S33 Nn33 H33 G33 rfl W33 2 rfl (Nat.le_of_ble_eq_true rfl)
  refine Goes.step (T2 := T33) (g2 := (mkF m 43 #[rv a1, rv x] [])) st33 ?_
  refine Goes.step (T2 := T33) (g2 := (mkF m 44 #[rv a1, rv x] [(.ref x)])) (fun _ hr => XS.aloadN X33.here hx rfl (hb hby d1_43) rfl rfl hr) ?_
  exact Goes.ret (v := some (.ref x)) X33 (by decide) (by decide) (fun h => by rw [Bd.returns] at h; cases h) (by show Q_rm_take3 Z a1 sp k v0 v1 x h0 n0 _ T33.heap _; rw [e33]; exact ⟨rfl, N33, K33, F_a1_spare_33, F_a1_spareCount_33, V_sp_33⟩) (fun fs hr => retOut X33 hx Bd.returns rfl (Or.inr (Or.inr (Or.inr (Or.inr ⟨rfl, rfl, rfl⟩)))) (hb hby d1_44) hr)
theorem d2_0 : decode prog_16_method_3_code 0 = .ok (.aload_n 1, 1) := by decide +kernel
theorem d2_1 : decode prog_16_method_3_code 1 = .ok (.arraylength, 1) := by decide +kernel
theorem d2_2 : decode prog_16_method_3_code 2 = .ok (.sipush 16384, 3) := by decide +kernel
theorem d2_5 : decode prog_16_method_3_code 5 = .ok (.if_icmp .eq 18, 3) := by decide +kernel
theorem d2_23 : decode prog_16_method_3_code 23 = .ok (.aload_n 0, 1) := by decide +kernel
theorem d2_24 : decode prog_16_method_3_code 24 = .ok (.getfield 15, 3) := by decide +kernel
theorem d2_27 : decode prog_16_method_3_code 27 = .ok (.aload_n 0, 1) := by decide +kernel
theorem d2_28 : decode prog_16_method_3_code 28 = .ok (.getfield 11, 3) := by decide +kernel
theorem d2_31 : decode prog_16_method_3_code 31 = .ok (.arraylength, 1) := by decide +kernel
theorem d2_32 : decode prog_16_method_3_code 32 = .ok (.if_icmp .ge 23, 3) := by decide +kernel
theorem d2_35 : decode prog_16_method_3_code 35 = .ok (.aload_n 0, 1) := by decide +kernel
theorem d2_36 : decode prog_16_method_3_code 36 = .ok (.getfield 11, 3) := by decide +kernel
theorem d2_39 : decode prog_16_method_3_code 39 = .ok (.aload_n 0, 1) := by decide +kernel
theorem d2_40 : decode prog_16_method_3_code 40 = .ok (.getfield 15, 3) := by decide +kernel
theorem d2_43 : decode prog_16_method_3_code 43 = .ok (.aload_n 1, 1) := by decide +kernel
theorem d2_44 : decode prog_16_method_3_code 44 = .ok (.aastore, 1) := by decide +kernel
theorem d2_45 : decode prog_16_method_3_code 45 = .ok (.aload_n 0, 1) := by decide +kernel
theorem d2_46 : decode prog_16_method_3_code 46 = .ok (.dup, 1) := by decide +kernel
theorem d2_47 : decode prog_16_method_3_code 47 = .ok (.getfield 15, 3) := by decide +kernel
theorem d2_50 : decode prog_16_method_3_code 50 = .ok (.iconst 1, 1) := by decide +kernel
theorem d2_51 : decode prog_16_method_3_code 51 = .ok (.iadd, 1) := by decide +kernel
theorem d2_52 : decode prog_16_method_3_code 52 = .ok (.putfield 15, 3) := by decide +kernel
theorem d2_55 : decode prog_16_method_3_code 55 = .ok (.return_, 1) := by decide +kernel
def Q_rm_give0 (Z : State) (a1 : Addr) (sp : Addr) (k : ClassId) (v0 : Value) (v1 : Value) (v2 : Value) (x : Addr) (h0 : Heap) (n0 : Nat) (v : Option Value) (h : Heap) (L : List Loc) : Prop := v = none ∧ Fr n0 L ∧ Keep h0 h [a1, sp] ∧ Fld Z h a1 "com/example/api_policy_gateway/apipolicygateway/net/BufferPool" "spare" "[[B" (.ref sp) ∧ Fld Z h a1 "com/example/api_policy_gateway/apipolicygateway/net/BufferPool" "spareCount" "I" (.int (1 : Int32)) ∧ Arv Z h sp k (.array .byte) (64 : Int32) [(.ref x), v1, v2] .null
set_option maxRecDepth 65536 in
set_option maxHeartbeats 40000000 in
theorem rm_give0 (l : Launch) (Z : State) (a0 : Array Value) (hw : ∀ d ∈ tables_1, d.before a0 Z = true) (ws : List Jvm.Cond) (a1 : Addr) (sp : Addr) (k : ClassId) (v0 : Value) (v1 : Value) (v2 : Value) (x : Addr) (h0 : Heap) (n0 : Nat) (Z0 : n0 ≤ h0.size) (O0 : Old Z n0 h0) (E_a1 : Exa Z h0 a1 "com/example/api_policy_gateway/apipolicygateway/net/BufferPool") (F_a1_spare : Fld Z h0 a1 "com/example/api_policy_gateway/apipolicygateway/net/BufferPool" "spare" "[[B" (.ref sp)) (F_a1_spareCount : Fld Z h0 a1 "com/example/api_policy_gateway/apipolicygateway/net/BufferPool" "spareCount" "I" (.int (0 : Int32))) (V_sp : Arv Z h0 sp k (.array .byte) (64 : Int32) [v0, v1, v2] .null) (E_x : Exa Z h0 x "[B") (L_x : LenB Z h0 x (16384 : Int32)) (ge_a1 : n0 ≤ a1) (ge_sp : n0 ≤ sp) (ne_a1_sp : a1 ≠ sp) (ne_x_a1 : x ≠ a1) (ne_x_sp : x ≠ sp) (Ov : OvrA Z k .byte "[B") :
    MetFree l Y2 (head1 (Jvm.Cond.code Y2 prog_16_method_3_code 2 none :: ws) ({ frames := 0, cells := 0, slots := 0, locals := 0 } : Room)) (fun a U => a = #[(.ref a1), (.ref x)] ∧ Z.Warmed39 U.vm ∧ U.heap = h0) (fun _ _ _ _ _ => True) (fun _ U o U' => ∃ v L, o = .returned v ∧ Q_rm_give0 Z a1 sp k v0 v1 v2 x h0 n0 v U'.heap L ∧ FrameEnd U o U' L ({ frames := 0, cells := 0, slots := 0, locals := 0 } : Room).cells ({ frames := 0, cells := 0, slots := 0, locals := 0 } : Room).slots) := by
  refine MetFree.of_bodySF (plainFor_of_name pn_com_example_api_policy_gateway_apipolicygateway_net_BufferPool) hisR ?_
  intro p e s m args below meth c s₁ Bd hml0 hP hK
  obtain ⟨rfl, hZ, hh⟩ := hP
  have hx := Bd.exec
  have hby := Bd.bytes
  have hml : c.maxLocals = 2 := hml0
  have hown : s.vm.findClass "com/example/api_policy_gateway/apipolicygateway/net/BufferPool" = some m.cls := findClass_of_methodNamed Bd.named
  have hnm := (name_of_methodNamed Bd.named Bd.method).1
  have X0 : Stand p l e ({ frames := 0, cells := 0, slots := 0, locals := 0 } : Room) s m #[(.ref a1), (.ref x)] below meth c s₁ [] 0 0 := Stand.of_body Bd
  have e0 : s₁.heap = h0 := by rw [← hh, Bd.state]; rfl
  have N0 := Fr.nil n0
  refine Goes.out (l := l) (c := c) (R := ({ frames := 0, cells := 0, slots := 0, locals := 0 } : Room)) (Q := Q_rm_give0 Z a1 sp k v0 v1 v2 x h0 n0) Bd.notSynchronized ?_
  refine Goes.cast (g2 := mkF m 0 #[rv a1, rv x] []) (by first | (simp [entryFrame, mkF, argsToLocals, Value.category]; done) | rfl) ?_
  have K0 : Keep h0 h0 [a1, sp] := Keep.refl h0 _
  have hws : ∀ x ∈ [a1, sp], n0 ≤ x := (allS ge_a1 (allS ge_sp all0))
  refine Goes.step (T2 := s₁) (g2 := (mkF m 1 #[rv a1, rv x] [(.ref x)])) (fun _ hr => XS.aloadN X0.here hx rfl (hb hby d2_0) rfl rfl hr) ?_
  obtain ⟨cl34, Ar34, S34, Nn34⟩ := id L_x
  refine Goes.step (T2 := s₁) (g2 := (mkF m 2 #[rv a1, rv x] [(.int (16384 : Int32))])) (fun t hr => X0.arraylength hx (own_at e0 Ar34.1) (State.isArrayOf_alike hZ.alike Ar34.2.1) (g := (mkF m 1 #[rv a1, rv x] [(.ref x)])) rfl rfl (hb hby d2_1) t (by rw [len_of S34 Nn34]; exact hr)) ?_
  refine Goes.step (T2 := s₁) (g2 := (mkF m 5 #[rv a1, rv x] [(.int (16384 : Int32)), (.int (16384 : Int32))])) (fun _ hr => XS.sipush X0.here hx rfl (hb hby d2_2) hr) ?_
  refine Goes.step (T2 := s₁) (g2 := (mkF m 23 #[rv a1, rv x] [])) (fun _ hr => XS.icmpYes X0.here hx rfl (pc0 := 5) (pc' := 23) rfl (hb hby d2_5) rfl (teq (by decide : (16384 : Int32) = (16384 : Int32))).1 (by decide) (by decide) hr) ?_
  refine Goes.step (T2 := s₁) (g2 := (mkF m 24 #[rv a1, rv x] [(.ref a1)])) (fun _ hr => XS.aloadN X0.here hx rfl (hb hby d2_23) rfl rfl hr) ?_
  obtain ⟨T35, X35, e35, st35⟩ := getF X0 hx hZ hown (host := "") (Or.inl (tw hw 18 rfl)) Via.refl e0 F_a1_spareCount (g := (mkF m 24 #[rv a1, rv x] [(.ref a1)])) rfl rfl (hb hby d2_24)
  refine Goes.step (T2 := T35) (g2 := (mkF m 27 #[rv a1, rv x] [(.int (0 : Int32))])) st35 ?_
  refine Goes.step (T2 := T35) (g2 := (mkF m 28 #[rv a1, rv x] [(.ref a1), (.int (0 : Int32))])) (fun _ hr => XS.aloadN X35.here hx rfl (hb hby d2_27) rfl rfl hr) ?_
  obtain ⟨T36, X36, e36, st36⟩ := getF X35 hx hZ hown (host := "") (Or.inl (tw hw 11 rfl)) Via.refl e35 F_a1_spare (g := (mkF m 28 #[rv a1, rv x] [(.ref a1), (.int (0 : Int32))])) rfl rfl (hb hby d2_28)
  refine Goes.step (T2 := T36) (g2 := (mkF m 31 #[rv a1, rv x] [(.ref sp), (.int (0 : Int32))])) st36 ?_
  obtain ⟨cl37, Ar37, -, S37, Nn37, -, -⟩ := id V_sp
  refine Goes.step (T2 := T36) (g2 := (mkF m 32 #[rv a1, rv x] [(.int (64 : Int32)), (.int (0 : Int32))])) (fun t hr => X36.arraylength hx (own_at e36 Ar37.1) (State.isArrayOf_alike hZ.alike Ar37.2.1) (g := (mkF m 31 #[rv a1, rv x] [(.ref sp), (.int (0 : Int32))])) rfl rfl (hb hby d2_31) t (by rw [len_of S37 Nn37]; exact hr)) ?_
  refine Goes.step (T2 := T36) (g2 := (mkF m 35 #[rv a1, rv x] [])) (fun _ hr => XS.icmpNo X36.here hx rfl (hb hby d2_32) rfl (tlt (by decide : (0 : Int32) < (64 : Int32))).2.1 hr) ?_
  refine Goes.step (T2 := T36) (g2 := (mkF m 36 #[rv a1, rv x] [(.ref a1)])) (fun _ hr => XS.aloadN X36.here hx rfl (hb hby d2_35) rfl rfl hr) ?_
  obtain ⟨T38, X38, e38, st38⟩ := getF X36 hx hZ hown (host := "") (Or.inl (tw hw 11 rfl)) Via.refl e36 F_a1_spare (g := (mkF m 36 #[rv a1, rv x] [(.ref a1)])) rfl rfl (hb hby d2_36)
  refine Goes.step (T2 := T38) (g2 := (mkF m 39 #[rv a1, rv x] [(.ref sp)])) st38 ?_
  refine Goes.step (T2 := T38) (g2 := (mkF m 40 #[rv a1, rv x] [(.ref a1), (.ref sp)])) (fun _ hr => XS.aloadN X38.here hx rfl (hb hby d2_39) rfl rfl hr) ?_
  obtain ⟨T39, X39, e39, st39⟩ := getF X38 hx hZ hown (host := "") (Or.inl (tw hw 18 rfl)) Via.refl e38 F_a1_spareCount (g := (mkF m 40 #[rv a1, rv x] [(.ref a1), (.ref sp)])) rfl rfl (hb hby d2_40)
  refine Goes.step (T2 := T39) (g2 := (mkF m 43 #[rv a1, rv x] [(.int (0 : Int32)), (.ref sp)])) st39 ?_
  refine Goes.step (T2 := T39) (g2 := (mkF m 44 #[rv a1, rv x] [(.ref x), (.int (0 : Int32)), (.ref sp)])) (fun _ hr => XS.aloadN X39.here hx rfl (hb hby d2_43) rfl rfl hr) ?_
  obtain ⟨cl40, Ar40, q40, S40, Nn40, H40, G40⟩ := id V_sp
  have hin40 : ¬ ((0 : Int32) < 0 ∨ cl40.slots.size ≤ ((0 : Int32)).toNatClampNeg) := inb_of S40 ⟨by decide, by decide⟩
  obtain ⟨T40, h40, X40, e40, W40, st40⟩ := stR X39 hx hZ e39 Ar40 (j := (0 : Int32)) hin40 rfl (Sto.ofVA Ar40 q40 Ov (Ins.self E_x)) (g := (mkF m 44 #[rv a1, rv x] [(.ref x), (.int (0 : Int32)), (.ref sp)])) rfl rfl (hb hby d2_44)
  have E_a1_40 : Exa Z h40 a1 "com/example/api_policy_gateway/apipolicygateway/net/BufferPool" := E_a1.wr W40
  have F_a1_spare_40 : Fld Z h40 a1 "com/example/api_policy_gateway/apipolicygateway/net/BufferPool" "spare" "[[B" (.ref sp) := F_a1_spare.other W40 (Or.inl ne_a1_sp)
  have F_a1_spareCount_40 : Fld Z h40 a1 "com/example/api_policy_gateway/apipolicygateway/net/BufferPool" "spareCount" "I" (.int (0 : Int32)) := F_a1_spareCount.other W40 (Or.inl ne_a1_sp)
  have E_x_40 : Exa Z h40 x "[B" := E_x.wr W40
  have L_x_40 : LenB Z h40 x (16384 : Int32) := L_x.other W40 ne_x_sp
  have K40 : Keep h0 h40 [a1, sp] := K0.wr W40 (Or.inl (List.mem_of_getElem? (i := 1) rfl))
  have N40 := Fr.snoc X40 N0 ge_sp
  have V_sp_40 : Arv Z h40 sp k (.array .byte) (64 : Int32) [(.ref x), v1, v2] .null := Arv.set Ar40 q40 S40 Nn40 H40 G40 rfl W40 0 rfl (Nat.le_of_ble_eq_true rfl)
  refine Goes.step (T2 := T40) (g2 := (mkF m 45 #[rv a1, rv x] [])) st40 ?_
  refine Goes.step (T2 := T40) (g2 := (mkF m 46 #[rv a1, rv x] [(.ref a1)])) (fun _ hr => XS.aloadN X40.here hx rfl (hb hby d2_45) rfl rfl hr) ?_
  refine Goes.step (T2 := T40) (g2 := (mkF m 47 #[rv a1, rv x] [(.ref a1), (.ref a1)])) (fun _ hr => XS.dup X40.here hx rfl (hb hby d2_46) rfl rfl hr) ?_
  obtain ⟨T41, X41, e41, st41⟩ := getF X40 hx hZ hown (host := "") (Or.inl (tw hw 18 rfl)) Via.refl e40 F_a1_spareCount_40 (g := (mkF m 47 #[rv a1, rv x] [(.ref a1), (.ref a1)])) rfl rfl (hb hby d2_47)
  refine Goes.step (T2 := T41) (g2 := (mkF m 50 #[rv a1, rv x] [(.int (0 : Int32)), (.ref a1)])) st41 ?_
  refine Goes.step (T2 := T41) (g2 := (mkF m 51 #[rv a1, rv x] [(.int (1 : Int32)), (.int (0 : Int32)), (.ref a1)])) (fun _ hr => XS.iconst X41.here hx rfl (hb hby d2_50) hr) ?_
  refine Goes.step (T2 := T41) (g2 := (mkF m 52 #[rv a1, rv x] [(.int (1 : Int32)), (.ref a1)])) (fun _ hr => XS.iadd X41.here hx rfl (hb hby d2_51) rfl hr) ?_
  obtain ⟨T42, h42, X42, e42, W42, st42⟩ := putF X41 hx hZ hown (host := "") (Or.inl (tw hw 18 rfl)) Via.refl e41 F_a1_spareCount_40 E_a1_40 (Or.inl (tw hw 19 rfl)) (tw hw 1 rfl) (ty := .int) (by decide) rfl rfl (g := (mkF m 52 #[rv a1, rv x] [(.int (1 : Int32)), (.ref a1)])) rfl rfl (hb hby d2_52)
  have E_a1_42 : Exa Z h42 a1 "com/example/api_policy_gateway/apipolicygateway/net/BufferPool" := E_a1_40.wr W42
  have F_a1_spare_42 : Fld Z h42 a1 "com/example/api_policy_gateway/apipolicygateway/net/BufferPool" "spare" "[[B" (.ref sp) := F_a1_spare_40.other W42 (Or.inr (slot_ne (Or.inr (tw hw 12 rfl)) (Or.inl (tw hw 19 rfl)) (by decide) (t := (.array (.array .byte))) (t' := .int) (by decide) (by decide)))
  have E_x_42 : Exa Z h42 x "[B" := E_x_40.wr W42
  have L_x_42 : LenB Z h42 x (16384 : Int32) := L_x_40.other W42 ne_x_a1
  have V_sp_42 : Arv Z h42 sp k (.array .byte) (64 : Int32) [(.ref x), v1, v2] .null := V_sp_40.other W42 (Ne.symm ne_a1_sp)
  have K42 : Keep h0 h42 [a1, sp] := K40.wr W42 (Or.inl (List.mem_of_getElem? (i := 0) rfl))
  have N42 := Fr.snoc X42 N40 ge_a1
  have F_a1_spareCount_42 : Fld Z h42 a1 "com/example/api_policy_gateway/apipolicygateway/net/BufferPool" "spareCount" "I" (.int (1 : Int32)) := F_a1_spareCount_40.same W42
  refine Goes.step (T2 := T42) (g2 := (mkF m 55 #[rv a1, rv x] [])) st42 ?_
  exact Goes.ret (v := none) X42 (by decide) (by decide) (fun _ => rfl) (by show Q_rm_give0 Z a1 sp k v0 v1 v2 x h0 n0 _ T42.heap _; rw [e42]; exact ⟨rfl, N42, K42, F_a1_spare_42, F_a1_spareCount_42, V_sp_42⟩) (fun fs hr => X42.returnOut hx Bd.returns (hb hby d2_55) hr)
def Q_rm_give1 (Z : State) (a1 : Addr) (sp : Addr) (k : ClassId) (v0 : Value) (v1 : Value) (v2 : Value) (x : Addr) (h0 : Heap) (n0 : Nat) (v : Option Value) (h : Heap) (L : List Loc) : Prop := v = none ∧ Fr n0 L ∧ Keep h0 h [a1, sp] ∧ Fld Z h a1 "com/example/api_policy_gateway/apipolicygateway/net/BufferPool" "spare" "[[B" (.ref sp) ∧ Fld Z h a1 "com/example/api_policy_gateway/apipolicygateway/net/BufferPool" "spareCount" "I" (.int (2 : Int32)) ∧ Arv Z h sp k (.array .byte) (64 : Int32) [v0, (.ref x), v2] .null
set_option maxRecDepth 65536 in
set_option maxHeartbeats 40000000 in
theorem rm_give1 (l : Launch) (Z : State) (a0 : Array Value) (hw : ∀ d ∈ tables_1, d.before a0 Z = true) (ws : List Jvm.Cond) (a1 : Addr) (sp : Addr) (k : ClassId) (v0 : Value) (v1 : Value) (v2 : Value) (x : Addr) (h0 : Heap) (n0 : Nat) (Z0 : n0 ≤ h0.size) (O0 : Old Z n0 h0) (E_a1 : Exa Z h0 a1 "com/example/api_policy_gateway/apipolicygateway/net/BufferPool") (F_a1_spare : Fld Z h0 a1 "com/example/api_policy_gateway/apipolicygateway/net/BufferPool" "spare" "[[B" (.ref sp)) (F_a1_spareCount : Fld Z h0 a1 "com/example/api_policy_gateway/apipolicygateway/net/BufferPool" "spareCount" "I" (.int (1 : Int32))) (V_sp : Arv Z h0 sp k (.array .byte) (64 : Int32) [v0, v1, v2] .null) (E_x : Exa Z h0 x "[B") (L_x : LenB Z h0 x (16384 : Int32)) (ge_a1 : n0 ≤ a1) (ge_sp : n0 ≤ sp) (ne_a1_sp : a1 ≠ sp) (ne_x_a1 : x ≠ a1) (ne_x_sp : x ≠ sp) (Ov : OvrA Z k .byte "[B") :
    MetFree l Y2 (head1 (Jvm.Cond.code Y2 prog_16_method_3_code 2 none :: ws) ({ frames := 0, cells := 0, slots := 0, locals := 0 } : Room)) (fun a U => a = #[(.ref a1), (.ref x)] ∧ Z.Warmed39 U.vm ∧ U.heap = h0) (fun _ _ _ _ _ => True) (fun _ U o U' => ∃ v L, o = .returned v ∧ Q_rm_give1 Z a1 sp k v0 v1 v2 x h0 n0 v U'.heap L ∧ FrameEnd U o U' L ({ frames := 0, cells := 0, slots := 0, locals := 0 } : Room).cells ({ frames := 0, cells := 0, slots := 0, locals := 0 } : Room).slots) := by
  refine MetFree.of_bodySF (plainFor_of_name pn_com_example_api_policy_gateway_apipolicygateway_net_BufferPool) hisR ?_
  intro p e s m args below meth c s₁ Bd hml0 hP hK
  obtain ⟨rfl, hZ, hh⟩ := hP
  have hx := Bd.exec
  have hby := Bd.bytes
  have hml : c.maxLocals = 2 := hml0
  have hown : s.vm.findClass "com/example/api_policy_gateway/apipolicygateway/net/BufferPool" = some m.cls := findClass_of_methodNamed Bd.named
  have hnm := (name_of_methodNamed Bd.named Bd.method).1
  have X0 : Stand p l e ({ frames := 0, cells := 0, slots := 0, locals := 0 } : Room) s m #[(.ref a1), (.ref x)] below meth c s₁ [] 0 0 := Stand.of_body Bd
  have e0 : s₁.heap = h0 := by rw [← hh, Bd.state]; rfl
  have N0 := Fr.nil n0
  refine Goes.out (l := l) (c := c) (R := ({ frames := 0, cells := 0, slots := 0, locals := 0 } : Room)) (Q := Q_rm_give1 Z a1 sp k v0 v1 v2 x h0 n0) Bd.notSynchronized ?_
  refine Goes.cast (g2 := mkF m 0 #[rv a1, rv x] []) (by first | (simp [entryFrame, mkF, argsToLocals, Value.category]; done) | rfl) ?_
  have K0 : Keep h0 h0 [a1, sp] := Keep.refl h0 _
  have hws : ∀ x ∈ [a1, sp], n0 ≤ x := (allS ge_a1 (allS ge_sp all0))
  refine Goes.step (T2 := s₁) (g2 := (mkF m 1 #[rv a1, rv x] [(.ref x)])) (fun _ hr => XS.aloadN X0.here hx rfl (hb hby d2_0) rfl rfl hr) ?_
  obtain ⟨cl43, Ar43, S43, Nn43⟩ := id L_x
  refine Goes.step (T2 := s₁) (g2 := (mkF m 2 #[rv a1, rv x] [(.int (16384 : Int32))])) (fun t hr => X0.arraylength hx (own_at e0 Ar43.1) (State.isArrayOf_alike hZ.alike Ar43.2.1) (g := (mkF m 1 #[rv a1, rv x] [(.ref x)])) rfl rfl (hb hby d2_1) t (by rw [len_of S43 Nn43]; exact hr)) ?_
  refine Goes.step (T2 := s₁) (g2 := (mkF m 5 #[rv a1, rv x] [(.int (16384 : Int32)), (.int (16384 : Int32))])) (fun _ hr => XS.sipush X0.here hx rfl (hb hby d2_2) hr) ?_
  refine Goes.step (T2 := s₁) (g2 := (mkF m 23 #[rv a1, rv x] [])) (fun _ hr => XS.icmpYes X0.here hx rfl (pc0 := 5) (pc' := 23) rfl (hb hby d2_5) rfl (teq (by decide : (16384 : Int32) = (16384 : Int32))).1 (by decide) (by decide) hr) ?_
  refine Goes.step (T2 := s₁) (g2 := (mkF m 24 #[rv a1, rv x] [(.ref a1)])) (fun _ hr => XS.aloadN X0.here hx rfl (hb hby d2_23) rfl rfl hr) ?_
  obtain ⟨T44, X44, e44, st44⟩ := getF X0 hx hZ hown (host := "") (Or.inl (tw hw 18 rfl)) Via.refl e0 F_a1_spareCount (g := (mkF m 24 #[rv a1, rv x] [(.ref a1)])) rfl rfl (hb hby d2_24)
  refine Goes.step (T2 := T44) (g2 := (mkF m 27 #[rv a1, rv x] [(.int (1 : Int32))])) st44 ?_
  refine Goes.step (T2 := T44) (g2 := (mkF m 28 #[rv a1, rv x] [(.ref a1), (.int (1 : Int32))])) (fun _ hr => XS.aloadN X44.here hx rfl (hb hby d2_27) rfl rfl hr) ?_
  obtain ⟨T45, X45, e45, st45⟩ := getF X44 hx hZ hown (host := "") (Or.inl (tw hw 11 rfl)) Via.refl e44 F_a1_spare (g := (mkF m 28 #[rv a1, rv x] [(.ref a1), (.int (1 : Int32))])) rfl rfl (hb hby d2_28)
  refine Goes.step (T2 := T45) (g2 := (mkF m 31 #[rv a1, rv x] [(.ref sp), (.int (1 : Int32))])) st45 ?_
  obtain ⟨cl46, Ar46, -, S46, Nn46, -, -⟩ := id V_sp
  refine Goes.step (T2 := T45) (g2 := (mkF m 32 #[rv a1, rv x] [(.int (64 : Int32)), (.int (1 : Int32))])) (fun t hr => X45.arraylength hx (own_at e45 Ar46.1) (State.isArrayOf_alike hZ.alike Ar46.2.1) (g := (mkF m 31 #[rv a1, rv x] [(.ref sp), (.int (1 : Int32))])) rfl rfl (hb hby d2_31) t (by rw [len_of S46 Nn46]; exact hr)) ?_
  refine Goes.step (T2 := T45) (g2 := (mkF m 35 #[rv a1, rv x] [])) (fun _ hr => XS.icmpNo X45.here hx rfl (hb hby d2_32) rfl (tlt (by decide : (1 : Int32) < (64 : Int32))).2.1 hr) ?_
  refine Goes.step (T2 := T45) (g2 := (mkF m 36 #[rv a1, rv x] [(.ref a1)])) (fun _ hr => XS.aloadN X45.here hx rfl (hb hby d2_35) rfl rfl hr) ?_
  obtain ⟨T47, X47, e47, st47⟩ := getF X45 hx hZ hown (host := "") (Or.inl (tw hw 11 rfl)) Via.refl e45 F_a1_spare (g := (mkF m 36 #[rv a1, rv x] [(.ref a1)])) rfl rfl (hb hby d2_36)
  refine Goes.step (T2 := T47) (g2 := (mkF m 39 #[rv a1, rv x] [(.ref sp)])) st47 ?_
  refine Goes.step (T2 := T47) (g2 := (mkF m 40 #[rv a1, rv x] [(.ref a1), (.ref sp)])) (fun _ hr => XS.aloadN X47.here hx rfl (hb hby d2_39) rfl rfl hr) ?_
  obtain ⟨T48, X48, e48, st48⟩ := getF X47 hx hZ hown (host := "") (Or.inl (tw hw 18 rfl)) Via.refl e47 F_a1_spareCount (g := (mkF m 40 #[rv a1, rv x] [(.ref a1), (.ref sp)])) rfl rfl (hb hby d2_40)
  refine Goes.step (T2 := T48) (g2 := (mkF m 43 #[rv a1, rv x] [(.int (1 : Int32)), (.ref sp)])) st48 ?_
  refine Goes.step (T2 := T48) (g2 := (mkF m 44 #[rv a1, rv x] [(.ref x), (.int (1 : Int32)), (.ref sp)])) (fun _ hr => XS.aloadN X48.here hx rfl (hb hby d2_43) rfl rfl hr) ?_
  obtain ⟨cl49, Ar49, q49, S49, Nn49, H49, G49⟩ := id V_sp
  have hin49 : ¬ ((1 : Int32) < 0 ∨ cl49.slots.size ≤ ((1 : Int32)).toNatClampNeg) := inb_of S49 ⟨by decide, by decide⟩
  obtain ⟨T49, h49, X49, e49, W49, st49⟩ := stR X48 hx hZ e48 Ar49 (j := (1 : Int32)) hin49 rfl (Sto.ofVA Ar49 q49 Ov (Ins.self E_x)) (g := (mkF m 44 #[rv a1, rv x] [(.ref x), (.int (1 : Int32)), (.ref sp)])) rfl rfl (hb hby d2_44)
  have E_a1_49 : Exa Z h49 a1 "com/example/api_policy_gateway/apipolicygateway/net/BufferPool" := E_a1.wr W49
  have F_a1_spare_49 : Fld Z h49 a1 "com/example/api_policy_gateway/apipolicygateway/net/BufferPool" "spare" "[[B" (.ref sp) := F_a1_spare.other W49 (Or.inl ne_a1_sp)
  have F_a1_spareCount_49 : Fld Z h49 a1 "com/example/api_policy_gateway/apipolicygateway/net/BufferPool" "spareCount" "I" (.int (1 : Int32)) := F_a1_spareCount.other W49 (Or.inl ne_a1_sp)
  have E_x_49 : Exa Z h49 x "[B" := E_x.wr W49
  have L_x_49 : LenB Z h49 x (16384 : Int32) := L_x.other W49 ne_x_sp
  have K49 : Keep h0 h49 [a1, sp] := K0.wr W49 (Or.inl (List.mem_of_getElem? (i := 1) rfl))
  have N49 := Fr.snoc X49 N0 ge_sp
  have V_sp_49 : Arv Z h49 sp k (.array .byte) (64 : Int32) [v0, (.ref x), v2] .null := Arv.set Ar49 q49 S49 Nn49 H49 G49 rfl W49 1 rfl (Nat.le_of_ble_eq_true rfl)
  refine Goes.step (T2 := T49) (g2 := (mkF m 45 #[rv a1, rv x] [])) st49 ?_
  refine Goes.step (T2 := T49) (g2 := (mkF m 46 #[rv a1, rv x] [(.ref a1)])) (fun _ hr => XS.aloadN X49.here hx rfl (hb hby d2_45) rfl rfl hr) ?_
  refine Goes.step (T2 := T49) (g2 := (mkF m 47 #[rv a1, rv x] [(.ref a1), (.ref a1)])) (fun _ hr => XS.dup X49.here hx rfl (hb hby d2_46) rfl rfl hr) ?_
  obtain ⟨T50, X50, e50, st50⟩ := getF X49 hx hZ hown (host := "") (Or.inl (tw hw 18 rfl)) Via.refl e49 F_a1_spareCount_49 (g := (mkF m 47 #[rv a1, rv x] [(.ref a1), (.ref a1)])) rfl rfl (hb hby d2_47)
  refine Goes.step (T2 := T50) (g2 := (mkF m 50 #[rv a1, rv x] [(.int (1 : Int32)), (.ref a1)])) st50 ?_
  refine Goes.step (T2 := T50) (g2 := (mkF m 51 #[rv a1, rv x] [(.int (1 : Int32)), (.int (1 : Int32)), (.ref a1)])) (fun _ hr => XS.iconst X50.here hx rfl (hb hby d2_50) hr) ?_
  refine Goes.step (T2 := T50) (g2 := (mkF m 52 #[rv a1, rv x] [(.int (2 : Int32)), (.ref a1)])) (fun _ hr => XS.iadd X50.here hx rfl (hb hby d2_51) rfl hr) ?_
  obtain ⟨T51, h51, X51, e51, W51, st51⟩ := putF X50 hx hZ hown (host := "") (Or.inl (tw hw 18 rfl)) Via.refl e50 F_a1_spareCount_49 E_a1_49 (Or.inl (tw hw 19 rfl)) (tw hw 1 rfl) (ty := .int) (by decide) rfl rfl (g := (mkF m 52 #[rv a1, rv x] [(.int (2 : Int32)), (.ref a1)])) rfl rfl (hb hby d2_52)
  have E_a1_51 : Exa Z h51 a1 "com/example/api_policy_gateway/apipolicygateway/net/BufferPool" := E_a1_49.wr W51
  have F_a1_spare_51 : Fld Z h51 a1 "com/example/api_policy_gateway/apipolicygateway/net/BufferPool" "spare" "[[B" (.ref sp) := F_a1_spare_49.other W51 (Or.inr (slot_ne (Or.inr (tw hw 12 rfl)) (Or.inl (tw hw 19 rfl)) (by decide) (t := (.array (.array .byte))) (t' := .int) (by decide) (by decide)))
  have E_x_51 : Exa Z h51 x "[B" := E_x_49.wr W51
  have L_x_51 : LenB Z h51 x (16384 : Int32) := L_x_49.other W51 ne_x_a1
  have V_sp_51 : Arv Z h51 sp k (.array .byte) (64 : Int32) [v0, (.ref x), v2] .null := V_sp_49.other W51 (Ne.symm ne_a1_sp)
  have K51 : Keep h0 h51 [a1, sp] := K49.wr W51 (Or.inl (List.mem_of_getElem? (i := 0) rfl))
  have N51 := Fr.snoc X51 N49 ge_a1
  have F_a1_spareCount_51 : Fld Z h51 a1 "com/example/api_policy_gateway/apipolicygateway/net/BufferPool" "spareCount" "I" (.int (2 : Int32)) := F_a1_spareCount_49.same W51
  refine Goes.step (T2 := T51) (g2 := (mkF m 55 #[rv a1, rv x] [])) st51 ?_
  exact Goes.ret (v := none) X51 (by decide) (by decide) (fun _ => rfl) (by show Q_rm_give1 Z a1 sp k v0 v1 v2 x h0 n0 _ T51.heap _; rw [e51]; exact ⟨rfl, N51, K51, F_a1_spare_51, F_a1_spareCount_51, V_sp_51⟩) (fun fs hr => X51.returnOut hx Bd.returns (hb hby d2_55) hr)
def Q_rm_give2 (Z : State) (a1 : Addr) (sp : Addr) (k : ClassId) (v0 : Value) (v1 : Value) (v2 : Value) (x : Addr) (h0 : Heap) (n0 : Nat) (v : Option Value) (h : Heap) (L : List Loc) : Prop := v = none ∧ Fr n0 L ∧ Keep h0 h [a1, sp] ∧ Fld Z h a1 "com/example/api_policy_gateway/apipolicygateway/net/BufferPool" "spare" "[[B" (.ref sp) ∧ Fld Z h a1 "com/example/api_policy_gateway/apipolicygateway/net/BufferPool" "spareCount" "I" (.int (3 : Int32)) ∧ Arv Z h sp k (.array .byte) (64 : Int32) [v0, v1, (.ref x)] .null
set_option maxRecDepth 65536 in
set_option maxHeartbeats 40000000 in
theorem rm_give2 (l : Launch) (Z : State) (a0 : Array Value) (hw : ∀ d ∈ tables_1, d.before a0 Z = true) (ws : List Jvm.Cond) (a1 : Addr) (sp : Addr) (k : ClassId) (v0 : Value) (v1 : Value) (v2 : Value) (x : Addr) (h0 : Heap) (n0 : Nat) (Z0 : n0 ≤ h0.size) (O0 : Old Z n0 h0) (E_a1 : Exa Z h0 a1 "com/example/api_policy_gateway/apipolicygateway/net/BufferPool") (F_a1_spare : Fld Z h0 a1 "com/example/api_policy_gateway/apipolicygateway/net/BufferPool" "spare" "[[B" (.ref sp)) (F_a1_spareCount : Fld Z h0 a1 "com/example/api_policy_gateway/apipolicygateway/net/BufferPool" "spareCount" "I" (.int (2 : Int32))) (V_sp : Arv Z h0 sp k (.array .byte) (64 : Int32) [v0, v1, v2] .null) (E_x : Exa Z h0 x "[B") (L_x : LenB Z h0 x (16384 : Int32)) (ge_a1 : n0 ≤ a1) (ge_sp : n0 ≤ sp) (ne_a1_sp : a1 ≠ sp) (ne_x_a1 : x ≠ a1) (ne_x_sp : x ≠ sp) (Ov : OvrA Z k .byte "[B") :
    MetFree l Y2 (head1 (Jvm.Cond.code Y2 prog_16_method_3_code 2 none :: ws) ({ frames := 0, cells := 0, slots := 0, locals := 0 } : Room)) (fun a U => a = #[(.ref a1), (.ref x)] ∧ Z.Warmed39 U.vm ∧ U.heap = h0) (fun _ _ _ _ _ => True) (fun _ U o U' => ∃ v L, o = .returned v ∧ Q_rm_give2 Z a1 sp k v0 v1 v2 x h0 n0 v U'.heap L ∧ FrameEnd U o U' L ({ frames := 0, cells := 0, slots := 0, locals := 0 } : Room).cells ({ frames := 0, cells := 0, slots := 0, locals := 0 } : Room).slots) := by
  refine MetFree.of_bodySF (plainFor_of_name pn_com_example_api_policy_gateway_apipolicygateway_net_BufferPool) hisR ?_
  intro p e s m args below meth c s₁ Bd hml0 hP hK
  obtain ⟨rfl, hZ, hh⟩ := hP
  have hx := Bd.exec
  have hby := Bd.bytes
  have hml : c.maxLocals = 2 := hml0
  have hown : s.vm.findClass "com/example/api_policy_gateway/apipolicygateway/net/BufferPool" = some m.cls := findClass_of_methodNamed Bd.named
  have hnm := (name_of_methodNamed Bd.named Bd.method).1
  have X0 : Stand p l e ({ frames := 0, cells := 0, slots := 0, locals := 0 } : Room) s m #[(.ref a1), (.ref x)] below meth c s₁ [] 0 0 := Stand.of_body Bd
  have e0 : s₁.heap = h0 := by rw [← hh, Bd.state]; rfl
  have N0 := Fr.nil n0
  refine Goes.out (l := l) (c := c) (R := ({ frames := 0, cells := 0, slots := 0, locals := 0 } : Room)) (Q := Q_rm_give2 Z a1 sp k v0 v1 v2 x h0 n0) Bd.notSynchronized ?_
  refine Goes.cast (g2 := mkF m 0 #[rv a1, rv x] []) (by first | (simp [entryFrame, mkF, argsToLocals, Value.category]; done) | rfl) ?_
  have K0 : Keep h0 h0 [a1, sp] := Keep.refl h0 _
  have hws : ∀ x ∈ [a1, sp], n0 ≤ x := (allS ge_a1 (allS ge_sp all0))
  refine Goes.step (T2 := s₁) (g2 := (mkF m 1 #[rv a1, rv x] [(.ref x)])) (fun _ hr => XS.aloadN X0.here hx rfl (hb hby d2_0) rfl rfl hr) ?_
  obtain ⟨cl52, Ar52, S52, Nn52⟩ := id L_x
  refine Goes.step (T2 := s₁) (g2 := (mkF m 2 #[rv a1, rv x] [(.int (16384 : Int32))])) (fun t hr => X0.arraylength hx (own_at e0 Ar52.1) (State.isArrayOf_alike hZ.alike Ar52.2.1) (g := (mkF m 1 #[rv a1, rv x] [(.ref x)])) rfl rfl (hb hby d2_1) t (by rw [len_of S52 Nn52]; exact hr)) ?_
  refine Goes.step (T2 := s₁) (g2 := (mkF m 5 #[rv a1, rv x] [(.int (16384 : Int32)), (.int (16384 : Int32))])) (fun _ hr => XS.sipush X0.here hx rfl (hb hby d2_2) hr) ?_
  refine Goes.step (T2 := s₁) (g2 := (mkF m 23 #[rv a1, rv x] [])) (fun _ hr => XS.icmpYes X0.here hx rfl (pc0 := 5) (pc' := 23) rfl (hb hby d2_5) rfl (teq (by decide : (16384 : Int32) = (16384 : Int32))).1 (by decide) (by decide) hr) ?_
  refine Goes.step (T2 := s₁) (g2 := (mkF m 24 #[rv a1, rv x] [(.ref a1)])) (fun _ hr => XS.aloadN X0.here hx rfl (hb hby d2_23) rfl rfl hr) ?_
  obtain ⟨T53, X53, e53, st53⟩ := getF X0 hx hZ hown (host := "") (Or.inl (tw hw 18 rfl)) Via.refl e0 F_a1_spareCount (g := (mkF m 24 #[rv a1, rv x] [(.ref a1)])) rfl rfl (hb hby d2_24)
  refine Goes.step (T2 := T53) (g2 := (mkF m 27 #[rv a1, rv x] [(.int (2 : Int32))])) st53 ?_
  refine Goes.step (T2 := T53) (g2 := (mkF m 28 #[rv a1, rv x] [(.ref a1), (.int (2 : Int32))])) (fun _ hr => XS.aloadN X53.here hx rfl (hb hby d2_27) rfl rfl hr) ?_
  obtain ⟨T54, X54, e54, st54⟩ := getF X53 hx hZ hown (host := "") (Or.inl (tw hw 11 rfl)) Via.refl e53 F_a1_spare (g := (mkF m 28 #[rv a1, rv x] [(.ref a1), (.int (2 : Int32))])) rfl rfl (hb hby d2_28)
  refine Goes.step (T2 := T54) (g2 := (mkF m 31 #[rv a1, rv x] [(.ref sp), (.int (2 : Int32))])) st54 ?_
  obtain ⟨cl55, Ar55, -, S55, Nn55, -, -⟩ := id V_sp
  refine Goes.step (T2 := T54) (g2 := (mkF m 32 #[rv a1, rv x] [(.int (64 : Int32)), (.int (2 : Int32))])) (fun t hr => X54.arraylength hx (own_at e54 Ar55.1) (State.isArrayOf_alike hZ.alike Ar55.2.1) (g := (mkF m 31 #[rv a1, rv x] [(.ref sp), (.int (2 : Int32))])) rfl rfl (hb hby d2_31) t (by rw [len_of S55 Nn55]; exact hr)) ?_
  refine Goes.step (T2 := T54) (g2 := (mkF m 35 #[rv a1, rv x] [])) (fun _ hr => XS.icmpNo X54.here hx rfl (hb hby d2_32) rfl (tlt (by decide : (2 : Int32) < (64 : Int32))).2.1 hr) ?_
  refine Goes.step (T2 := T54) (g2 := (mkF m 36 #[rv a1, rv x] [(.ref a1)])) (fun _ hr => XS.aloadN X54.here hx rfl (hb hby d2_35) rfl rfl hr) ?_
  obtain ⟨T56, X56, e56, st56⟩ := getF X54 hx hZ hown (host := "") (Or.inl (tw hw 11 rfl)) Via.refl e54 F_a1_spare (g := (mkF m 36 #[rv a1, rv x] [(.ref a1)])) rfl rfl (hb hby d2_36)
  refine Goes.step (T2 := T56) (g2 := (mkF m 39 #[rv a1, rv x] [(.ref sp)])) st56 ?_
  refine Goes.step (T2 := T56) (g2 := (mkF m 40 #[rv a1, rv x] [(.ref a1), (.ref sp)])) (fun _ hr => XS.aloadN X56.here hx rfl (hb hby d2_39) rfl rfl hr) ?_
  obtain ⟨T57, X57, e57, st57⟩ := getF X56 hx hZ hown (host := "") (Or.inl (tw hw 18 rfl)) Via.refl e56 F_a1_spareCount (g := (mkF m 40 #[rv a1, rv x] [(.ref a1), (.ref sp)])) rfl rfl (hb hby d2_40)
  refine Goes.step (T2 := T57) (g2 := (mkF m 43 #[rv a1, rv x] [(.int (2 : Int32)), (.ref sp)])) st57 ?_
  refine Goes.step (T2 := T57) (g2 := (mkF m 44 #[rv a1, rv x] [(.ref x), (.int (2 : Int32)), (.ref sp)])) (fun _ hr => XS.aloadN X57.here hx rfl (hb hby d2_43) rfl rfl hr) ?_
  obtain ⟨cl58, Ar58, q58, S58, Nn58, H58, G58⟩ := id V_sp
  have hin58 : ¬ ((2 : Int32) < 0 ∨ cl58.slots.size ≤ ((2 : Int32)).toNatClampNeg) := inb_of S58 ⟨by decide, by decide⟩
  obtain ⟨T58, h58, X58, e58, W58, st58⟩ := stR X57 hx hZ e57 Ar58 (j := (2 : Int32)) hin58 rfl (Sto.ofVA Ar58 q58 Ov (Ins.self E_x)) (g := (mkF m 44 #[rv a1, rv x] [(.ref x), (.int (2 : Int32)), (.ref sp)])) rfl rfl (hb hby d2_44)
  have E_a1_58 : Exa Z h58 a1 "com/example/api_policy_gateway/apipolicygateway/net/BufferPool" := E_a1.wr W58
  have F_a1_spare_58 : Fld Z h58 a1 "com/example/api_policy_gateway/apipolicygateway/net/BufferPool" "spare" "[[B" (.ref sp) := F_a1_spare.other W58 (Or.inl ne_a1_sp)
  have F_a1_spareCount_58 : Fld Z h58 a1 "com/example/api_policy_gateway/apipolicygateway/net/BufferPool" "spareCount" "I" (.int (2 : Int32)) := F_a1_spareCount.other W58 (Or.inl ne_a1_sp)
  have E_x_58 : Exa Z h58 x "[B" := E_x.wr W58
  have L_x_58 : LenB Z h58 x (16384 : Int32) := L_x.other W58 ne_x_sp
  have K58 : Keep h0 h58 [a1, sp] := K0.wr W58 (Or.inl (List.mem_of_getElem? (i := 1) rfl))
  have N58 := Fr.snoc X58 N0 ge_sp
  have V_sp_58 : Arv Z h58 sp k (.array .byte) (64 : Int32) [v0, v1, (.ref x)] .null := Arv.set Ar58 q58 S58 Nn58 H58 G58 rfl W58 2 rfl (Nat.le_of_ble_eq_true rfl)
  refine Goes.step (T2 := T58) (g2 := (mkF m 45 #[rv a1, rv x] [])) st58 ?_
  refine Goes.step (T2 := T58) (g2 := (mkF m 46 #[rv a1, rv x] [(.ref a1)])) (fun _ hr => XS.aloadN X58.here hx rfl (hb hby d2_45) rfl rfl hr) ?_
  refine Goes.step (T2 := T58) (g2 := (mkF m 47 #[rv a1, rv x] [(.ref a1), (.ref a1)])) (fun _ hr => XS.dup X58.here hx rfl (hb hby d2_46) rfl rfl hr) ?_
  obtain ⟨T59, X59, e59, st59⟩ := getF X58 hx hZ hown (host := "") (Or.inl (tw hw 18 rfl)) Via.refl e58 F_a1_spareCount_58 (g := (mkF m 47 #[rv a1, rv x] [(.ref a1), (.ref a1)])) rfl rfl (hb hby d2_47)
  refine Goes.step (T2 := T59) (g2 := (mkF m 50 #[rv a1, rv x] [(.int (2 : Int32)), (.ref a1)])) st59 ?_
  refine Goes.step (T2 := T59) (g2 := (mkF m 51 #[rv a1, rv x] [(.int (1 : Int32)), (.int (2 : Int32)), (.ref a1)])) (fun _ hr => XS.iconst X59.here hx rfl (hb hby d2_50) hr) ?_
  refine Goes.step (T2 := T59) (g2 := (mkF m 52 #[rv a1, rv x] [(.int (3 : Int32)), (.ref a1)])) (fun _ hr => XS.iadd X59.here hx rfl (hb hby d2_51) rfl hr) ?_
  obtain ⟨T60, h60, X60, e60, W60, st60⟩ := putF X59 hx hZ hown (host := "") (Or.inl (tw hw 18 rfl)) Via.refl e59 F_a1_spareCount_58 E_a1_58 (Or.inl (tw hw 19 rfl)) (tw hw 1 rfl) (ty := .int) (by decide) rfl rfl (g := (mkF m 52 #[rv a1, rv x] [(.int (3 : Int32)), (.ref a1)])) rfl rfl (hb hby d2_52)
  have E_a1_60 : Exa Z h60 a1 "com/example/api_policy_gateway/apipolicygateway/net/BufferPool" := E_a1_58.wr W60
  have F_a1_spare_60 : Fld Z h60 a1 "com/example/api_policy_gateway/apipolicygateway/net/BufferPool" "spare" "[[B" (.ref sp) := F_a1_spare_58.other W60 (Or.inr (slot_ne (Or.inr (tw hw 12 rfl)) (Or.inl (tw hw 19 rfl)) (by decide) (t := (.array (.array .byte))) (t' := .int) (by decide) (by decide)))
  have E_x_60 : Exa Z h60 x "[B" := E_x_58.wr W60
  have L_x_60 : LenB Z h60 x (16384 : Int32) := L_x_58.other W60 ne_x_a1
  have V_sp_60 : Arv Z h60 sp k (.array .byte) (64 : Int32) [v0, v1, (.ref x)] .null := V_sp_58.other W60 (Ne.symm ne_a1_sp)
  have K60 : Keep h0 h60 [a1, sp] := K58.wr W60 (Or.inl (List.mem_of_getElem? (i := 0) rfl))
  have N60 := Fr.snoc X60 N58 ge_a1
  have F_a1_spareCount_60 : Fld Z h60 a1 "com/example/api_policy_gateway/apipolicygateway/net/BufferPool" "spareCount" "I" (.int (3 : Int32)) := F_a1_spareCount_58.same W60
  refine Goes.step (T2 := T60) (g2 := (mkF m 55 #[rv a1, rv x] [])) st60 ?_
  exact Goes.ret (v := none) X60 (by decide) (by decide) (fun _ => rfl) (by show Q_rm_give2 Z a1 sp k v0 v1 v2 x h0 n0 _ T60.heap _; rw [e60]; exact ⟨rfl, N60, K60, F_a1_spare_60, F_a1_spareCount_60, V_sp_60⟩) (fun fs hr => X60.returnOut hx Bd.returns (hb hby d2_55) hr)
theorem d3_0 : decode method_2_code 0 = .ok (.aload_n 0, 1) := by decide +kernel
theorem d3_1 : decode method_2_code 1 = .ok (.ifnull 43, 3) := by decide +kernel
theorem d3_4 : decode method_2_code 4 = .ok (.aload_n 0, 1) := by decide +kernel
theorem d3_5 : decode method_2_code 5 = .ok (.arraylength, 1) := by decide +kernel
theorem d3_6 : decode method_2_code 6 = .ok (.sipush 16384, 3) := by decide +kernel
theorem d3_9 : decode method_2_code 9 = .ok (.if_icmp .ne 35, 3) := by decide +kernel
theorem d3_12 : decode method_2_code 12 = .ok (.aload_n 0, 1) := by decide +kernel
theorem d3_13 : decode method_2_code 13 = .ok (.iload_n 1, 1) := by decide +kernel
theorem d3_14 : decode method_2_code 14 = .ok (.baload, 1) := by decide +kernel
theorem d3_15 : decode method_2_code 15 = .ok (.ifCond .ne 29, 3) := by decide +kernel
theorem d3_18 : decode method_2_code 18 = .ok (.aload_n 0, 1) := by decide +kernel
theorem d3_19 : decode method_2_code 19 = .ok (.aload_n 2, 1) := by decide +kernel
theorem d3_20 : decode method_2_code 20 = .ok (.if_acmp .eq 24, 3) := by decide +kernel
theorem d3_23 : decode method_2_code 23 = .ok (.aload_n 0, 1) := by decide +kernel
theorem d3_24 : decode method_2_code 24 = .ok (.aload_n 3, 1) := by decide +kernel
theorem d3_25 : decode method_2_code 25 = .ok (.if_acmp .eq 19, 3) := by decide +kernel
theorem d3_28 : decode method_2_code 28 = .ok (.aload_n 0, 1) := by decide +kernel
theorem d3_29 : decode method_2_code 29 = .ok (.aload 4, 2) := by decide +kernel
theorem d3_31 : decode method_2_code 31 = .ok (.if_acmp .eq 13, 3) := by decide +kernel
theorem d3_34 : decode method_2_code 34 = .ok (.aload_n 0, 1) := by decide +kernel
theorem d3_35 : decode method_2_code 35 = .ok (.aload 5, 2) := by decide +kernel
theorem d3_37 : decode method_2_code 37 = .ok (.if_acmp .eq 7, 3) := by decide +kernel
theorem d3_40 : decode method_2_code 40 = .ok (.iconst 1, 1) := by decide +kernel
theorem d3_41 : decode method_2_code 41 = .ok (.goto 4, 3) := by decide +kernel
theorem d3_45 : decode method_2_code 45 = .ok (.ireturn, 1) := by decide +kernel
theorem pn_com_example_api_policy_gateway_apipolicygateway_net_BufferPoolTakePinLaw : plainName "com/example/api_policy_gateway/apipolicygateway/net/BufferPoolTakePinLaw" = true := by first | (simp [plainName, overriddenIn]; done) | decide +kernel
def Q_rm_fresh0 (Z : State) (t1 : Addr) (p1 : Int32) (kw : ClassId) (h0 : Heap) (n0 : Nat) (v : Option Value) (h : Heap) (L : List Loc) : Prop := v = some (.int (1 : Int32)) ∧ Fr n0 L ∧ h = h0
set_option maxRecDepth 65536 in
set_option maxHeartbeats 40000000 in
theorem rm_fresh0 (l : Launch) (Z : State) (a0 : Array Value) (hw : ∀ d ∈ tables_1, d.before a0 Z = true) (ws : List Jvm.Cond) (t1 : Addr) (p1 : Int32) (kw : ClassId) (h0 : Heap) (n0 : Nat) (Z0 : n0 ≤ h0.size) (O0 : Old Z n0 h0) (V_t1 : Arv Z h0 t1 kw .byte (16384 : Int32) [] (.int (0 : Int32))) (hinb : ¬ (p1 < 0) ∧ p1 < (16384 : Int32)) :
    MetFree l Y3 (head1 (Jvm.Cond.code Y3 method_2_code 6 (some .boolean) :: ws) ({ frames := 0, cells := 0, slots := 0, locals := 0 } : Room)) (fun a U => a = #[(.ref t1), (.int p1), .null, .null, .null, .null] ∧ Z.Warmed39 U.vm ∧ U.heap = h0) (fun _ _ _ _ _ => True) (fun _ U o U' => ∃ v L, o = .returned v ∧ Q_rm_fresh0 Z t1 p1 kw h0 n0 v U'.heap L ∧ FrameEnd U o U' L ({ frames := 0, cells := 0, slots := 0, locals := 0 } : Room).cells ({ frames := 0, cells := 0, slots := 0, locals := 0 } : Room).slots) := by
  refine MetFree.of_bodySF (plainFor_of_name pn_com_example_api_policy_gateway_apipolicygateway_net_BufferPoolTakePinLaw) hisR ?_
  intro p e s m args below meth c s₁ Bd hml0 hP hK
  obtain ⟨rfl, hZ, hh⟩ := hP
  have hx := Bd.exec
  have hby := Bd.bytes
  have hml : c.maxLocals = 6 := hml0
  have hown : s.vm.findClass "com/example/api_policy_gateway/apipolicygateway/net/BufferPoolTakePinLaw" = some m.cls := findClass_of_methodNamed Bd.named
  have hnm := (name_of_methodNamed Bd.named Bd.method).1
  have X0 : Stand p l e ({ frames := 0, cells := 0, slots := 0, locals := 0 } : Room) s m #[(.ref t1), (.int p1), .null, .null, .null, .null] below meth c s₁ [] 0 0 := Stand.of_body Bd
  have e0 : s₁.heap = h0 := by rw [← hh, Bd.state]; rfl
  have N0 := Fr.nil n0
  refine Goes.out (l := l) (c := c) (R := ({ frames := 0, cells := 0, slots := 0, locals := 0 } : Room)) (Q := Q_rm_fresh0 Z t1 p1 kw h0 n0) Bd.notSynchronized ?_
  refine Goes.cast (g2 := mkF m 0 #[rv t1, iv p1, .val .null, .val .null, .val .null, .val .null] []) (by first | (simp [entryFrame, mkF, argsToLocals, Value.category]; done) | rfl) ?_
  have K0 : Keep h0 h0 [] := Keep.refl h0 _
  have hws : ∀ x ∈ ([] : List Addr), n0 ≤ x := all0
  refine Goes.step (T2 := s₁) (g2 := (mkF m 1 #[rv t1, iv p1, .val .null, .val .null, .val .null, .val .null] [(.ref t1)])) (fun _ hr => XS.aloadN X0.here hx rfl (hb hby d3_0) rfl rfl hr) ?_
  refine Goes.step (T2 := s₁) (g2 := (mkF m 4 #[rv t1, iv p1, .val .null, .val .null, .val .null, .val .null] [])) (fun _ hr => XS.ifnullNo X0.here hx rfl (hb hby d3_1) rfl hr) ?_
  refine Goes.step (T2 := s₁) (g2 := (mkF m 5 #[rv t1, iv p1, .val .null, .val .null, .val .null, .val .null] [(.ref t1)])) (fun _ hr => XS.aloadN X0.here hx rfl (hb hby d3_4) rfl rfl hr) ?_
  obtain ⟨cl61, Ar61, -, S61, Nn61, -, -⟩ := id V_t1
  refine Goes.step (T2 := s₁) (g2 := (mkF m 6 #[rv t1, iv p1, .val .null, .val .null, .val .null, .val .null] [(.int (16384 : Int32))])) (fun t hr => X0.arraylength hx (own_at e0 Ar61.1) (State.isArrayOf_alike hZ.alike Ar61.2.1) (g := (mkF m 5 #[rv t1, iv p1, .val .null, .val .null, .val .null, .val .null] [(.ref t1)])) rfl rfl (hb hby d3_5) t (by rw [len_of S61 Nn61]; exact hr)) ?_
  refine Goes.step (T2 := s₁) (g2 := (mkF m 9 #[rv t1, iv p1, .val .null, .val .null, .val .null, .val .null] [(.int (16384 : Int32)), (.int (16384 : Int32))])) (fun _ hr => XS.sipush X0.here hx rfl (hb hby d3_6) hr) ?_
  refine Goes.step (T2 := s₁) (g2 := (mkF m 12 #[rv t1, iv p1, .val .null, .val .null, .val .null, .val .null] [])) (fun _ hr => XS.icmpNo X0.here hx rfl (hb hby d3_9) rfl (teq (by decide : (16384 : Int32) = (16384 : Int32))).2 hr) ?_
  refine Goes.step (T2 := s₁) (g2 := (mkF m 13 #[rv t1, iv p1, .val .null, .val .null, .val .null, .val .null] [(.ref t1)])) (fun _ hr => XS.aloadN X0.here hx rfl (hb hby d3_12) rfl rfl hr) ?_
  refine Goes.step (T2 := s₁) (g2 := (mkF m 14 #[rv t1, iv p1, .val .null, .val .null, .val .null, .val .null] [(.int p1), (.ref t1)])) (fun _ hr => XS.iloadN X0.here hx rfl (hb hby d3_13) rfl  hr) ?_
  obtain ⟨cl62, Ar62, q62, S62, Nn62, H62, G62⟩ := id V_t1
  have hin62 : ¬ (p1 < 0 ∨ cl62.slots.size ≤ (p1).toNatClampNeg) := inb_of S62 hinb
  refine Goes.step (T2 := s₁) (g2 := (mkF m 15 #[rv t1, iv p1, .val .null, .val .null, .val .null, .val .null] [(.int (0 : Int32))])) (X0.baloadBytes hx (j := p1) (v := (.int (0 : Int32))) (own_at e0 Ar62.1) (State.isArrayOf_alike hZ.alike Ar62.2.1) Ar62.2.2 hin62 (H62.at hin62 (by simp)) (g := (mkF m 14 #[rv t1, iv p1, .val .null, .val .null, .val .null, .val .null] [(.int p1), (.ref t1)])) rfl rfl (hb hby d3_14)) ?_
  refine Goes.step (T2 := s₁) (g2 := (mkF m 18 #[rv t1, iv p1, .val .null, .val .null, .val .null, .val .null] [])) (fun _ hr => XS.ifNo X0.here hx rfl (hb hby d3_15) rfl ((if0 _ _).trans (teq (by decide : (0 : Int32) = (0 : Int32))).2) hr) ?_
  refine Goes.step (T2 := s₁) (g2 := (mkF m 19 #[rv t1, iv p1, .val .null, .val .null, .val .null, .val .null] [(.ref t1)])) (fun _ hr => XS.aloadN X0.here hx rfl (hb hby d3_18) rfl rfl hr) ?_
  refine Goes.step (T2 := s₁) (g2 := (mkF m 20 #[rv t1, iv p1, .val .null, .val .null, .val .null, .val .null] [.null, (.ref t1)])) (fun _ hr => XS.aloadN X0.here hx rfl (hb hby d3_19) rfl rfl hr) ?_
  refine Goes.step (T2 := s₁) (g2 := (mkF m 23 #[rv t1, iv p1, .val .null, .val .null, .val .null, .val .null] [])) (fun _ hr => Jvm.RoadKit.acmp (g := (mkF m 20 #[rv t1, iv p1, .val .null, .val .null, .val .null, .val .null] [.null, (.ref t1)])) X0 hx rfl rfl rfl (pc0 := 20) (pc' := 23) (same := false) rfl (hb hby d3_20) rfl (decide_eq_false nofun) (by decide) (by decide) hr) ?_
  refine Goes.step (T2 := s₁) (g2 := (mkF m 24 #[rv t1, iv p1, .val .null, .val .null, .val .null, .val .null] [(.ref t1)])) (fun _ hr => XS.aloadN X0.here hx rfl (hb hby d3_23) rfl rfl hr) ?_
  refine Goes.step (T2 := s₁) (g2 := (mkF m 25 #[rv t1, iv p1, .val .null, .val .null, .val .null, .val .null] [.null, (.ref t1)])) (fun _ hr => XS.aloadN X0.here hx rfl (hb hby d3_24) rfl rfl hr) ?_
  refine Goes.step (T2 := s₁) (g2 := (mkF m 28 #[rv t1, iv p1, .val .null, .val .null, .val .null, .val .null] [])) (fun _ hr => Jvm.RoadKit.acmp (g := (mkF m 25 #[rv t1, iv p1, .val .null, .val .null, .val .null, .val .null] [.null, (.ref t1)])) X0 hx rfl rfl rfl (pc0 := 25) (pc' := 28) (same := false) rfl (hb hby d3_25) rfl (decide_eq_false nofun) (by decide) (by decide) hr) ?_
  refine Goes.step (T2 := s₁) (g2 := (mkF m 29 #[rv t1, iv p1, .val .null, .val .null, .val .null, .val .null] [(.ref t1)])) (fun _ hr => XS.aloadN X0.here hx rfl (hb hby d3_28) rfl rfl hr) ?_
  refine Goes.step (T2 := s₁) (g2 := (mkF m 31 #[rv t1, iv p1, .val .null, .val .null, .val .null, .val .null] [.null, (.ref t1)])) (fun _ hr => XS.aload X0.here hx rfl (hb hby d3_29) rfl rfl hr) ?_
  refine Goes.step (T2 := s₁) (g2 := (mkF m 34 #[rv t1, iv p1, .val .null, .val .null, .val .null, .val .null] [])) (fun _ hr => Jvm.RoadKit.acmp (g := (mkF m 31 #[rv t1, iv p1, .val .null, .val .null, .val .null, .val .null] [.null, (.ref t1)])) X0 hx rfl rfl rfl (pc0 := 31) (pc' := 34) (same := false) rfl (hb hby d3_31) rfl (decide_eq_false nofun) (by decide) (by decide) hr) ?_
  refine Goes.step (T2 := s₁) (g2 := (mkF m 35 #[rv t1, iv p1, .val .null, .val .null, .val .null, .val .null] [(.ref t1)])) (fun _ hr => XS.aloadN X0.here hx rfl (hb hby d3_34) rfl rfl hr) ?_
  refine Goes.step (T2 := s₁) (g2 := (mkF m 37 #[rv t1, iv p1, .val .null, .val .null, .val .null, .val .null] [.null, (.ref t1)])) (fun _ hr => XS.aload X0.here hx rfl (hb hby d3_35) rfl rfl hr) ?_
  refine Goes.step (T2 := s₁) (g2 := (mkF m 40 #[rv t1, iv p1, .val .null, .val .null, .val .null, .val .null] [])) (fun _ hr => Jvm.RoadKit.acmp (g := (mkF m 37 #[rv t1, iv p1, .val .null, .val .null, .val .null, .val .null] [.null, (.ref t1)])) X0 hx rfl rfl rfl (pc0 := 37) (pc' := 40) (same := false) rfl (hb hby d3_37) rfl (decide_eq_false nofun) (by decide) (by decide) hr) ?_
  refine Goes.step (T2 := s₁) (g2 := (mkF m 41 #[rv t1, iv p1, .val .null, .val .null, .val .null, .val .null] [(.int (1 : Int32))])) (fun _ hr => XS.iconst X0.here hx rfl (hb hby d3_40) hr) ?_
  refine Goes.step (T2 := s₁) (g2 := (mkF m 45 #[rv t1, iv p1, .val .null, .val .null, .val .null, .val .null] [(.int (1 : Int32))])) (fun _ hr => XS.goto X0.here hx rfl (pc0 := 41) (pc' := 45) rfl (hb hby d3_41) (by decide) (by decide) hr) ?_
  exact Goes.ret (v := some (.int (1 : Int32))) X0 (by decide) (by decide) (fun h => by rw [Bd.returns] at h; cases h) ⟨rfl, N0, e0⟩ (fun fs hr => retN X0 hx (t := .boolean) Bd.returns (by simp) (hb hby d3_45) hr)
def Q_rm_fresh1 (Z : State) (t1 : Addr) (p1 : Int32) (kw : ClassId) (o1 : Addr) (h0 : Heap) (n0 : Nat) (v : Option Value) (h : Heap) (L : List Loc) : Prop := v = some (.int (1 : Int32)) ∧ Fr n0 L ∧ h = h0
set_option maxRecDepth 65536 in
set_option maxHeartbeats 40000000 in
theorem rm_fresh1 (l : Launch) (Z : State) (a0 : Array Value) (hw : ∀ d ∈ tables_1, d.before a0 Z = true) (ws : List Jvm.Cond) (t1 : Addr) (p1 : Int32) (kw : ClassId) (o1 : Addr) (h0 : Heap) (n0 : Nat) (Z0 : n0 ≤ h0.size) (O0 : Old Z n0 h0) (V_t1 : Arv Z h0 t1 kw .byte (16384 : Int32) [] (.int (0 : Int32))) (ne_t1_o1 : t1 ≠ o1) (hinb : ¬ (p1 < 0) ∧ p1 < (16384 : Int32)) :
    MetFree l Y3 (head1 (Jvm.Cond.code Y3 method_2_code 6 (some .boolean) :: ws) ({ frames := 0, cells := 0, slots := 0, locals := 0 } : Room)) (fun a U => a = #[(.ref t1), (.int p1), (.ref o1), .null, .null, .null] ∧ Z.Warmed39 U.vm ∧ U.heap = h0) (fun _ _ _ _ _ => True) (fun _ U o U' => ∃ v L, o = .returned v ∧ Q_rm_fresh1 Z t1 p1 kw o1 h0 n0 v U'.heap L ∧ FrameEnd U o U' L ({ frames := 0, cells := 0, slots := 0, locals := 0 } : Room).cells ({ frames := 0, cells := 0, slots := 0, locals := 0 } : Room).slots) := by
  refine MetFree.of_bodySF (plainFor_of_name pn_com_example_api_policy_gateway_apipolicygateway_net_BufferPoolTakePinLaw) hisR ?_
  intro p e s m args below meth c s₁ Bd hml0 hP hK
  obtain ⟨rfl, hZ, hh⟩ := hP
  have hx := Bd.exec
  have hby := Bd.bytes
  have hml : c.maxLocals = 6 := hml0
  have hown : s.vm.findClass "com/example/api_policy_gateway/apipolicygateway/net/BufferPoolTakePinLaw" = some m.cls := findClass_of_methodNamed Bd.named
  have hnm := (name_of_methodNamed Bd.named Bd.method).1
  have X0 : Stand p l e ({ frames := 0, cells := 0, slots := 0, locals := 0 } : Room) s m #[(.ref t1), (.int p1), (.ref o1), .null, .null, .null] below meth c s₁ [] 0 0 := Stand.of_body Bd
  have e0 : s₁.heap = h0 := by rw [← hh, Bd.state]; rfl
  have N0 := Fr.nil n0
  refine Goes.out (l := l) (c := c) (R := ({ frames := 0, cells := 0, slots := 0, locals := 0 } : Room)) (Q := Q_rm_fresh1 Z t1 p1 kw o1 h0 n0) Bd.notSynchronized ?_
  refine Goes.cast (g2 := mkF m 0 #[rv t1, iv p1, rv o1, .val .null, .val .null, .val .null] []) (by first | (simp [entryFrame, mkF, argsToLocals, Value.category]; done) | rfl) ?_
  have K0 : Keep h0 h0 [] := Keep.refl h0 _
  have hws : ∀ x ∈ ([] : List Addr), n0 ≤ x := all0
  refine Goes.step (T2 := s₁) (g2 := (mkF m 1 #[rv t1, iv p1, rv o1, .val .null, .val .null, .val .null] [(.ref t1)])) (fun _ hr => XS.aloadN X0.here hx rfl (hb hby d3_0) rfl rfl hr) ?_
  refine Goes.step (T2 := s₁) (g2 := (mkF m 4 #[rv t1, iv p1, rv o1, .val .null, .val .null, .val .null] [])) (fun _ hr => XS.ifnullNo X0.here hx rfl (hb hby d3_1) rfl hr) ?_
  refine Goes.step (T2 := s₁) (g2 := (mkF m 5 #[rv t1, iv p1, rv o1, .val .null, .val .null, .val .null] [(.ref t1)])) (fun _ hr => XS.aloadN X0.here hx rfl (hb hby d3_4) rfl rfl hr) ?_
  obtain ⟨cl63, Ar63, -, S63, Nn63, -, -⟩ := id V_t1
  refine Goes.step (T2 := s₁) (g2 := (mkF m 6 #[rv t1, iv p1, rv o1, .val .null, .val .null, .val .null] [(.int (16384 : Int32))])) (fun t hr => X0.arraylength hx (own_at e0 Ar63.1) (State.isArrayOf_alike hZ.alike Ar63.2.1) (g := (mkF m 5 #[rv t1, iv p1, rv o1, .val .null, .val .null, .val .null] [(.ref t1)])) rfl rfl (hb hby d3_5) t (by rw [len_of S63 Nn63]; exact hr)) ?_
  refine Goes.step (T2 := s₁) (g2 := (mkF m 9 #[rv t1, iv p1, rv o1, .val .null, .val .null, .val .null] [(.int (16384 : Int32)), (.int (16384 : Int32))])) (fun _ hr => XS.sipush X0.here hx rfl (hb hby d3_6) hr) ?_
  refine Goes.step (T2 := s₁) (g2 := (mkF m 12 #[rv t1, iv p1, rv o1, .val .null, .val .null, .val .null] [])) (fun _ hr => XS.icmpNo X0.here hx rfl (hb hby d3_9) rfl (teq (by decide : (16384 : Int32) = (16384 : Int32))).2 hr) ?_
  refine Goes.step (T2 := s₁) (g2 := (mkF m 13 #[rv t1, iv p1, rv o1, .val .null, .val .null, .val .null] [(.ref t1)])) (fun _ hr => XS.aloadN X0.here hx rfl (hb hby d3_12) rfl rfl hr) ?_
  refine Goes.step (T2 := s₁) (g2 := (mkF m 14 #[rv t1, iv p1, rv o1, .val .null, .val .null, .val .null] [(.int p1), (.ref t1)])) (fun _ hr => XS.iloadN X0.here hx rfl (hb hby d3_13) rfl  hr) ?_
  obtain ⟨cl64, Ar64, q64, S64, Nn64, H64, G64⟩ := id V_t1
  have hin64 : ¬ (p1 < 0 ∨ cl64.slots.size ≤ (p1).toNatClampNeg) := inb_of S64 hinb
  refine Goes.step (T2 := s₁) (g2 := (mkF m 15 #[rv t1, iv p1, rv o1, .val .null, .val .null, .val .null] [(.int (0 : Int32))])) (X0.baloadBytes hx (j := p1) (v := (.int (0 : Int32))) (own_at e0 Ar64.1) (State.isArrayOf_alike hZ.alike Ar64.2.1) Ar64.2.2 hin64 (H64.at hin64 (by simp)) (g := (mkF m 14 #[rv t1, iv p1, rv o1, .val .null, .val .null, .val .null] [(.int p1), (.ref t1)])) rfl rfl (hb hby d3_14)) ?_
  refine Goes.step (T2 := s₁) (g2 := (mkF m 18 #[rv t1, iv p1, rv o1, .val .null, .val .null, .val .null] [])) (fun _ hr => XS.ifNo X0.here hx rfl (hb hby d3_15) rfl ((if0 _ _).trans (teq (by decide : (0 : Int32) = (0 : Int32))).2) hr) ?_
  refine Goes.step (T2 := s₁) (g2 := (mkF m 19 #[rv t1, iv p1, rv o1, .val .null, .val .null, .val .null] [(.ref t1)])) (fun _ hr => XS.aloadN X0.here hx rfl (hb hby d3_18) rfl rfl hr) ?_
  refine Goes.step (T2 := s₁) (g2 := (mkF m 20 #[rv t1, iv p1, rv o1, .val .null, .val .null, .val .null] [(.ref o1), (.ref t1)])) (fun _ hr => XS.aloadN X0.here hx rfl (hb hby d3_19) rfl rfl hr) ?_
  refine Goes.step (T2 := s₁) (g2 := (mkF m 23 #[rv t1, iv p1, rv o1, .val .null, .val .null, .val .null] [])) (fun _ hr => Jvm.RoadKit.acmp (g := (mkF m 20 #[rv t1, iv p1, rv o1, .val .null, .val .null, .val .null] [(.ref o1), (.ref t1)])) X0 hx rfl rfl rfl (pc0 := 20) (pc' := 23) (same := false) rfl (hb hby d3_20) rfl (decide_eq_false fun q => ne_t1_o1 (Value.ref.inj q)) (by decide) (by decide) hr) ?_
  refine Goes.step (T2 := s₁) (g2 := (mkF m 24 #[rv t1, iv p1, rv o1, .val .null, .val .null, .val .null] [(.ref t1)])) (fun _ hr => XS.aloadN X0.here hx rfl (hb hby d3_23) rfl rfl hr) ?_
  refine Goes.step (T2 := s₁) (g2 := (mkF m 25 #[rv t1, iv p1, rv o1, .val .null, .val .null, .val .null] [.null, (.ref t1)])) (fun _ hr => XS.aloadN X0.here hx rfl (hb hby d3_24) rfl rfl hr) ?_
  refine Goes.step (T2 := s₁) (g2 := (mkF m 28 #[rv t1, iv p1, rv o1, .val .null, .val .null, .val .null] [])) (fun _ hr => Jvm.RoadKit.acmp (g := (mkF m 25 #[rv t1, iv p1, rv o1, .val .null, .val .null, .val .null] [.null, (.ref t1)])) X0 hx rfl rfl rfl (pc0 := 25) (pc' := 28) (same := false) rfl (hb hby d3_25) rfl (decide_eq_false nofun) (by decide) (by decide) hr) ?_
  refine Goes.step (T2 := s₁) (g2 := (mkF m 29 #[rv t1, iv p1, rv o1, .val .null, .val .null, .val .null] [(.ref t1)])) (fun _ hr => XS.aloadN X0.here hx rfl (hb hby d3_28) rfl rfl hr) ?_
  refine Goes.step (T2 := s₁) (g2 := (mkF m 31 #[rv t1, iv p1, rv o1, .val .null, .val .null, .val .null] [.null, (.ref t1)])) (fun _ hr => XS.aload X0.here hx rfl (hb hby d3_29) rfl rfl hr) ?_
  refine Goes.step (T2 := s₁) (g2 := (mkF m 34 #[rv t1, iv p1, rv o1, .val .null, .val .null, .val .null] [])) (fun _ hr => Jvm.RoadKit.acmp (g := (mkF m 31 #[rv t1, iv p1, rv o1, .val .null, .val .null, .val .null] [.null, (.ref t1)])) X0 hx rfl rfl rfl (pc0 := 31) (pc' := 34) (same := false) rfl (hb hby d3_31) rfl (decide_eq_false nofun) (by decide) (by decide) hr) ?_
  refine Goes.step (T2 := s₁) (g2 := (mkF m 35 #[rv t1, iv p1, rv o1, .val .null, .val .null, .val .null] [(.ref t1)])) (fun _ hr => XS.aloadN X0.here hx rfl (hb hby d3_34) rfl rfl hr) ?_
  refine Goes.step (T2 := s₁) (g2 := (mkF m 37 #[rv t1, iv p1, rv o1, .val .null, .val .null, .val .null] [.null, (.ref t1)])) (fun _ hr => XS.aload X0.here hx rfl (hb hby d3_35) rfl rfl hr) ?_
  refine Goes.step (T2 := s₁) (g2 := (mkF m 40 #[rv t1, iv p1, rv o1, .val .null, .val .null, .val .null] [])) (fun _ hr => Jvm.RoadKit.acmp (g := (mkF m 37 #[rv t1, iv p1, rv o1, .val .null, .val .null, .val .null] [.null, (.ref t1)])) X0 hx rfl rfl rfl (pc0 := 37) (pc' := 40) (same := false) rfl (hb hby d3_37) rfl (decide_eq_false nofun) (by decide) (by decide) hr) ?_
  refine Goes.step (T2 := s₁) (g2 := (mkF m 41 #[rv t1, iv p1, rv o1, .val .null, .val .null, .val .null] [(.int (1 : Int32))])) (fun _ hr => XS.iconst X0.here hx rfl (hb hby d3_40) hr) ?_
  refine Goes.step (T2 := s₁) (g2 := (mkF m 45 #[rv t1, iv p1, rv o1, .val .null, .val .null, .val .null] [(.int (1 : Int32))])) (fun _ hr => XS.goto X0.here hx rfl (pc0 := 41) (pc' := 45) rfl (hb hby d3_41) (by decide) (by decide) hr) ?_
  exact Goes.ret (v := some (.int (1 : Int32))) X0 (by decide) (by decide) (fun h => by rw [Bd.returns] at h; cases h) ⟨rfl, N0, e0⟩ (fun fs hr => retN X0 hx (t := .boolean) Bd.returns (by simp) (hb hby d3_45) hr)
def Q_rm_fresh2 (Z : State) (t1 : Addr) (p1 : Int32) (kw : ClassId) (o1 : Addr) (o2 : Addr) (h0 : Heap) (n0 : Nat) (v : Option Value) (h : Heap) (L : List Loc) : Prop := v = some (.int (1 : Int32)) ∧ Fr n0 L ∧ h = h0
set_option maxRecDepth 65536 in
set_option maxHeartbeats 40000000 in
theorem rm_fresh2 (l : Launch) (Z : State) (a0 : Array Value) (hw : ∀ d ∈ tables_1, d.before a0 Z = true) (ws : List Jvm.Cond) (t1 : Addr) (p1 : Int32) (kw : ClassId) (o1 : Addr) (o2 : Addr) (h0 : Heap) (n0 : Nat) (Z0 : n0 ≤ h0.size) (O0 : Old Z n0 h0) (V_t1 : Arv Z h0 t1 kw .byte (16384 : Int32) [] (.int (0 : Int32))) (ne_t1_o1 : t1 ≠ o1) (ne_t1_o2 : t1 ≠ o2) (hinb : ¬ (p1 < 0) ∧ p1 < (16384 : Int32)) :
    MetFree l Y3 (head1 (Jvm.Cond.code Y3 method_2_code 6 (some .boolean) :: ws) ({ frames := 0, cells := 0, slots := 0, locals := 0 } : Room)) (fun a U => a = #[(.ref t1), (.int p1), (.ref o1), (.ref o2), .null, .null] ∧ Z.Warmed39 U.vm ∧ U.heap = h0) (fun _ _ _ _ _ => True) (fun _ U o U' => ∃ v L, o = .returned v ∧ Q_rm_fresh2 Z t1 p1 kw o1 o2 h0 n0 v U'.heap L ∧ FrameEnd U o U' L ({ frames := 0, cells := 0, slots := 0, locals := 0 } : Room).cells ({ frames := 0, cells := 0, slots := 0, locals := 0 } : Room).slots) := by
  refine MetFree.of_bodySF (plainFor_of_name pn_com_example_api_policy_gateway_apipolicygateway_net_BufferPoolTakePinLaw) hisR ?_
  intro p e s m args below meth c s₁ Bd hml0 hP hK
  obtain ⟨rfl, hZ, hh⟩ := hP
  have hx := Bd.exec
  have hby := Bd.bytes
  have hml : c.maxLocals = 6 := hml0
  have hown : s.vm.findClass "com/example/api_policy_gateway/apipolicygateway/net/BufferPoolTakePinLaw" = some m.cls := findClass_of_methodNamed Bd.named
  have hnm := (name_of_methodNamed Bd.named Bd.method).1
  have X0 : Stand p l e ({ frames := 0, cells := 0, slots := 0, locals := 0 } : Room) s m #[(.ref t1), (.int p1), (.ref o1), (.ref o2), .null, .null] below meth c s₁ [] 0 0 := Stand.of_body Bd
  have e0 : s₁.heap = h0 := by rw [← hh, Bd.state]; rfl
  have N0 := Fr.nil n0
  refine Goes.out (l := l) (c := c) (R := ({ frames := 0, cells := 0, slots := 0, locals := 0 } : Room)) (Q := Q_rm_fresh2 Z t1 p1 kw o1 o2 h0 n0) Bd.notSynchronized ?_
  refine Goes.cast (g2 := mkF m 0 #[rv t1, iv p1, rv o1, rv o2, .val .null, .val .null] []) (by first | (simp [entryFrame, mkF, argsToLocals, Value.category]; done) | rfl) ?_
  have K0 : Keep h0 h0 [] := Keep.refl h0 _
  have hws : ∀ x ∈ ([] : List Addr), n0 ≤ x := all0
  refine Goes.step (T2 := s₁) (g2 := (mkF m 1 #[rv t1, iv p1, rv o1, rv o2, .val .null, .val .null] [(.ref t1)])) (fun _ hr => XS.aloadN X0.here hx rfl (hb hby d3_0) rfl rfl hr) ?_
  refine Goes.step (T2 := s₁) (g2 := (mkF m 4 #[rv t1, iv p1, rv o1, rv o2, .val .null, .val .null] [])) (fun _ hr => XS.ifnullNo X0.here hx rfl (hb hby d3_1) rfl hr) ?_
  refine Goes.step (T2 := s₁) (g2 := (mkF m 5 #[rv t1, iv p1, rv o1, rv o2, .val .null, .val .null] [(.ref t1)])) (fun _ hr => XS.aloadN X0.here hx rfl (hb hby d3_4) rfl rfl hr) ?_
  obtain ⟨cl65, Ar65, -, S65, Nn65, -, -⟩ := id V_t1
  refine Goes.step (T2 := s₁) (g2 := (mkF m 6 #[rv t1, iv p1, rv o1, rv o2, .val .null, .val .null] [(.int (16384 : Int32))])) (fun t hr => X0.arraylength hx (own_at e0 Ar65.1) (State.isArrayOf_alike hZ.alike Ar65.2.1) (g := (mkF m 5 #[rv t1, iv p1, rv o1, rv o2, .val .null, .val .null] [(.ref t1)])) rfl rfl (hb hby d3_5) t (by rw [len_of S65 Nn65]; exact hr)) ?_
  refine Goes.step (T2 := s₁) (g2 := (mkF m 9 #[rv t1, iv p1, rv o1, rv o2, .val .null, .val .null] [(.int (16384 : Int32)), (.int (16384 : Int32))])) (fun _ hr => XS.sipush X0.here hx rfl (hb hby d3_6) hr) ?_
  refine Goes.step (T2 := s₁) (g2 := (mkF m 12 #[rv t1, iv p1, rv o1, rv o2, .val .null, .val .null] [])) (fun _ hr => XS.icmpNo X0.here hx rfl (hb hby d3_9) rfl (teq (by decide : (16384 : Int32) = (16384 : Int32))).2 hr) ?_
  refine Goes.step (T2 := s₁) (g2 := (mkF m 13 #[rv t1, iv p1, rv o1, rv o2, .val .null, .val .null] [(.ref t1)])) (fun _ hr => XS.aloadN X0.here hx rfl (hb hby d3_12) rfl rfl hr) ?_
  refine Goes.step (T2 := s₁) (g2 := (mkF m 14 #[rv t1, iv p1, rv o1, rv o2, .val .null, .val .null] [(.int p1), (.ref t1)])) (fun _ hr => XS.iloadN X0.here hx rfl (hb hby d3_13) rfl  hr) ?_
  obtain ⟨cl66, Ar66, q66, S66, Nn66, H66, G66⟩ := id V_t1
  have hin66 : ¬ (p1 < 0 ∨ cl66.slots.size ≤ (p1).toNatClampNeg) := inb_of S66 hinb
  refine Goes.step (T2 := s₁) (g2 := (mkF m 15 #[rv t1, iv p1, rv o1, rv o2, .val .null, .val .null] [(.int (0 : Int32))])) (X0.baloadBytes hx (j := p1) (v := (.int (0 : Int32))) (own_at e0 Ar66.1) (State.isArrayOf_alike hZ.alike Ar66.2.1) Ar66.2.2 hin66 (H66.at hin66 (by simp)) (g := (mkF m 14 #[rv t1, iv p1, rv o1, rv o2, .val .null, .val .null] [(.int p1), (.ref t1)])) rfl rfl (hb hby d3_14)) ?_
  refine Goes.step (T2 := s₁) (g2 := (mkF m 18 #[rv t1, iv p1, rv o1, rv o2, .val .null, .val .null] [])) (fun _ hr => XS.ifNo X0.here hx rfl (hb hby d3_15) rfl ((if0 _ _).trans (teq (by decide : (0 : Int32) = (0 : Int32))).2) hr) ?_
  refine Goes.step (T2 := s₁) (g2 := (mkF m 19 #[rv t1, iv p1, rv o1, rv o2, .val .null, .val .null] [(.ref t1)])) (fun _ hr => XS.aloadN X0.here hx rfl (hb hby d3_18) rfl rfl hr) ?_
  refine Goes.step (T2 := s₁) (g2 := (mkF m 20 #[rv t1, iv p1, rv o1, rv o2, .val .null, .val .null] [(.ref o1), (.ref t1)])) (fun _ hr => XS.aloadN X0.here hx rfl (hb hby d3_19) rfl rfl hr) ?_
  refine Goes.step (T2 := s₁) (g2 := (mkF m 23 #[rv t1, iv p1, rv o1, rv o2, .val .null, .val .null] [])) (fun _ hr => Jvm.RoadKit.acmp (g := (mkF m 20 #[rv t1, iv p1, rv o1, rv o2, .val .null, .val .null] [(.ref o1), (.ref t1)])) X0 hx rfl rfl rfl (pc0 := 20) (pc' := 23) (same := false) rfl (hb hby d3_20) rfl (decide_eq_false fun q => ne_t1_o1 (Value.ref.inj q)) (by decide) (by decide) hr) ?_
  refine Goes.step (T2 := s₁) (g2 := (mkF m 24 #[rv t1, iv p1, rv o1, rv o2, .val .null, .val .null] [(.ref t1)])) (fun _ hr => XS.aloadN X0.here hx rfl (hb hby d3_23) rfl rfl hr) ?_
  refine Goes.step (T2 := s₁) (g2 := (mkF m 25 #[rv t1, iv p1, rv o1, rv o2, .val .null, .val .null] [(.ref o2), (.ref t1)])) (fun _ hr => XS.aloadN X0.here hx rfl (hb hby d3_24) rfl rfl hr) ?_
  refine Goes.step (T2 := s₁) (g2 := (mkF m 28 #[rv t1, iv p1, rv o1, rv o2, .val .null, .val .null] [])) (fun _ hr => Jvm.RoadKit.acmp (g := (mkF m 25 #[rv t1, iv p1, rv o1, rv o2, .val .null, .val .null] [(.ref o2), (.ref t1)])) X0 hx rfl rfl rfl (pc0 := 25) (pc' := 28) (same := false) rfl (hb hby d3_25) rfl (decide_eq_false fun q => ne_t1_o2 (Value.ref.inj q)) (by decide) (by decide) hr) ?_
  refine Goes.step (T2 := s₁) (g2 := (mkF m 29 #[rv t1, iv p1, rv o1, rv o2, .val .null, .val .null] [(.ref t1)])) (fun _ hr => XS.aloadN X0.here hx rfl (hb hby d3_28) rfl rfl hr) ?_
  refine Goes.step (T2 := s₁) (g2 := (mkF m 31 #[rv t1, iv p1, rv o1, rv o2, .val .null, .val .null] [.null, (.ref t1)])) (fun _ hr => XS.aload X0.here hx rfl (hb hby d3_29) rfl rfl hr) ?_
  refine Goes.step (T2 := s₁) (g2 := (mkF m 34 #[rv t1, iv p1, rv o1, rv o2, .val .null, .val .null] [])) (fun _ hr => Jvm.RoadKit.acmp (g := (mkF m 31 #[rv t1, iv p1, rv o1, rv o2, .val .null, .val .null] [.null, (.ref t1)])) X0 hx rfl rfl rfl (pc0 := 31) (pc' := 34) (same := false) rfl (hb hby d3_31) rfl (decide_eq_false nofun) (by decide) (by decide) hr) ?_
  refine Goes.step (T2 := s₁) (g2 := (mkF m 35 #[rv t1, iv p1, rv o1, rv o2, .val .null, .val .null] [(.ref t1)])) (fun _ hr => XS.aloadN X0.here hx rfl (hb hby d3_34) rfl rfl hr) ?_
  refine Goes.step (T2 := s₁) (g2 := (mkF m 37 #[rv t1, iv p1, rv o1, rv o2, .val .null, .val .null] [.null, (.ref t1)])) (fun _ hr => XS.aload X0.here hx rfl (hb hby d3_35) rfl rfl hr) ?_
  refine Goes.step (T2 := s₁) (g2 := (mkF m 40 #[rv t1, iv p1, rv o1, rv o2, .val .null, .val .null] [])) (fun _ hr => Jvm.RoadKit.acmp (g := (mkF m 37 #[rv t1, iv p1, rv o1, rv o2, .val .null, .val .null] [.null, (.ref t1)])) X0 hx rfl rfl rfl (pc0 := 37) (pc' := 40) (same := false) rfl (hb hby d3_37) rfl (decide_eq_false nofun) (by decide) (by decide) hr) ?_
  refine Goes.step (T2 := s₁) (g2 := (mkF m 41 #[rv t1, iv p1, rv o1, rv o2, .val .null, .val .null] [(.int (1 : Int32))])) (fun _ hr => XS.iconst X0.here hx rfl (hb hby d3_40) hr) ?_
  refine Goes.step (T2 := s₁) (g2 := (mkF m 45 #[rv t1, iv p1, rv o1, rv o2, .val .null, .val .null] [(.int (1 : Int32))])) (fun _ hr => XS.goto X0.here hx rfl (pc0 := 41) (pc' := 45) rfl (hb hby d3_41) (by decide) (by decide) hr) ?_
  exact Goes.ret (v := some (.int (1 : Int32))) X0 (by decide) (by decide) (fun h => by rw [Bd.returns] at h; cases h) ⟨rfl, N0, e0⟩ (fun fs hr => retN X0 hx (t := .boolean) Bd.returns (by simp) (hb hby d3_45) hr)
def Q_rm_fresh3 (Z : State) (t1 : Addr) (p1 : Int32) (kw : ClassId) (o1 : Addr) (o2 : Addr) (o3 : Addr) (h0 : Heap) (n0 : Nat) (v : Option Value) (h : Heap) (L : List Loc) : Prop := v = some (.int (1 : Int32)) ∧ Fr n0 L ∧ h = h0
set_option maxRecDepth 65536 in
set_option maxHeartbeats 40000000 in
theorem rm_fresh3 (l : Launch) (Z : State) (a0 : Array Value) (hw : ∀ d ∈ tables_1, d.before a0 Z = true) (ws : List Jvm.Cond) (t1 : Addr) (p1 : Int32) (kw : ClassId) (o1 : Addr) (o2 : Addr) (o3 : Addr) (h0 : Heap) (n0 : Nat) (Z0 : n0 ≤ h0.size) (O0 : Old Z n0 h0) (V_t1 : Arv Z h0 t1 kw .byte (16384 : Int32) [] (.int (0 : Int32))) (ne_t1_o1 : t1 ≠ o1) (ne_t1_o2 : t1 ≠ o2) (ne_t1_o3 : t1 ≠ o3) (hinb : ¬ (p1 < 0) ∧ p1 < (16384 : Int32)) :
    MetFree l Y3 (head1 (Jvm.Cond.code Y3 method_2_code 6 (some .boolean) :: ws) ({ frames := 0, cells := 0, slots := 0, locals := 0 } : Room)) (fun a U => a = #[(.ref t1), (.int p1), (.ref o1), (.ref o2), (.ref o3), .null] ∧ Z.Warmed39 U.vm ∧ U.heap = h0) (fun _ _ _ _ _ => True) (fun _ U o U' => ∃ v L, o = .returned v ∧ Q_rm_fresh3 Z t1 p1 kw o1 o2 o3 h0 n0 v U'.heap L ∧ FrameEnd U o U' L ({ frames := 0, cells := 0, slots := 0, locals := 0 } : Room).cells ({ frames := 0, cells := 0, slots := 0, locals := 0 } : Room).slots) := by
  refine MetFree.of_bodySF (plainFor_of_name pn_com_example_api_policy_gateway_apipolicygateway_net_BufferPoolTakePinLaw) hisR ?_
  intro p e s m args below meth c s₁ Bd hml0 hP hK
  obtain ⟨rfl, hZ, hh⟩ := hP
  have hx := Bd.exec
  have hby := Bd.bytes
  have hml : c.maxLocals = 6 := hml0
  have hown : s.vm.findClass "com/example/api_policy_gateway/apipolicygateway/net/BufferPoolTakePinLaw" = some m.cls := findClass_of_methodNamed Bd.named
  have hnm := (name_of_methodNamed Bd.named Bd.method).1
  have X0 : Stand p l e ({ frames := 0, cells := 0, slots := 0, locals := 0 } : Room) s m #[(.ref t1), (.int p1), (.ref o1), (.ref o2), (.ref o3), .null] below meth c s₁ [] 0 0 := Stand.of_body Bd
  have e0 : s₁.heap = h0 := by rw [← hh, Bd.state]; rfl
  have N0 := Fr.nil n0
  refine Goes.out (l := l) (c := c) (R := ({ frames := 0, cells := 0, slots := 0, locals := 0 } : Room)) (Q := Q_rm_fresh3 Z t1 p1 kw o1 o2 o3 h0 n0) Bd.notSynchronized ?_
  refine Goes.cast (g2 := mkF m 0 #[rv t1, iv p1, rv o1, rv o2, rv o3, .val .null] []) (by first | (simp [entryFrame, mkF, argsToLocals, Value.category]; done) | rfl) ?_
  have K0 : Keep h0 h0 [] := Keep.refl h0 _
  have hws : ∀ x ∈ ([] : List Addr), n0 ≤ x := all0
  refine Goes.step (T2 := s₁) (g2 := (mkF m 1 #[rv t1, iv p1, rv o1, rv o2, rv o3, .val .null] [(.ref t1)])) (fun _ hr => XS.aloadN X0.here hx rfl (hb hby d3_0) rfl rfl hr) ?_
  refine Goes.step (T2 := s₁) (g2 := (mkF m 4 #[rv t1, iv p1, rv o1, rv o2, rv o3, .val .null] [])) (fun _ hr => XS.ifnullNo X0.here hx rfl (hb hby d3_1) rfl hr) ?_
  refine Goes.step (T2 := s₁) (g2 := (mkF m 5 #[rv t1, iv p1, rv o1, rv o2, rv o3, .val .null] [(.ref t1)])) (fun _ hr => XS.aloadN X0.here hx rfl (hb hby d3_4) rfl rfl hr) ?_
  obtain ⟨cl67, Ar67, -, S67, Nn67, -, -⟩ := id V_t1
  refine Goes.step (T2 := s₁) (g2 := (mkF m 6 #[rv t1, iv p1, rv o1, rv o2, rv o3, .val .null] [(.int (16384 : Int32))])) (fun t hr => X0.arraylength hx (own_at e0 Ar67.1) (State.isArrayOf_alike hZ.alike Ar67.2.1) (g := (mkF m 5 #[rv t1, iv p1, rv o1, rv o2, rv o3, .val .null] [(.ref t1)])) rfl rfl (hb hby d3_5) t (by rw [len_of S67 Nn67]; exact hr)) ?_
  refine Goes.step (T2 := s₁) (g2 := (mkF m 9 #[rv t1, iv p1, rv o1, rv o2, rv o3, .val .null] [(.int (16384 : Int32)), (.int (16384 : Int32))])) (fun _ hr => XS.sipush X0.here hx rfl (hb hby d3_6) hr) ?_
  refine Goes.step (T2 := s₁) (g2 := (mkF m 12 #[rv t1, iv p1, rv o1, rv o2, rv o3, .val .null] [])) (fun _ hr => XS.icmpNo X0.here hx rfl (hb hby d3_9) rfl (teq (by decide : (16384 : Int32) = (16384 : Int32))).2 hr) ?_
  refine Goes.step (T2 := s₁) (g2 := (mkF m 13 #[rv t1, iv p1, rv o1, rv o2, rv o3, .val .null] [(.ref t1)])) (fun _ hr => XS.aloadN X0.here hx rfl (hb hby d3_12) rfl rfl hr) ?_
  refine Goes.step (T2 := s₁) (g2 := (mkF m 14 #[rv t1, iv p1, rv o1, rv o2, rv o3, .val .null] [(.int p1), (.ref t1)])) (fun _ hr => XS.iloadN X0.here hx rfl (hb hby d3_13) rfl  hr) ?_
  obtain ⟨cl68, Ar68, q68, S68, Nn68, H68, G68⟩ := id V_t1
  have hin68 : ¬ (p1 < 0 ∨ cl68.slots.size ≤ (p1).toNatClampNeg) := inb_of S68 hinb
  refine Goes.step (T2 := s₁) (g2 := (mkF m 15 #[rv t1, iv p1, rv o1, rv o2, rv o3, .val .null] [(.int (0 : Int32))])) (X0.baloadBytes hx (j := p1) (v := (.int (0 : Int32))) (own_at e0 Ar68.1) (State.isArrayOf_alike hZ.alike Ar68.2.1) Ar68.2.2 hin68 (H68.at hin68 (by simp)) (g := (mkF m 14 #[rv t1, iv p1, rv o1, rv o2, rv o3, .val .null] [(.int p1), (.ref t1)])) rfl rfl (hb hby d3_14)) ?_
  refine Goes.step (T2 := s₁) (g2 := (mkF m 18 #[rv t1, iv p1, rv o1, rv o2, rv o3, .val .null] [])) (fun _ hr => XS.ifNo X0.here hx rfl (hb hby d3_15) rfl ((if0 _ _).trans (teq (by decide : (0 : Int32) = (0 : Int32))).2) hr) ?_
  refine Goes.step (T2 := s₁) (g2 := (mkF m 19 #[rv t1, iv p1, rv o1, rv o2, rv o3, .val .null] [(.ref t1)])) (fun _ hr => XS.aloadN X0.here hx rfl (hb hby d3_18) rfl rfl hr) ?_
  refine Goes.step (T2 := s₁) (g2 := (mkF m 20 #[rv t1, iv p1, rv o1, rv o2, rv o3, .val .null] [(.ref o1), (.ref t1)])) (fun _ hr => XS.aloadN X0.here hx rfl (hb hby d3_19) rfl rfl hr) ?_
  refine Goes.step (T2 := s₁) (g2 := (mkF m 23 #[rv t1, iv p1, rv o1, rv o2, rv o3, .val .null] [])) (fun _ hr => Jvm.RoadKit.acmp (g := (mkF m 20 #[rv t1, iv p1, rv o1, rv o2, rv o3, .val .null] [(.ref o1), (.ref t1)])) X0 hx rfl rfl rfl (pc0 := 20) (pc' := 23) (same := false) rfl (hb hby d3_20) rfl (decide_eq_false fun q => ne_t1_o1 (Value.ref.inj q)) (by decide) (by decide) hr) ?_
  refine Goes.step (T2 := s₁) (g2 := (mkF m 24 #[rv t1, iv p1, rv o1, rv o2, rv o3, .val .null] [(.ref t1)])) (fun _ hr => XS.aloadN X0.here hx rfl (hb hby d3_23) rfl rfl hr) ?_
  refine Goes.step (T2 := s₁) (g2 := (mkF m 25 #[rv t1, iv p1, rv o1, rv o2, rv o3, .val .null] [(.ref o2), (.ref t1)])) (fun _ hr => XS.aloadN X0.here hx rfl (hb hby d3_24) rfl rfl hr) ?_
  refine Goes.step (T2 := s₁) (g2 := (mkF m 28 #[rv t1, iv p1, rv o1, rv o2, rv o3, .val .null] [])) (fun _ hr => Jvm.RoadKit.acmp (g := (mkF m 25 #[rv t1, iv p1, rv o1, rv o2, rv o3, .val .null] [(.ref o2), (.ref t1)])) X0 hx rfl rfl rfl (pc0 := 25) (pc' := 28) (same := false) rfl (hb hby d3_25) rfl (decide_eq_false fun q => ne_t1_o2 (Value.ref.inj q)) (by decide) (by decide) hr) ?_
  refine Goes.step (T2 := s₁) (g2 := (mkF m 29 #[rv t1, iv p1, rv o1, rv o2, rv o3, .val .null] [(.ref t1)])) (fun _ hr => XS.aloadN X0.here hx rfl (hb hby d3_28) rfl rfl hr) ?_
  refine Goes.step (T2 := s₁) (g2 := (mkF m 31 #[rv t1, iv p1, rv o1, rv o2, rv o3, .val .null] [(.ref o3), (.ref t1)])) (fun _ hr => XS.aload X0.here hx rfl (hb hby d3_29) rfl rfl hr) ?_
  refine Goes.step (T2 := s₁) (g2 := (mkF m 34 #[rv t1, iv p1, rv o1, rv o2, rv o3, .val .null] [])) (fun _ hr => Jvm.RoadKit.acmp (g := (mkF m 31 #[rv t1, iv p1, rv o1, rv o2, rv o3, .val .null] [(.ref o3), (.ref t1)])) X0 hx rfl rfl rfl (pc0 := 31) (pc' := 34) (same := false) rfl (hb hby d3_31) rfl (decide_eq_false fun q => ne_t1_o3 (Value.ref.inj q)) (by decide) (by decide) hr) ?_
  refine Goes.step (T2 := s₁) (g2 := (mkF m 35 #[rv t1, iv p1, rv o1, rv o2, rv o3, .val .null] [(.ref t1)])) (fun _ hr => XS.aloadN X0.here hx rfl (hb hby d3_34) rfl rfl hr) ?_
  refine Goes.step (T2 := s₁) (g2 := (mkF m 37 #[rv t1, iv p1, rv o1, rv o2, rv o3, .val .null] [.null, (.ref t1)])) (fun _ hr => XS.aload X0.here hx rfl (hb hby d3_35) rfl rfl hr) ?_
  refine Goes.step (T2 := s₁) (g2 := (mkF m 40 #[rv t1, iv p1, rv o1, rv o2, rv o3, .val .null] [])) (fun _ hr => Jvm.RoadKit.acmp (g := (mkF m 37 #[rv t1, iv p1, rv o1, rv o2, rv o3, .val .null] [.null, (.ref t1)])) X0 hx rfl rfl rfl (pc0 := 37) (pc' := 40) (same := false) rfl (hb hby d3_37) rfl (decide_eq_false nofun) (by decide) (by decide) hr) ?_
  refine Goes.step (T2 := s₁) (g2 := (mkF m 41 #[rv t1, iv p1, rv o1, rv o2, rv o3, .val .null] [(.int (1 : Int32))])) (fun _ hr => XS.iconst X0.here hx rfl (hb hby d3_40) hr) ?_
  refine Goes.step (T2 := s₁) (g2 := (mkF m 45 #[rv t1, iv p1, rv o1, rv o2, rv o3, .val .null] [(.int (1 : Int32))])) (fun _ hr => XS.goto X0.here hx rfl (pc0 := 41) (pc' := 45) rfl (hb hby d3_41) (by decide) (by decide) hr) ?_
  exact Goes.ret (v := some (.int (1 : Int32))) X0 (by decide) (by decide) (fun h => by rw [Bd.returns] at h; cases h) ⟨rfl, N0, e0⟩ (fun fs hr => retN X0 hx (t := .boolean) Bd.returns (by simp) (hb hby d3_45) hr)
def Q_rm_fresh4 (Z : State) (t1 : Addr) (p1 : Int32) (kw : ClassId) (o1 : Addr) (o2 : Addr) (o3 : Addr) (o4 : Addr) (h0 : Heap) (n0 : Nat) (v : Option Value) (h : Heap) (L : List Loc) : Prop := v = some (.int (1 : Int32)) ∧ Fr n0 L ∧ h = h0
set_option maxRecDepth 65536 in
set_option maxHeartbeats 40000000 in
theorem rm_fresh4 (l : Launch) (Z : State) (a0 : Array Value) (hw : ∀ d ∈ tables_1, d.before a0 Z = true) (ws : List Jvm.Cond) (t1 : Addr) (p1 : Int32) (kw : ClassId) (o1 : Addr) (o2 : Addr) (o3 : Addr) (o4 : Addr) (h0 : Heap) (n0 : Nat) (Z0 : n0 ≤ h0.size) (O0 : Old Z n0 h0) (V_t1 : Arv Z h0 t1 kw .byte (16384 : Int32) [] (.int (0 : Int32))) (ne_t1_o1 : t1 ≠ o1) (ne_t1_o2 : t1 ≠ o2) (ne_t1_o3 : t1 ≠ o3) (ne_t1_o4 : t1 ≠ o4) (hinb : ¬ (p1 < 0) ∧ p1 < (16384 : Int32)) :
    MetFree l Y3 (head1 (Jvm.Cond.code Y3 method_2_code 6 (some .boolean) :: ws) ({ frames := 0, cells := 0, slots := 0, locals := 0 } : Room)) (fun a U => a = #[(.ref t1), (.int p1), (.ref o1), (.ref o2), (.ref o3), (.ref o4)] ∧ Z.Warmed39 U.vm ∧ U.heap = h0) (fun _ _ _ _ _ => True) (fun _ U o U' => ∃ v L, o = .returned v ∧ Q_rm_fresh4 Z t1 p1 kw o1 o2 o3 o4 h0 n0 v U'.heap L ∧ FrameEnd U o U' L ({ frames := 0, cells := 0, slots := 0, locals := 0 } : Room).cells ({ frames := 0, cells := 0, slots := 0, locals := 0 } : Room).slots) := by
  refine MetFree.of_bodySF (plainFor_of_name pn_com_example_api_policy_gateway_apipolicygateway_net_BufferPoolTakePinLaw) hisR ?_
  intro p e s m args below meth c s₁ Bd hml0 hP hK
  obtain ⟨rfl, hZ, hh⟩ := hP
  have hx := Bd.exec
  have hby := Bd.bytes
  have hml : c.maxLocals = 6 := hml0
  have hown : s.vm.findClass "com/example/api_policy_gateway/apipolicygateway/net/BufferPoolTakePinLaw" = some m.cls := findClass_of_methodNamed Bd.named
  have hnm := (name_of_methodNamed Bd.named Bd.method).1
  have X0 : Stand p l e ({ frames := 0, cells := 0, slots := 0, locals := 0 } : Room) s m #[(.ref t1), (.int p1), (.ref o1), (.ref o2), (.ref o3), (.ref o4)] below meth c s₁ [] 0 0 := Stand.of_body Bd
  have e0 : s₁.heap = h0 := by rw [← hh, Bd.state]; rfl
  have N0 := Fr.nil n0
  refine Goes.out (l := l) (c := c) (R := ({ frames := 0, cells := 0, slots := 0, locals := 0 } : Room)) (Q := Q_rm_fresh4 Z t1 p1 kw o1 o2 o3 o4 h0 n0) Bd.notSynchronized ?_
  refine Goes.cast (g2 := mkF m 0 #[rv t1, iv p1, rv o1, rv o2, rv o3, rv o4] []) (by first | (simp [entryFrame, mkF, argsToLocals, Value.category]; done) | rfl) ?_
  have K0 : Keep h0 h0 [] := Keep.refl h0 _
  have hws : ∀ x ∈ ([] : List Addr), n0 ≤ x := all0
  refine Goes.step (T2 := s₁) (g2 := (mkF m 1 #[rv t1, iv p1, rv o1, rv o2, rv o3, rv o4] [(.ref t1)])) (fun _ hr => XS.aloadN X0.here hx rfl (hb hby d3_0) rfl rfl hr) ?_
  refine Goes.step (T2 := s₁) (g2 := (mkF m 4 #[rv t1, iv p1, rv o1, rv o2, rv o3, rv o4] [])) (fun _ hr => XS.ifnullNo X0.here hx rfl (hb hby d3_1) rfl hr) ?_
  refine Goes.step (T2 := s₁) (g2 := (mkF m 5 #[rv t1, iv p1, rv o1, rv o2, rv o3, rv o4] [(.ref t1)])) (fun _ hr => XS.aloadN X0.here hx rfl (hb hby d3_4) rfl rfl hr) ?_
  obtain ⟨cl69, Ar69, -, S69, Nn69, -, -⟩ := id V_t1
  refine Goes.step (T2 := s₁) (g2 := (mkF m 6 #[rv t1, iv p1, rv o1, rv o2, rv o3, rv o4] [(.int (16384 : Int32))])) (fun t hr => X0.arraylength hx (own_at e0 Ar69.1) (State.isArrayOf_alike hZ.alike Ar69.2.1) (g := (mkF m 5 #[rv t1, iv p1, rv o1, rv o2, rv o3, rv o4] [(.ref t1)])) rfl rfl (hb hby d3_5) t (by rw [len_of S69 Nn69]; exact hr)) ?_
  refine Goes.step (T2 := s₁) (g2 := (mkF m 9 #[rv t1, iv p1, rv o1, rv o2, rv o3, rv o4] [(.int (16384 : Int32)), (.int (16384 : Int32))])) (fun _ hr => XS.sipush X0.here hx rfl (hb hby d3_6) hr) ?_
  refine Goes.step (T2 := s₁) (g2 := (mkF m 12 #[rv t1, iv p1, rv o1, rv o2, rv o3, rv o4] [])) (fun _ hr => XS.icmpNo X0.here hx rfl (hb hby d3_9) rfl (teq (by decide : (16384 : Int32) = (16384 : Int32))).2 hr) ?_
  refine Goes.step (T2 := s₁) (g2 := (mkF m 13 #[rv t1, iv p1, rv o1, rv o2, rv o3, rv o4] [(.ref t1)])) (fun _ hr => XS.aloadN X0.here hx rfl (hb hby d3_12) rfl rfl hr) ?_
  refine Goes.step (T2 := s₁) (g2 := (mkF m 14 #[rv t1, iv p1, rv o1, rv o2, rv o3, rv o4] [(.int p1), (.ref t1)])) (fun _ hr => XS.iloadN X0.here hx rfl (hb hby d3_13) rfl  hr) ?_
  obtain ⟨cl70, Ar70, q70, S70, Nn70, H70, G70⟩ := id V_t1
  have hin70 : ¬ (p1 < 0 ∨ cl70.slots.size ≤ (p1).toNatClampNeg) := inb_of S70 hinb
  refine Goes.step (T2 := s₁) (g2 := (mkF m 15 #[rv t1, iv p1, rv o1, rv o2, rv o3, rv o4] [(.int (0 : Int32))])) (X0.baloadBytes hx (j := p1) (v := (.int (0 : Int32))) (own_at e0 Ar70.1) (State.isArrayOf_alike hZ.alike Ar70.2.1) Ar70.2.2 hin70 (H70.at hin70 (by simp)) (g := (mkF m 14 #[rv t1, iv p1, rv o1, rv o2, rv o3, rv o4] [(.int p1), (.ref t1)])) rfl rfl (hb hby d3_14)) ?_
  refine Goes.step (T2 := s₁) (g2 := (mkF m 18 #[rv t1, iv p1, rv o1, rv o2, rv o3, rv o4] [])) (fun _ hr => XS.ifNo X0.here hx rfl (hb hby d3_15) rfl ((if0 _ _).trans (teq (by decide : (0 : Int32) = (0 : Int32))).2) hr) ?_
  refine Goes.step (T2 := s₁) (g2 := (mkF m 19 #[rv t1, iv p1, rv o1, rv o2, rv o3, rv o4] [(.ref t1)])) (fun _ hr => XS.aloadN X0.here hx rfl (hb hby d3_18) rfl rfl hr) ?_
  refine Goes.step (T2 := s₁) (g2 := (mkF m 20 #[rv t1, iv p1, rv o1, rv o2, rv o3, rv o4] [(.ref o1), (.ref t1)])) (fun _ hr => XS.aloadN X0.here hx rfl (hb hby d3_19) rfl rfl hr) ?_
  refine Goes.step (T2 := s₁) (g2 := (mkF m 23 #[rv t1, iv p1, rv o1, rv o2, rv o3, rv o4] [])) (fun _ hr => Jvm.RoadKit.acmp (g := (mkF m 20 #[rv t1, iv p1, rv o1, rv o2, rv o3, rv o4] [(.ref o1), (.ref t1)])) X0 hx rfl rfl rfl (pc0 := 20) (pc' := 23) (same := false) rfl (hb hby d3_20) rfl (decide_eq_false fun q => ne_t1_o1 (Value.ref.inj q)) (by decide) (by decide) hr) ?_
  refine Goes.step (T2 := s₁) (g2 := (mkF m 24 #[rv t1, iv p1, rv o1, rv o2, rv o3, rv o4] [(.ref t1)])) (fun _ hr => XS.aloadN X0.here hx rfl (hb hby d3_23) rfl rfl hr) ?_
  refine Goes.step (T2 := s₁) (g2 := (mkF m 25 #[rv t1, iv p1, rv o1, rv o2, rv o3, rv o4] [(.ref o2), (.ref t1)])) (fun _ hr => XS.aloadN X0.here hx rfl (hb hby d3_24) rfl rfl hr) ?_
  refine Goes.step (T2 := s₁) (g2 := (mkF m 28 #[rv t1, iv p1, rv o1, rv o2, rv o3, rv o4] [])) (fun _ hr => Jvm.RoadKit.acmp (g := (mkF m 25 #[rv t1, iv p1, rv o1, rv o2, rv o3, rv o4] [(.ref o2), (.ref t1)])) X0 hx rfl rfl rfl (pc0 := 25) (pc' := 28) (same := false) rfl (hb hby d3_25) rfl (decide_eq_false fun q => ne_t1_o2 (Value.ref.inj q)) (by decide) (by decide) hr) ?_
  refine Goes.step (T2 := s₁) (g2 := (mkF m 29 #[rv t1, iv p1, rv o1, rv o2, rv o3, rv o4] [(.ref t1)])) (fun _ hr => XS.aloadN X0.here hx rfl (hb hby d3_28) rfl rfl hr) ?_
  refine Goes.step (T2 := s₁) (g2 := (mkF m 31 #[rv t1, iv p1, rv o1, rv o2, rv o3, rv o4] [(.ref o3), (.ref t1)])) (fun _ hr => XS.aload X0.here hx rfl (hb hby d3_29) rfl rfl hr) ?_
  refine Goes.step (T2 := s₁) (g2 := (mkF m 34 #[rv t1, iv p1, rv o1, rv o2, rv o3, rv o4] [])) (fun _ hr => Jvm.RoadKit.acmp (g := (mkF m 31 #[rv t1, iv p1, rv o1, rv o2, rv o3, rv o4] [(.ref o3), (.ref t1)])) X0 hx rfl rfl rfl (pc0 := 31) (pc' := 34) (same := false) rfl (hb hby d3_31) rfl (decide_eq_false fun q => ne_t1_o3 (Value.ref.inj q)) (by decide) (by decide) hr) ?_
  refine Goes.step (T2 := s₁) (g2 := (mkF m 35 #[rv t1, iv p1, rv o1, rv o2, rv o3, rv o4] [(.ref t1)])) (fun _ hr => XS.aloadN X0.here hx rfl (hb hby d3_34) rfl rfl hr) ?_
  refine Goes.step (T2 := s₁) (g2 := (mkF m 37 #[rv t1, iv p1, rv o1, rv o2, rv o3, rv o4] [(.ref o4), (.ref t1)])) (fun _ hr => XS.aload X0.here hx rfl (hb hby d3_35) rfl rfl hr) ?_
  refine Goes.step (T2 := s₁) (g2 := (mkF m 40 #[rv t1, iv p1, rv o1, rv o2, rv o3, rv o4] [])) (fun _ hr => Jvm.RoadKit.acmp (g := (mkF m 37 #[rv t1, iv p1, rv o1, rv o2, rv o3, rv o4] [(.ref o4), (.ref t1)])) X0 hx rfl rfl rfl (pc0 := 37) (pc' := 40) (same := false) rfl (hb hby d3_37) rfl (decide_eq_false fun q => ne_t1_o4 (Value.ref.inj q)) (by decide) (by decide) hr) ?_
  refine Goes.step (T2 := s₁) (g2 := (mkF m 41 #[rv t1, iv p1, rv o1, rv o2, rv o3, rv o4] [(.int (1 : Int32))])) (fun _ hr => XS.iconst X0.here hx rfl (hb hby d3_40) hr) ?_
  refine Goes.step (T2 := s₁) (g2 := (mkF m 45 #[rv t1, iv p1, rv o1, rv o2, rv o3, rv o4] [(.int (1 : Int32))])) (fun _ hr => XS.goto X0.here hx rfl (pc0 := 41) (pc' := 45) rfl (hb hby d3_41) (by decide) (by decide) hr) ?_
  exact Goes.ret (v := some (.int (1 : Int32))) X0 (by decide) (by decide) (fun h => by rw [Bd.returns] at h; cases h) ⟨rfl, N0, e0⟩ (fun fs hr => retN X0 hx (t := .boolean) Bd.returns (by simp) (hb hby d3_45) hr)
def Q_rm_law (Z : State) (p1 : Int32) (p2 : Int32) (h0 : Heap) (n0 : Nat) (v : Option Value) (h : Heap) (L : List Loc) : Prop := v = some (.int (1 : Int32)) ∧ Fr n0 L
set_option maxRecDepth 65536 in
set_option maxHeartbeats 40000000 in
theorem rm_law (l : Launch) (Z : State) (a0 : Array Value) (hw : ∀ d ∈ tables_1, d.before a0 Z = true) (ws : List Jvm.Cond) (p1 : Int32) (p2 : Int32) (h0 : Heap) (n0 : Nat) (Z0 : n0 ≤ h0.size) (O0 : Old Z n0 h0) :
    MetFree l x (head1 (Jvm.Cond.code x code maxLocals ret :: ws) room_1) (fun a U => a = #[(.int p1), (.int p2)] ∧ Z.Warmed39 U.vm ∧ U.heap = h0) (fun _ _ _ _ _ => True) (fun _ U o U' => ∃ v L, o = .returned v ∧ Q_rm_law Z p1 p2 h0 n0 v U'.heap L ∧ FrameEnd U o U' L room_1.cells room_1.slots) := by
  refine MetFree.of_bodySF (plainFor_of_name pn_com_example_api_policy_gateway_apipolicygateway_net_BufferPoolTakePinLaw) hisR ?_
  intro p e s m args below meth c s₁ Bd hml0 hP hK
  obtain ⟨rfl, hZ, hh⟩ := hP
  have hx := Bd.exec
  have hby := Bd.bytes
  have hml : c.maxLocals = 15 := hml0
  have hown : s.vm.findClass "com/example/api_policy_gateway/apipolicygateway/net/BufferPoolTakePinLaw" = some m.cls := findClass_of_methodNamed Bd.named
  have hnm := (name_of_methodNamed Bd.named Bd.method).1
  have X0 : Stand p l e room_1 s m #[(.int p1), (.int p2)] below meth c s₁ [] 0 0 := Stand.of_body Bd
  have e0 : s₁.heap = h0 := by rw [← hh, Bd.state]; rfl
  have N0 := Fr.nil n0
  refine Goes.out (l := l) (c := c) (R := room_1) (Q := Q_rm_law Z p1 p2 h0 n0) Bd.notSynchronized ?_
  refine Goes.cast (g2 := mkF m 0 #[iv p1, iv p2, .unset, .unset, .unset, .unset, .unset, .unset, .unset, .unset, .unset, .unset, .unset, .unset, .unset] []) (by first | (simp [entryFrame, mkF, argsToLocals, Value.category, maxLocals]; done) | rfl) ?_
  have K0 : Keep h0 h0 [] := Keep.refl h0 _
  have hws : ∀ x ∈ ([] : List Addr), n0 ≤ x := all0
  have hinb := own_idx p2
  refine Goes.step (T2 := s₁) (g2 := (mkF m 1 #[iv p1, iv p2, .unset, .unset, .unset, .unset, .unset, .unset, .unset, .unset, .unset, .unset, .unset, .unset, .unset] [(.int p2)])) (fun _ hr => XS.iloadN X0.here hx rfl (hb hby at_0) rfl  hr) ?_
  refine Goes.step (T2 := s₁) (g2 := (mkF m 4 #[iv p1, iv p2, .unset, .unset, .unset, .unset, .unset, .unset, .unset, .unset, .unset, .unset, .unset, .unset, .unset] [(.int (16383 : Int32)), (.int p2)])) (fun _ hr => XS.sipush X0.here hx rfl (hb hby at_1) hr) ?_
  refine Goes.step (T2 := s₁) (g2 := (mkF m 5 #[iv p1, iv p2, .unset, .unset, .unset, .unset, .unset, .unset, .unset, .unset, .unset, .unset, .unset, .unset, .unset] [(.int (p2 &&& (16383 : Int32)))])) (fun _ hr => XS.iand X0.here hx rfl (hb hby at_4) rfl hr) ?_
  refine Goes.step (T2 := s₁) (g2 := (mkF m 6 #[iv p1, iv p2, iv (p2 &&& (16383 : Int32)), .unset, .unset, .unset, .unset, .unset, .unset, .unset, .unset, .unset, .unset, .unset, .unset] [])) (fun _ hr => XS.istoreN X0.here hx rfl (hb hby at_5) rfl (l' := #[iv p1, iv p2, iv (p2 &&& (16383 : Int32)), .unset, .unset, .unset, .unset, .unset, .unset, .unset, .unset, .unset, .unset, .unset, .unset]) rfl hr) ?_
  obtain ⟨T71, h71, X71, e71, E71, A71, D71, -, st71⟩ := newO X0 hx hZ hown (tw hw 0 rfl) (tw hw 1 rfl) (tw hw 2 rfl) e0 (g := (mkF m 6 #[iv p1, iv p2, iv (p2 &&& (16383 : Int32)), .unset, .unset, .unset, .unset, .unset, .unset, .unset, .unset, .unset, .unset, .unset, .unset] [])) rfl (hb hby at_6) (by decide) (by decide)
  obtain ⟨b71, g71⟩ : ∃ z, z = h0.size := ⟨_, rfl⟩
  rw [← g71] at A71 D71 st71
  have sz_b71 : h0.size ≤ b71 := Nat.le_trans K0.1 (Nat.le_of_eq g71.symm)
  have ge_b71 : n0 ≤ b71 := Nat.le_trans Z0 sz_b71
  have K71 : Keep h0 h71 [] := K0.ext E71
  have F_b71_spare_71 : Fld Z h71 b71 "com/example/api_policy_gateway/apipolicygateway/net/BufferPool" "spare" "[[B" .null := D71 (Or.inr (tw hw 12 rfl)) (ty := (.array (.array .byte))) (by decide)
  have F_b71_spareCount_71 : Fld Z h71 b71 "com/example/api_policy_gateway/apipolicygateway/net/BufferPool" "spareCount" "I" (.int (0 : Int32)) := D71 (Or.inl (tw hw 19 rfl)) (ty := .int) (by decide)
  refine Goes.step (T2 := T71) (g2 := (mkF m 9 #[iv p1, iv p2, iv (p2 &&& (16383 : Int32)), .unset, .unset, .unset, .unset, .unset, .unset, .unset, .unset, .unset, .unset, .unset, .unset] [(.ref b71)])) st71 ?_
  refine Goes.step (T2 := T71) (g2 := (mkF m 10 #[iv p1, iv p2, iv (p2 &&& (16383 : Int32)), .unset, .unset, .unset, .unset, .unset, .unset, .unset, .unset, .unset, .unset, .unset, .unset] [(.ref b71), (.ref b71)])) (fun _ hr => XS.dup X71.here hx rfl (hb hby at_9) rfl rfl hr) ?_
  have Zs72 : n0 ≤ h71.size := Nat.le_trans Z0 K71.1
  obtain ⟨_, _, ⟨T73, L73, k73, n73⟩, -, X73, ⟨Lc73, hQ73, l73, y73, z73⟩, st73⟩ := X71.specialBack hx (y := Y0) rfl hown (mvT hZ (tw hw 3 rfl)) (mvT hZ (tw hw 4 rfl)) (mvT hZ (tw hw 5 rfl)) (by decide) (backOf (W := 1) (rm_pool l Z a0 hw [] b71 h71 n0 Zs72 (Old.keep O0 K71 hws) A71 F_b71_spare_71 F_b71_spareCount_71 ge_b71) hZ (tw hw 5 rfl) (tw hw 2 rfl) (by decide) (by decide)) (g := (mkF m 10 #[iv p1, iv p2, iv (p2 &&& (16383 : Int32)), .unset, .unset, .unset, .unset, .unset, .unset, .unset, .unset, .unset, .unset, .unset, .unset] [(.ref b71), (.ref b71)])) rfl (by rw [hml]; rfl) (Steps.refl _) (a := b71) (argsL := []) (rest := [(.ref b71)]) (lenOf pd_0 rfl) rfl (by show 2 * 0 + _ ≤ _; exact Nat.le_of_eq rfl) (hb hby at_10) (fun _ _ => ⟨rfl, e71, (by decide : 1 + 1 ≤ _), (by decide : 2 + 64 ≤ _)⟩)
  dsimp only [Pt.U, Pt.locs, Pt.cells, Pt.slots] at X73 l73 y73 z73 st73 hQ73
  subst l73 y73 z73
  obtain ⟨sp73, k73, rfl, N73q, Kc73, P73_0, P73_1, P73_2, P73_3, P73_4⟩ := hQ73
  have N73 := Fr.app N0 N73q
  have E_b71_73 : Exa Z T73.heap b71 "com/example/api_policy_gateway/apipolicygateway/net/BufferPool" := A71.keep Kc73
  have K73 : Keep h0 T73.heap [] := K71.trans Kc73 (allS (Or.inr sz_b71) all0)
  have sz_sp73 : h0.size ≤ sp73 := Nat.le_trans K71.1 P73_0
  have ge_sp73 : n0 ≤ sp73 := Nat.le_trans Z0 sz_sp73
  have F_b71_spare_73c : Fld Z T73.heap b71 "com/example/api_policy_gateway/apipolicygateway/net/BufferPool" "spare" "[[B" (.ref sp73) := P73_1
  have F_b71_spareCount_73c : Fld Z T73.heap b71 "com/example/api_policy_gateway/apipolicygateway/net/BufferPool" "spareCount" "I" (.int (0 : Int32)) := P73_2
  have V_sp73_73c : Arv Z T73.heap sp73 k73 (.array .byte) (64 : Int32) [.null, .null, .null] .null := P73_3
  refine Goes.step (T2 := T73) (g2 := (mkF m 13 #[iv p1, iv p2, iv (p2 &&& (16383 : Int32)), .unset, .unset, .unset, .unset, .unset, .unset, .unset, .unset, .unset, .unset, .unset, .unset] [(.ref b71)])) (fun _ hr => st73.trans hr) ?_
  refine Goes.step (T2 := T73) (g2 := (mkF m 14 #[iv p1, iv p2, iv (p2 &&& (16383 : Int32)), rv b71, .unset, .unset, .unset, .unset, .unset, .unset, .unset, .unset, .unset, .unset, .unset] [])) (fun _ hr => XS.astoreN X73.here hx rfl (hb hby at_13) rfl rfl (l' := #[iv p1, iv p2, iv (p2 &&& (16383 : Int32)), rv b71, .unset, .unset, .unset, .unset, .unset, .unset, .unset, .unset, .unset, .unset, .unset]) rfl hr) ?_
  refine Goes.step (T2 := T73) (g2 := (mkF m 15 #[iv p1, iv p2, iv (p2 &&& (16383 : Int32)), rv b71, .unset, .unset, .unset, .unset, .unset, .unset, .unset, .unset, .unset, .unset, .unset] [(.ref b71)])) (fun _ hr => XS.aloadN X73.here hx rfl (hb hby at_14) rfl rfl hr) ?_
  have Zs74 : n0 ≤ T73.heap.size := Nat.le_trans Z0 K73.1
  obtain ⟨cq75, kq75, q75a, q75b, q75c⟩ := isOf hZ rfl E_b71_73
  obtain ⟨_, _, ⟨T75, L75, k75, n75⟩, -, X75, ⟨Lc75, hQ75, l75, y75, z75⟩, st75⟩ := X73.virtualBack hx (y := Y1) (z := Y1) hown (mvT hZ (tw hw 13 rfl)) (mvT hZ (tw hw 14 rfl)) (notFace_of_selects (args := #[]) (mvT hZ (tw hw 16 rfl))) (mvT hZ (tw hw 16 rfl)) (mvT hZ (tw hw 15 rfl)) (by decide) (backOf (W := 0) (rm_take0 l Z a0 hw [] b71 T73.heap n0 Zs74 (Old.keep O0 K73 hws) F_b71_spareCount_73c) hZ (tw hw 17 rfl) (tw hw 2 rfl) (by decide) (by decide)) q75a q75c (g := (mkF m 15 #[iv p1, iv p2, iv (p2 &&& (16383 : Int32)), rv b71, .unset, .unset, .unset, .unset, .unset, .unset, .unset, .unset, .unset, .unset, .unset] [(.ref b71)])) rfl (by rw [hml]; rfl) (Steps.refl _) (argsL := []) (rest := []) (lenOf pd_1 rfl) rfl (by show 2 * 0 + _ ≤ _; exact Nat.le_of_eq rfl) (hb hby at_15) (fun _ _ => ⟨rfl, rfl, (by decide : 2 + 1 ≤ _), (by decide : 66 + 16384 ≤ _)⟩)
  dsimp only [Pt.U, Pt.locs, Pt.cells, Pt.slots] at X75 l75 y75 z75 st75 hQ75
  subst l75 y75 z75
  obtain ⟨w75, kw75, rfl, N75q, Kc75, P75_0, P75_1, P75_2⟩ := hQ75
  have N75 := Fr.app N73 N75q
  have E_b71_75 : Exa Z T75.heap b71 "com/example/api_policy_gateway/apipolicygateway/net/BufferPool" := E_b71_73.keep Kc75
  have F_b71_spare_75 : Fld Z T75.heap b71 "com/example/api_policy_gateway/apipolicygateway/net/BufferPool" "spare" "[[B" (.ref sp73) := F_b71_spare_73c.keep Kc75 nin0
  have F_b71_spareCount_75 : Fld Z T75.heap b71 "com/example/api_policy_gateway/apipolicygateway/net/BufferPool" "spareCount" "I" (.int (0 : Int32)) := F_b71_spareCount_73c.keep Kc75 nin0
  have V_sp73_75 : Arv Z T75.heap sp73 k73 (.array .byte) (64 : Int32) [.null, .null, .null] .null := V_sp73_73c.keep Kc75 nin0
  have K75 : Keep h0 T75.heap [] := K73.trans Kc75 all0
  have sz_w75 : h0.size ≤ w75 := Nat.le_trans K73.1 P75_0
  have ge_w75 : n0 ≤ w75 := Nat.le_trans Z0 sz_w75
  have E_w75_75c : Exa Z T75.heap w75 "[B" := P75_1
  have V_w75_75c : Arv Z T75.heap w75 kw75 .byte (16384 : Int32) [] (.int (0 : Int32)) := P75_2
  refine Goes.step (T2 := T75) (g2 := (mkF m 18 #[iv p1, iv p2, iv (p2 &&& (16383 : Int32)), rv b71, .unset, .unset, .unset, .unset, .unset, .unset, .unset, .unset, .unset, .unset, .unset] [(.ref w75)])) (fun _ hr => st75.trans hr) ?_
  refine Goes.step (T2 := T75) (g2 := (mkF m 20 #[iv p1, iv p2, iv (p2 &&& (16383 : Int32)), rv b71, rv w75, .unset, .unset, .unset, .unset, .unset, .unset, .unset, .unset, .unset, .unset] [])) (fun _ hr => XS.astore X75.here hx rfl (hb hby at_18) rfl rfl (l' := #[iv p1, iv p2, iv (p2 &&& (16383 : Int32)), rv b71, rv w75, .unset, .unset, .unset, .unset, .unset, .unset, .unset, .unset, .unset, .unset]) rfl hr) ?_
  refine Goes.step (T2 := T75) (g2 := (mkF m 22 #[iv p1, iv p2, iv (p2 &&& (16383 : Int32)), rv b71, rv w75, .unset, .unset, .unset, .unset, .unset, .unset, .unset, .unset, .unset, .unset] [(.ref w75)])) (fun _ hr => XS.aload X75.here hx rfl (hb hby at_20) rfl rfl hr) ?_
  refine Goes.step (T2 := T75) (g2 := (mkF m 23 #[iv p1, iv p2, iv (p2 &&& (16383 : Int32)), rv b71, rv w75, .unset, .unset, .unset, .unset, .unset, .unset, .unset, .unset, .unset, .unset] [(.int (p2 &&& (16383 : Int32))), (.ref w75)])) (fun _ hr => XS.iloadN X75.here hx rfl (hb hby at_22) rfl  hr) ?_
  refine Goes.step (T2 := T75) (g2 := (mkF m 24 #[iv p1, iv p2, iv (p2 &&& (16383 : Int32)), rv b71, rv w75, .unset, .unset, .unset, .unset, .unset, .unset, .unset, .unset, .unset, .unset] [.null, (.int (p2 &&& (16383 : Int32))), (.ref w75)])) (fun _ hr => XS.aconstNull X75.here hx rfl (hb hby at_23) hr) ?_
  refine Goes.step (T2 := T75) (g2 := (mkF m 25 #[iv p1, iv p2, iv (p2 &&& (16383 : Int32)), rv b71, rv w75, .unset, .unset, .unset, .unset, .unset, .unset, .unset, .unset, .unset, .unset] [.null, .null, (.int (p2 &&& (16383 : Int32))), (.ref w75)])) (fun _ hr => XS.aconstNull X75.here hx rfl (hb hby at_24) hr) ?_
  refine Goes.step (T2 := T75) (g2 := (mkF m 26 #[iv p1, iv p2, iv (p2 &&& (16383 : Int32)), rv b71, rv w75, .unset, .unset, .unset, .unset, .unset, .unset, .unset, .unset, .unset, .unset] [.null, .null, .null, (.int (p2 &&& (16383 : Int32))), (.ref w75)])) (fun _ hr => XS.aconstNull X75.here hx rfl (hb hby at_25) hr) ?_
  refine Goes.step (T2 := T75) (g2 := (mkF m 27 #[iv p1, iv p2, iv (p2 &&& (16383 : Int32)), rv b71, rv w75, .unset, .unset, .unset, .unset, .unset, .unset, .unset, .unset, .unset, .unset] [.null, .null, .null, .null, (.int (p2 &&& (16383 : Int32))), (.ref w75)])) (fun _ hr => XS.aconstNull X75.here hx rfl (hb hby at_26) hr) ?_
  have Zs76 : n0 ≤ T75.heap.size := Nat.le_trans Z0 K75.1
  obtain ⟨_, _, ⟨T77, L77, k77, n77⟩, -, X77, ⟨Lc77, hQ77, l77, y77, z77⟩, st77⟩ := Jvm.LawKit.callS X75 hx (y := Y3) hown (mvT hZ (tw hw 21 rfl)) (mvT hZ (tw hw 22 rfl)) (mvT hZ (tw hw 23 rfl)) (mvT hZ (tw hw 24 rfl)) (by decide) (backOf (W := 0) (rm_fresh0 l Z a0 hw [] w75 (p2 &&& (16383 : Int32)) kw75 T75.heap n0 Zs76 (Old.keep O0 K75 hws) V_w75_75c hinb) hZ (tw hw 24 rfl) (tw hw 23 rfl) (by decide) (by decide)) (g := (mkF m 27 #[iv p1, iv p2, iv (p2 &&& (16383 : Int32)), rv b71, rv w75, .unset, .unset, .unset, .unset, .unset, .unset, .unset, .unset, .unset, .unset] [.null, .null, .null, .null, (.int (p2 &&& (16383 : Int32))), (.ref w75)])) rfl (by rw [hml]; rfl) (argsL := [(.ref w75), (.int (p2 &&& (16383 : Int32))), .null, .null, .null, .null]) (rest := []) (lenOf pd_2 rfl) rfl (by show 2 * 0 + _ ≤ _; exact Nat.le_of_eq rfl) (hb hby at_27) (fun _ _ => ⟨rfl, rfl, (by decide : 3 + 0 ≤ _), (by decide : 16450 + 0 ≤ _)⟩)
  dsimp only [Pt.U, Pt.locs, Pt.cells, Pt.slots] at X77 l77 y77 z77 st77 hQ77
  subst l77 y77 z77
  obtain ⟨rfl, N77q, e77⟩ := hQ77
  have N77 := Fr.app N75 N77q
  refine Goes.step (T2 := T77) (g2 := (mkF m 30 #[iv p1, iv p2, iv (p2 &&& (16383 : Int32)), rv b71, rv w75, .unset, .unset, .unset, .unset, .unset, .unset, .unset, .unset, .unset, .unset] [(.int (1 : Int32))])) st77 ?_
  refine Goes.step (T2 := T77) (g2 := (mkF m 35 #[iv p1, iv p2, iv (p2 &&& (16383 : Int32)), rv b71, rv w75, .unset, .unset, .unset, .unset, .unset, .unset, .unset, .unset, .unset, .unset] [])) (fun _ hr => XS.ifYes X77.here hx rfl (pc0 := 30) (pc' := 35) rfl (hb hby at_30) rfl ((if0 _ _).trans (feq (by decide : ¬ ((1 : Int32) = (0 : Int32)))).2) (by decide) (by decide) hr) ?_
  refine Goes.step (T2 := T77) (g2 := (mkF m 36 #[iv p1, iv p2, iv (p2 &&& (16383 : Int32)), rv b71, rv w75, .unset, .unset, .unset, .unset, .unset, .unset, .unset, .unset, .unset, .unset] [(.ref b71)])) (fun _ hr => XS.aloadN X77.here hx rfl (hb hby at_35) rfl rfl hr) ?_
  have Zs78 : n0 ≤ T75.heap.size := Nat.le_trans Z0 K75.1
  obtain ⟨cq79, kq79, q79a, q79b, q79c⟩ := isOf hZ e77 E_b71_75
  obtain ⟨_, _, ⟨T79, L79, k79, n79⟩, -, X79, ⟨Lc79, hQ79, l79, y79, z79⟩, st79⟩ := X77.virtualBack hx (y := Y1) (z := Y1) hown (mvT hZ (tw hw 13 rfl)) (mvT hZ (tw hw 14 rfl)) (notFace_of_selects (args := #[]) (mvT hZ (tw hw 16 rfl))) (mvT hZ (tw hw 16 rfl)) (mvT hZ (tw hw 15 rfl)) (by decide) (backOf (W := 0) (rm_take0 l Z a0 hw [] b71 T75.heap n0 Zs78 (Old.keep O0 K75 hws) F_b71_spareCount_75) hZ (tw hw 17 rfl) (tw hw 2 rfl) (by decide) (by decide)) q79a q79c (g := (mkF m 36 #[iv p1, iv p2, iv (p2 &&& (16383 : Int32)), rv b71, rv w75, .unset, .unset, .unset, .unset, .unset, .unset, .unset, .unset, .unset, .unset] [(.ref b71)])) rfl (by rw [hml]; rfl) (Steps.refl _) (argsL := []) (rest := []) (lenOf pd_1 rfl) rfl (by show 2 * 0 + _ ≤ _; exact Nat.le_of_eq rfl) (hb hby at_36) (fun _ _ => ⟨rfl, e77, (by decide : 3 + 1 ≤ _), (by decide : 16450 + 16384 ≤ _)⟩)
  dsimp only [Pt.U, Pt.locs, Pt.cells, Pt.slots] at X79 l79 y79 z79 st79 hQ79
  subst l79 y79 z79
  obtain ⟨w79, kw79, rfl, N79q, Kc79, P79_0, P79_1, P79_2⟩ := hQ79
  have N79 := Fr.app N77 N79q
  have E_b71_79 : Exa Z T79.heap b71 "com/example/api_policy_gateway/apipolicygateway/net/BufferPool" := E_b71_75.keep Kc79
  have F_b71_spare_79 : Fld Z T79.heap b71 "com/example/api_policy_gateway/apipolicygateway/net/BufferPool" "spare" "[[B" (.ref sp73) := F_b71_spare_75.keep Kc79 nin0
  have F_b71_spareCount_79 : Fld Z T79.heap b71 "com/example/api_policy_gateway/apipolicygateway/net/BufferPool" "spareCount" "I" (.int (0 : Int32)) := F_b71_spareCount_75.keep Kc79 nin0
  have V_sp73_79 : Arv Z T79.heap sp73 k73 (.array .byte) (64 : Int32) [.null, .null, .null] .null := V_sp73_75.keep Kc79 nin0
  have E_w75_79 : Exa Z T79.heap w75 "[B" := E_w75_75c.keep Kc79
  have V_w75_79 : Arv Z T79.heap w75 kw75 .byte (16384 : Int32) [] (.int (0 : Int32)) := V_w75_75c.keep Kc79 nin0
  have K79 : Keep h0 T79.heap [] := K75.trans Kc79 all0
  have sz_w79 : h0.size ≤ w79 := Nat.le_trans K75.1 P79_0
  have ge_w79 : n0 ≤ w79 := Nat.le_trans Z0 sz_w79
  have E_w79_79c : Exa Z T79.heap w79 "[B" := P79_1
  have V_w79_79c : Arv Z T79.heap w79 kw79 .byte (16384 : Int32) [] (.int (0 : Int32)) := P79_2
  refine Goes.step (T2 := T79) (g2 := (mkF m 39 #[iv p1, iv p2, iv (p2 &&& (16383 : Int32)), rv b71, rv w75, .unset, .unset, .unset, .unset, .unset, .unset, .unset, .unset, .unset, .unset] [(.ref w79)])) (fun _ hr => st79.trans hr) ?_
  refine Goes.step (T2 := T79) (g2 := (mkF m 41 #[iv p1, iv p2, iv (p2 &&& (16383 : Int32)), rv b71, rv w75, rv w79, .unset, .unset, .unset, .unset, .unset, .unset, .unset, .unset, .unset] [])) (fun _ hr => XS.astore X79.here hx rfl (hb hby at_39) rfl rfl (l' := #[iv p1, iv p2, iv (p2 &&& (16383 : Int32)), rv b71, rv w75, rv w79, .unset, .unset, .unset, .unset, .unset, .unset, .unset, .unset, .unset]) rfl hr) ?_
  refine Goes.step (T2 := T79) (g2 := (mkF m 43 #[iv p1, iv p2, iv (p2 &&& (16383 : Int32)), rv b71, rv w75, rv w79, .unset, .unset, .unset, .unset, .unset, .unset, .unset, .unset, .unset] [(.ref w79)])) (fun _ hr => XS.aload X79.here hx rfl (hb hby at_41) rfl rfl hr) ?_
  refine Goes.step (T2 := T79) (g2 := (mkF m 44 #[iv p1, iv p2, iv (p2 &&& (16383 : Int32)), rv b71, rv w75, rv w79, .unset, .unset, .unset, .unset, .unset, .unset, .unset, .unset, .unset] [(.int (p2 &&& (16383 : Int32))), (.ref w79)])) (fun _ hr => XS.iloadN X79.here hx rfl (hb hby at_43) rfl  hr) ?_
  refine Goes.step (T2 := T79) (g2 := (mkF m 46 #[iv p1, iv p2, iv (p2 &&& (16383 : Int32)), rv b71, rv w75, rv w79, .unset, .unset, .unset, .unset, .unset, .unset, .unset, .unset, .unset] [(.ref w75), (.int (p2 &&& (16383 : Int32))), (.ref w79)])) (fun _ hr => XS.aload X79.here hx rfl (hb hby at_44) rfl rfl hr) ?_
  refine Goes.step (T2 := T79) (g2 := (mkF m 47 #[iv p1, iv p2, iv (p2 &&& (16383 : Int32)), rv b71, rv w75, rv w79, .unset, .unset, .unset, .unset, .unset, .unset, .unset, .unset, .unset] [.null, (.ref w75), (.int (p2 &&& (16383 : Int32))), (.ref w79)])) (fun _ hr => XS.aconstNull X79.here hx rfl (hb hby at_46) hr) ?_
  refine Goes.step (T2 := T79) (g2 := (mkF m 48 #[iv p1, iv p2, iv (p2 &&& (16383 : Int32)), rv b71, rv w75, rv w79, .unset, .unset, .unset, .unset, .unset, .unset, .unset, .unset, .unset] [.null, .null, (.ref w75), (.int (p2 &&& (16383 : Int32))), (.ref w79)])) (fun _ hr => XS.aconstNull X79.here hx rfl (hb hby at_47) hr) ?_
  refine Goes.step (T2 := T79) (g2 := (mkF m 49 #[iv p1, iv p2, iv (p2 &&& (16383 : Int32)), rv b71, rv w75, rv w79, .unset, .unset, .unset, .unset, .unset, .unset, .unset, .unset, .unset] [.null, .null, .null, (.ref w75), (.int (p2 &&& (16383 : Int32))), (.ref w79)])) (fun _ hr => XS.aconstNull X79.here hx rfl (hb hby at_48) hr) ?_
  have Zs80 : n0 ≤ T79.heap.size := Nat.le_trans Z0 K79.1
  obtain ⟨_, _, ⟨T81, L81, k81, n81⟩, -, X81, ⟨Lc81, hQ81, l81, y81, z81⟩, st81⟩ := Jvm.LawKit.callS X79 hx (y := Y3) hown (mvT hZ (tw hw 21 rfl)) (mvT hZ (tw hw 22 rfl)) (mvT hZ (tw hw 23 rfl)) (mvT hZ (tw hw 24 rfl)) (by decide) (backOf (W := 0) (rm_fresh1 l Z a0 hw [] w79 (p2 &&& (16383 : Int32)) kw79 w75 T79.heap n0 Zs80 (Old.keep O0 K79 hws) V_w79_79c (Ne.symm (Nat.ne_of_lt (Nat.lt_of_lt_of_le E_w75_75c.lt P79_0))) hinb) hZ (tw hw 24 rfl) (tw hw 23 rfl) (by decide) (by decide)) (g := (mkF m 49 #[iv p1, iv p2, iv (p2 &&& (16383 : Int32)), rv b71, rv w75, rv w79, .unset, .unset, .unset, .unset, .unset, .unset, .unset, .unset, .unset] [.null, .null, .null, (.ref w75), (.int (p2 &&& (16383 : Int32))), (.ref w79)])) rfl (by rw [hml]; rfl) (argsL := [(.ref w79), (.int (p2 &&& (16383 : Int32))), (.ref w75), .null, .null, .null]) (rest := []) (lenOf pd_2 rfl) rfl (by show 2 * 0 + _ ≤ _; exact Nat.le_of_eq rfl) (hb hby at_49) (fun _ _ => ⟨rfl, rfl, (by decide : 4 + 0 ≤ _), (by decide : 32834 + 0 ≤ _)⟩)
  dsimp only [Pt.U, Pt.locs, Pt.cells, Pt.slots] at X81 l81 y81 z81 st81 hQ81
  subst l81 y81 z81
  obtain ⟨rfl, N81q, e81⟩ := hQ81
  have N81 := Fr.app N79 N81q
  refine Goes.step (T2 := T81) (g2 := (mkF m 52 #[iv p1, iv p2, iv (p2 &&& (16383 : Int32)), rv b71, rv w75, rv w79, .unset, .unset, .unset, .unset, .unset, .unset, .unset, .unset, .unset] [(.int (1 : Int32))])) st81 ?_
  refine Goes.step (T2 := T81) (g2 := (mkF m 57 #[iv p1, iv p2, iv (p2 &&& (16383 : Int32)), rv b71, rv w75, rv w79, .unset, .unset, .unset, .unset, .unset, .unset, .unset, .unset, .unset] [])) (fun _ hr => XS.ifYes X81.here hx rfl (pc0 := 52) (pc' := 57) rfl (hb hby at_52) rfl ((if0 _ _).trans (feq (by decide : ¬ ((1 : Int32) = (0 : Int32)))).2) (by decide) (by decide) hr) ?_
  refine Goes.step (T2 := T81) (g2 := (mkF m 59 #[iv p1, iv p2, iv (p2 &&& (16383 : Int32)), rv b71, rv w75, rv w79, .unset, .unset, .unset, .unset, .unset, .unset, .unset, .unset, .unset] [(.ref w75)])) (fun _ hr => XS.aload X81.here hx rfl (hb hby at_57) rfl rfl hr) ?_
  refine Goes.step (T2 := T81) (g2 := (mkF m 60 #[iv p1, iv p2, iv (p2 &&& (16383 : Int32)), rv b71, rv w75, rv w79, .unset, .unset, .unset, .unset, .unset, .unset, .unset, .unset, .unset] [(.int (p2 &&& (16383 : Int32))), (.ref w75)])) (fun _ hr => XS.iloadN X81.here hx rfl (hb hby at_59) rfl  hr) ?_
  refine Goes.step (T2 := T81) (g2 := (mkF m 61 #[iv p1, iv p2, iv (p2 &&& (16383 : Int32)), rv b71, rv w75, rv w79, .unset, .unset, .unset, .unset, .unset, .unset, .unset, .unset, .unset] [(.int p2), (.int (p2 &&& (16383 : Int32))), (.ref w75)])) (fun _ hr => XS.iloadN X81.here hx rfl (hb hby at_60) rfl  hr) ?_
  refine Goes.step (T2 := T81) (g2 := (mkF m 63 #[iv p1, iv p2, iv (p2 &&& (16383 : Int32)), rv b71, rv w75, rv w79, .unset, .unset, .unset, .unset, .unset, .unset, .unset, .unset, .unset] [(.int (14 : Int32)), (.int p2), (.int (p2 &&& (16383 : Int32))), (.ref w75)])) (fun _ hr => XS.bipush X81.here hx rfl (hb hby at_61) hr) ?_
  refine Goes.step (T2 := T81) (g2 := (mkF m 64 #[iv p1, iv p2, iv (p2 &&& (16383 : Int32)), rv b71, rv w75, rv w79, .unset, .unset, .unset, .unset, .unset, .unset, .unset, .unset, .unset] [(.int (Jvm.Free.XT.ushr p2 (14 : Int32))), (.int (p2 &&& (16383 : Int32))), (.ref w75)])) (fun _ hr => Jvm.Free.XT.iushr X81.here hx rfl (hb hby at_63) rfl hr) ?_
  refine Goes.step (T2 := T81) (g2 := (mkF m 65 #[iv p1, iv p2, iv (p2 &&& (16383 : Int32)), rv b71, rv w75, rv w79, .unset, .unset, .unset, .unset, .unset, .unset, .unset, .unset, .unset] [(.int (1 : Int32)), (.int (Jvm.Free.XT.ushr p2 (14 : Int32))), (.int (p2 &&& (16383 : Int32))), (.ref w75)])) (fun _ hr => XS.iconst X81.here hx rfl (hb hby at_64) hr) ?_
  refine Goes.step (T2 := T81) (g2 := (mkF m 66 #[iv p1, iv p2, iv (p2 &&& (16383 : Int32)), rv b71, rv w75, rv w79, .unset, .unset, .unset, .unset, .unset, .unset, .unset, .unset, .unset] [(.int ((Jvm.Free.XT.ushr p2 (14 : Int32)) ||| (1 : Int32))), (.int (p2 &&& (16383 : Int32))), (.ref w75)])) (fun _ hr => Jvm.Free.XT.ior X81.here hx rfl (hb hby at_65) rfl hr) ?_
  refine Goes.step (T2 := T81) (g2 := (mkF m 67 #[iv p1, iv p2, iv (p2 &&& (16383 : Int32)), rv b71, rv w75, rv w79, .unset, .unset, .unset, .unset, .unset, .unset, .unset, .unset, .unset] [(.int (((Jvm.Free.XT.ushr p2 (14 : Int32)) ||| (1 : Int32)).toInt8.toInt32)), (.int (p2 &&& (16383 : Int32))), (.ref w75)])) (fun _ hr => Jvm.Free.XT.i2b X81.here hx rfl (hb hby at_66) rfl hr) ?_
  obtain ⟨cl82, Ar82, S82, Nn82⟩ := id (LenB.of V_w75_79)
  have hin82 : ¬ ((p2 &&& (16383 : Int32)) < 0 ∨ cl82.slots.size ≤ ((p2 &&& (16383 : Int32))).toNatClampNeg) := inb_of S82 hinb
  obtain ⟨T82, h82, X82, e82, W82, st82⟩ := stB X81 hx hZ e81 Ar82 (j := (p2 &&& (16383 : Int32))) hin82 (g := (mkF m 67 #[iv p1, iv p2, iv (p2 &&& (16383 : Int32)), rv b71, rv w75, rv w79, .unset, .unset, .unset, .unset, .unset, .unset, .unset, .unset, .unset] [(.int (((Jvm.Free.XT.ushr p2 (14 : Int32)) ||| (1 : Int32)).toInt8.toInt32)), (.int (p2 &&& (16383 : Int32))), (.ref w75)])) rfl rfl (hb hby at_67)
  have E_b71_82 : Exa Z h82 b71 "com/example/api_policy_gateway/apipolicygateway/net/BufferPool" := E_b71_79.wr W82
  have F_b71_spare_82 : Fld Z h82 b71 "com/example/api_policy_gateway/apipolicygateway/net/BufferPool" "spare" "[[B" (.ref sp73) := F_b71_spare_79.other W82 (Or.inl (Nat.ne_of_lt (Nat.lt_of_lt_of_le E_b71_73.lt P75_0)))
  have F_b71_spareCount_82 : Fld Z h82 b71 "com/example/api_policy_gateway/apipolicygateway/net/BufferPool" "spareCount" "I" (.int (0 : Int32)) := F_b71_spareCount_79.other W82 (Or.inl (Nat.ne_of_lt (Nat.lt_of_lt_of_le E_b71_73.lt P75_0)))
  have V_sp73_82 : Arv Z h82 sp73 k73 (.array .byte) (64 : Int32) [.null, .null, .null] .null := V_sp73_79.other W82 (Nat.ne_of_lt (Nat.lt_of_lt_of_le V_sp73_73c.lt P75_0))
  have E_w75_82 : Exa Z h82 w75 "[B" := E_w75_79.wr W82
  have E_w79_82 : Exa Z h82 w79 "[B" := E_w79_79c.wr W82
  have V_w79_82 : Arv Z h82 w79 kw79 .byte (16384 : Int32) [] (.int (0 : Int32)) := V_w79_79c.other W82 (Ne.symm (Nat.ne_of_lt (Nat.lt_of_lt_of_le E_w75_75c.lt P79_0)))
  have K82 : Keep h0 h82 [] := K79.wr W82 (Or.inr sz_w75)
  have N82 := Fr.snoc X82 N81 ge_w75
  have L_w75_82 : LenB Z h82 w75 (16384 : Int32) := ⟨_, Ar82.same W82, by rw [sz_set]; exact S82, Nn82⟩
  refine Goes.step (T2 := T82) (g2 := (mkF m 68 #[iv p1, iv p2, iv (p2 &&& (16383 : Int32)), rv b71, rv w75, rv w79, .unset, .unset, .unset, .unset, .unset, .unset, .unset, .unset, .unset] [])) st82 ?_
  refine Goes.step (T2 := T82) (g2 := (mkF m 70 #[iv p1, iv p2, iv (p2 &&& (16383 : Int32)), rv b71, rv w75, rv w79, .unset, .unset, .unset, .unset, .unset, .unset, .unset, .unset, .unset] [(.ref w79)])) (fun _ hr => XS.aload X82.here hx rfl (hb hby at_68) rfl rfl hr) ?_
  refine Goes.step (T2 := T82) (g2 := (mkF m 71 #[iv p1, iv p2, iv (p2 &&& (16383 : Int32)), rv b71, rv w75, rv w79, .unset, .unset, .unset, .unset, .unset, .unset, .unset, .unset, .unset] [(.int (p2 &&& (16383 : Int32))), (.ref w79)])) (fun _ hr => XS.iloadN X82.here hx rfl (hb hby at_70) rfl  hr) ?_
  refine Goes.step (T2 := T82) (g2 := (mkF m 72 #[iv p1, iv p2, iv (p2 &&& (16383 : Int32)), rv b71, rv w75, rv w79, .unset, .unset, .unset, .unset, .unset, .unset, .unset, .unset, .unset] [(.int p2), (.int (p2 &&& (16383 : Int32))), (.ref w79)])) (fun _ hr => XS.iloadN X82.here hx rfl (hb hby at_71) rfl  hr) ?_
  refine Goes.step (T2 := T82) (g2 := (mkF m 74 #[iv p1, iv p2, iv (p2 &&& (16383 : Int32)), rv b71, rv w75, rv w79, .unset, .unset, .unset, .unset, .unset, .unset, .unset, .unset, .unset] [(.int (22 : Int32)), (.int p2), (.int (p2 &&& (16383 : Int32))), (.ref w79)])) (fun _ hr => XS.bipush X82.here hx rfl (hb hby at_72) hr) ?_
  refine Goes.step (T2 := T82) (g2 := (mkF m 75 #[iv p1, iv p2, iv (p2 &&& (16383 : Int32)), rv b71, rv w75, rv w79, .unset, .unset, .unset, .unset, .unset, .unset, .unset, .unset, .unset] [(.int (Jvm.Free.XT.ushr p2 (22 : Int32))), (.int (p2 &&& (16383 : Int32))), (.ref w79)])) (fun _ hr => Jvm.Free.XT.iushr X82.here hx rfl (hb hby at_74) rfl hr) ?_
  refine Goes.step (T2 := T82) (g2 := (mkF m 76 #[iv p1, iv p2, iv (p2 &&& (16383 : Int32)), rv b71, rv w75, rv w79, .unset, .unset, .unset, .unset, .unset, .unset, .unset, .unset, .unset] [(.int (1 : Int32)), (.int (Jvm.Free.XT.ushr p2 (22 : Int32))), (.int (p2 &&& (16383 : Int32))), (.ref w79)])) (fun _ hr => XS.iconst X82.here hx rfl (hb hby at_75) hr) ?_
  refine Goes.step (T2 := T82) (g2 := (mkF m 77 #[iv p1, iv p2, iv (p2 &&& (16383 : Int32)), rv b71, rv w75, rv w79, .unset, .unset, .unset, .unset, .unset, .unset, .unset, .unset, .unset] [(.int ((Jvm.Free.XT.ushr p2 (22 : Int32)) ||| (1 : Int32))), (.int (p2 &&& (16383 : Int32))), (.ref w79)])) (fun _ hr => Jvm.Free.XT.ior X82.here hx rfl (hb hby at_76) rfl hr) ?_
  refine Goes.step (T2 := T82) (g2 := (mkF m 78 #[iv p1, iv p2, iv (p2 &&& (16383 : Int32)), rv b71, rv w75, rv w79, .unset, .unset, .unset, .unset, .unset, .unset, .unset, .unset, .unset] [(.int (((Jvm.Free.XT.ushr p2 (22 : Int32)) ||| (1 : Int32)).toInt8.toInt32)), (.int (p2 &&& (16383 : Int32))), (.ref w79)])) (fun _ hr => Jvm.Free.XT.i2b X82.here hx rfl (hb hby at_77) rfl hr) ?_
  obtain ⟨cl83, Ar83, S83, Nn83⟩ := id (LenB.of V_w79_82)
  have hin83 : ¬ ((p2 &&& (16383 : Int32)) < 0 ∨ cl83.slots.size ≤ ((p2 &&& (16383 : Int32))).toNatClampNeg) := inb_of S83 hinb
  obtain ⟨T83, h83, X83, e83, W83, st83⟩ := stB X82 hx hZ e82 Ar83 (j := (p2 &&& (16383 : Int32))) hin83 (g := (mkF m 78 #[iv p1, iv p2, iv (p2 &&& (16383 : Int32)), rv b71, rv w75, rv w79, .unset, .unset, .unset, .unset, .unset, .unset, .unset, .unset, .unset] [(.int (((Jvm.Free.XT.ushr p2 (22 : Int32)) ||| (1 : Int32)).toInt8.toInt32)), (.int (p2 &&& (16383 : Int32))), (.ref w79)])) rfl rfl (hb hby at_78)
  have E_b71_83 : Exa Z h83 b71 "com/example/api_policy_gateway/apipolicygateway/net/BufferPool" := E_b71_82.wr W83
  have F_b71_spare_83 : Fld Z h83 b71 "com/example/api_policy_gateway/apipolicygateway/net/BufferPool" "spare" "[[B" (.ref sp73) := F_b71_spare_82.other W83 (Or.inl (Nat.ne_of_lt (Nat.lt_of_lt_of_le E_b71_75.lt P79_0)))
  have F_b71_spareCount_83 : Fld Z h83 b71 "com/example/api_policy_gateway/apipolicygateway/net/BufferPool" "spareCount" "I" (.int (0 : Int32)) := F_b71_spareCount_82.other W83 (Or.inl (Nat.ne_of_lt (Nat.lt_of_lt_of_le E_b71_75.lt P79_0)))
  have V_sp73_83 : Arv Z h83 sp73 k73 (.array .byte) (64 : Int32) [.null, .null, .null] .null := V_sp73_82.other W83 (Nat.ne_of_lt (Nat.lt_of_lt_of_le V_sp73_75.lt P79_0))
  have E_w75_83 : Exa Z h83 w75 "[B" := E_w75_82.wr W83
  have E_w79_83 : Exa Z h83 w79 "[B" := E_w79_82.wr W83
  have L_w75_83 : LenB Z h83 w75 (16384 : Int32) := L_w75_82.other W83 (Nat.ne_of_lt (Nat.lt_of_lt_of_le E_w75_75c.lt P79_0))
  have K83 : Keep h0 h83 [] := K82.wr W83 (Or.inr sz_w79)
  have N83 := Fr.snoc X83 N82 ge_w79
  have L_w79_83 : LenB Z h83 w79 (16384 : Int32) := ⟨_, Ar83.same W83, by rw [sz_set]; exact S83, Nn83⟩
  refine Goes.step (T2 := T83) (g2 := (mkF m 79 #[iv p1, iv p2, iv (p2 &&& (16383 : Int32)), rv b71, rv w75, rv w79, .unset, .unset, .unset, .unset, .unset, .unset, .unset, .unset, .unset] [])) st83 ?_
  refine Goes.step (T2 := T83) (g2 := (mkF m 80 #[iv p1, iv p2, iv (p2 &&& (16383 : Int32)), rv b71, rv w75, rv w79, .unset, .unset, .unset, .unset, .unset, .unset, .unset, .unset, .unset] [(.int p1)])) (fun _ hr => XS.iloadN X83.here hx rfl (hb hby at_79) rfl  hr) ?_
  refine Goes.step (T2 := T83) (g2 := (mkF m 81 #[iv p1, iv p2, iv (p2 &&& (16383 : Int32)), rv b71, rv w75, rv w79, .unset, .unset, .unset, .unset, .unset, .unset, .unset, .unset, .unset] [(.int (3 : Int32)), (.int p1)])) (fun _ hr => XS.iconst X83.here hx rfl (hb hby at_80) hr) ?_
  refine Goes.step (T2 := T83) (g2 := (mkF m 82 #[iv p1, iv p2, iv (p2 &&& (16383 : Int32)), rv b71, rv w75, rv w79, .unset, .unset, .unset, .unset, .unset, .unset, .unset, .unset, .unset] [(.int (p1 &&& (3 : Int32)))])) (fun _ hr => XS.iand X83.here hx rfl (hb hby at_81) rfl hr) ?_
  rcases own_mask3 p1 with hk | hk | hk | hk
  · rw [hk]
    refine Goes.step (T2 := T83) (g2 := (mkF m 84 #[iv p1, iv p2, iv (p2 &&& (16383 : Int32)), rv b71, rv w75, rv w79, iv 0, .unset, .unset, .unset, .unset, .unset, .unset, .unset, .unset] [])) (fun _ hr => XS.istore X83.here hx rfl (hb hby at_82) rfl (l' := #[iv p1, iv p2, iv (p2 &&& (16383 : Int32)), rv b71, rv w75, rv w79, iv 0, .unset, .unset, .unset, .unset, .unset, .unset, .unset, .unset]) rfl hr) ?_
    refine Goes.step (T2 := T83) (g2 := (mkF m 85 #[iv p1, iv p2, iv (p2 &&& (16383 : Int32)), rv b71, rv w75, rv w79, iv 0, .unset, .unset, .unset, .unset, .unset, .unset, .unset, .unset] [(.int p1)])) (fun _ hr => XS.iloadN X83.here hx rfl (hb hby at_84) rfl  hr) ?_
    refine Goes.step (T2 := T83) (g2 := (mkF m 86 #[iv p1, iv p2, iv (p2 &&& (16383 : Int32)), rv b71, rv w75, rv w79, iv 0, .unset, .unset, .unset, .unset, .unset, .unset, .unset, .unset] [(.int (4 : Int32)), (.int p1)])) (fun _ hr => XS.iconst X83.here hx rfl (hb hby at_85) hr) ?_
    refine Goes.step (T2 := T83) (g2 := (mkF m 87 #[iv p1, iv p2, iv (p2 &&& (16383 : Int32)), rv b71, rv w75, rv w79, iv 0, .unset, .unset, .unset, .unset, .unset, .unset, .unset, .unset] [(.int (p1 &&& (4 : Int32)))])) (fun _ hr => XS.iand X83.here hx rfl (hb hby at_86) rfl hr) ?_
    by_cases hc87_84 : (p1 &&& (4 : Int32)) = (0 : Int32)
    · refine Goes.step (T2 := T83) (g2 := (mkF m 94 #[iv p1, iv p2, iv (p2 &&& (16383 : Int32)), rv b71, rv w75, rv w79, iv 0, .unset, .unset, .unset, .unset, .unset, .unset, .unset, .unset] [])) (fun _ hr => XS.ifYes X83.here hx rfl (pc0 := 87) (pc' := 94) rfl (hb hby at_87) rfl ((if0 _ _).trans (teq hc87_84).1) (by decide) (by decide) hr) ?_
      refine Goes.step (T2 := T83) (g2 := (mkF m 95 #[iv p1, iv p2, iv (p2 &&& (16383 : Int32)), rv b71, rv w75, rv w79, iv 0, .unset, .unset, .unset, .unset, .unset, .unset, .unset, .unset] [(.int (0 : Int32))])) (fun _ hr => XS.iconst X83.here hx rfl (hb hby at_94) hr) ?_
      refine Goes.step (T2 := T83) (g2 := (mkF m 97 #[iv p1, iv p2, iv (p2 &&& (16383 : Int32)), rv b71, rv w75, rv w79, iv 0, iv 0, .unset, .unset, .unset, .unset, .unset, .unset, .unset] [])) (fun _ hr => XS.istore X83.here hx rfl (hb hby at_95) rfl (l' := #[iv p1, iv p2, iv (p2 &&& (16383 : Int32)), rv b71, rv w75, rv w79, iv 0, iv 0, .unset, .unset, .unset, .unset, .unset, .unset, .unset]) rfl hr) ?_
      refine Goes.step (T2 := T83) (g2 := (mkF m 98 #[iv p1, iv p2, iv (p2 &&& (16383 : Int32)), rv b71, rv w75, rv w79, iv 0, iv 0, .unset, .unset, .unset, .unset, .unset, .unset, .unset] [.null])) (fun _ hr => XS.aconstNull X83.here hx rfl (hb hby at_97) hr) ?_
      refine Goes.step (T2 := T83) (g2 := (mkF m 100 #[iv p1, iv p2, iv (p2 &&& (16383 : Int32)), rv b71, rv w75, rv w79, iv 0, iv 0, .val .null, .unset, .unset, .unset, .unset, .unset, .unset] [])) (fun _ hr => XS.astore X83.here hx rfl (hb hby at_98) rfl rfl (l' := #[iv p1, iv p2, iv (p2 &&& (16383 : Int32)), rv b71, rv w75, rv w79, iv 0, iv 0, .val .null, .unset, .unset, .unset, .unset, .unset, .unset]) rfl hr) ?_
      refine Goes.step (T2 := T83) (g2 := (mkF m 101 #[iv p1, iv p2, iv (p2 &&& (16383 : Int32)), rv b71, rv w75, rv w79, iv 0, iv 0, .val .null, .unset, .unset, .unset, .unset, .unset, .unset] [.null])) (fun _ hr => XS.aconstNull X83.here hx rfl (hb hby at_100) hr) ?_
      refine Goes.step (T2 := T83) (g2 := (mkF m 103 #[iv p1, iv p2, iv (p2 &&& (16383 : Int32)), rv b71, rv w75, rv w79, iv 0, iv 0, .val .null, .val .null, .unset, .unset, .unset, .unset, .unset] [])) (fun _ hr => XS.astore X83.here hx rfl (hb hby at_101) rfl rfl (l' := #[iv p1, iv p2, iv (p2 &&& (16383 : Int32)), rv b71, rv w75, rv w79, iv 0, iv 0, .val .null, .val .null, .unset, .unset, .unset, .unset, .unset]) rfl hr) ?_
      refine Goes.step (T2 := T83) (g2 := (mkF m 105 #[iv p1, iv p2, iv (p2 &&& (16383 : Int32)), rv b71, rv w75, rv w79, iv 0, iv 0, .val .null, .val .null, .unset, .unset, .unset, .unset, .unset] [(.int (0 : Int32))])) (fun _ hr => XS.iload X83.here hx rfl (hb hby at_103) rfl  hr) ?_
      refine Goes.step (T2 := T83) (g2 := (mkF m 106 #[iv p1, iv p2, iv (p2 &&& (16383 : Int32)), rv b71, rv w75, rv w79, iv 0, iv 0, .val .null, .val .null, .unset, .unset, .unset, .unset, .unset] [(.int (1 : Int32)), (.int (0 : Int32))])) (fun _ hr => XS.iconst X83.here hx rfl (hb hby at_105) hr) ?_
      refine Goes.step (T2 := T83) (g2 := (mkF m 122 #[iv p1, iv p2, iv (p2 &&& (16383 : Int32)), rv b71, rv w75, rv w79, iv 0, iv 0, .val .null, .val .null, .unset, .unset, .unset, .unset, .unset] [])) (fun _ hr => XS.icmpYes X83.here hx rfl (pc0 := 106) (pc' := 122) rfl (hb hby at_106) rfl (feq (by decide : ¬ ((0 : Int32) = (1 : Int32)))).2 (by decide) (by decide) hr) ?_
      refine Goes.step (T2 := T83) (g2 := (mkF m 124 #[iv p1, iv p2, iv (p2 &&& (16383 : Int32)), rv b71, rv w75, rv w79, iv 0, iv 0, .val .null, .val .null, .unset, .unset, .unset, .unset, .unset] [(.int (0 : Int32))])) (fun _ hr => XS.iload X83.here hx rfl (hb hby at_122) rfl  hr) ?_
      refine Goes.step (T2 := T83) (g2 := (mkF m 125 #[iv p1, iv p2, iv (p2 &&& (16383 : Int32)), rv b71, rv w75, rv w79, iv 0, iv 0, .val .null, .val .null, .unset, .unset, .unset, .unset, .unset] [(.int (2 : Int32)), (.int (0 : Int32))])) (fun _ hr => XS.iconst X83.here hx rfl (hb hby at_124) hr) ?_
      refine Goes.step (T2 := T83) (g2 := (mkF m 151 #[iv p1, iv p2, iv (p2 &&& (16383 : Int32)), rv b71, rv w75, rv w79, iv 0, iv 0, .val .null, .val .null, .unset, .unset, .unset, .unset, .unset] [])) (fun _ hr => XS.icmpYes X83.here hx rfl (pc0 := 125) (pc' := 151) rfl (hb hby at_125) rfl (feq (by decide : ¬ ((0 : Int32) = (2 : Int32)))).2 (by decide) (by decide) hr) ?_
      refine Goes.step (T2 := T83) (g2 := (mkF m 153 #[iv p1, iv p2, iv (p2 &&& (16383 : Int32)), rv b71, rv w75, rv w79, iv 0, iv 0, .val .null, .val .null, .unset, .unset, .unset, .unset, .unset] [(.int (0 : Int32))])) (fun _ hr => XS.iload X83.here hx rfl (hb hby at_151) rfl  hr) ?_
      refine Goes.step (T2 := T83) (g2 := (mkF m 154 #[iv p1, iv p2, iv (p2 &&& (16383 : Int32)), rv b71, rv w75, rv w79, iv 0, iv 0, .val .null, .val .null, .unset, .unset, .unset, .unset, .unset] [(.int (3 : Int32)), (.int (0 : Int32))])) (fun _ hr => XS.iconst X83.here hx rfl (hb hby at_153) hr) ?_
      refine Goes.step (T2 := T83) (g2 := (mkF m 177 #[iv p1, iv p2, iv (p2 &&& (16383 : Int32)), rv b71, rv w75, rv w79, iv 0, iv 0, .val .null, .val .null, .unset, .unset, .unset, .unset, .unset] [])) (fun _ hr => XS.icmpYes X83.here hx rfl (pc0 := 154) (pc' := 177) rfl (hb hby at_154) rfl (feq (by decide : ¬ ((0 : Int32) = (3 : Int32)))).2 (by decide) (by decide) hr) ?_
      refine Goes.step (T2 := T83) (g2 := (mkF m 178 #[iv p1, iv p2, iv (p2 &&& (16383 : Int32)), rv b71, rv w75, rv w79, iv 0, iv 0, .val .null, .val .null, .unset, .unset, .unset, .unset, .unset] [(.ref b71)])) (fun _ hr => XS.aloadN X83.here hx rfl (hb hby at_177) rfl rfl hr) ?_
      have Zs85 : n0 ≤ h83.size := Nat.le_trans Z0 K83.1
      obtain ⟨cq86, kq86, q86a, q86b, q86c⟩ := isOf hZ e83 E_b71_83
      obtain ⟨_, _, ⟨T86, L86, k86, n86⟩, -, X86, ⟨Lc86, hQ86, l86, y86, z86⟩, st86⟩ := X83.virtualBack hx (y := Y1) (z := Y1) hown (mvT hZ (tw hw 13 rfl)) (mvT hZ (tw hw 14 rfl)) (notFace_of_selects (args := #[]) (mvT hZ (tw hw 16 rfl))) (mvT hZ (tw hw 16 rfl)) (mvT hZ (tw hw 15 rfl)) (by decide) (backOf (W := 0) (rm_take0 l Z a0 hw [] b71 h83 n0 Zs85 (Old.keep O0 K83 hws) F_b71_spareCount_83) hZ (tw hw 17 rfl) (tw hw 2 rfl) (by decide) (by decide)) q86a q86c (g := (mkF m 178 #[iv p1, iv p2, iv (p2 &&& (16383 : Int32)), rv b71, rv w75, rv w79, iv 0, iv 0, .val .null, .val .null, .unset, .unset, .unset, .unset, .unset] [(.ref b71)])) rfl (by rw [hml]; rfl) (Steps.refl _) (argsL := []) (rest := []) (lenOf pd_1 rfl) rfl (by show 2 * 0 + _ ≤ _; exact Nat.le_of_eq rfl) (hb hby at_178) (fun _ _ => ⟨rfl, e83, (by decide : 4 + 1 ≤ _), (by decide : 32834 + 16384 ≤ _)⟩)
      dsimp only [Pt.U, Pt.locs, Pt.cells, Pt.slots] at X86 l86 y86 z86 st86 hQ86
      subst l86 y86 z86
      obtain ⟨w86, kw86, rfl, N86q, Kc86, P86_0, P86_1, P86_2⟩ := hQ86
      have N86 := Fr.app N83 N86q
      have E_b71_86 : Exa Z T86.heap b71 "com/example/api_policy_gateway/apipolicygateway/net/BufferPool" := E_b71_83.keep Kc86
      have F_b71_spare_86 : Fld Z T86.heap b71 "com/example/api_policy_gateway/apipolicygateway/net/BufferPool" "spare" "[[B" (.ref sp73) := F_b71_spare_83.keep Kc86 nin0
      have F_b71_spareCount_86 : Fld Z T86.heap b71 "com/example/api_policy_gateway/apipolicygateway/net/BufferPool" "spareCount" "I" (.int (0 : Int32)) := F_b71_spareCount_83.keep Kc86 nin0
      have V_sp73_86 : Arv Z T86.heap sp73 k73 (.array .byte) (64 : Int32) [.null, .null, .null] .null := V_sp73_83.keep Kc86 nin0
      have E_w75_86 : Exa Z T86.heap w75 "[B" := E_w75_83.keep Kc86
      have E_w79_86 : Exa Z T86.heap w79 "[B" := E_w79_83.keep Kc86
      have L_w75_86 : LenB Z T86.heap w75 (16384 : Int32) := L_w75_83.keep Kc86 nin0
      have L_w79_86 : LenB Z T86.heap w79 (16384 : Int32) := L_w79_83.keep Kc86 nin0
      have K86 : Keep h0 T86.heap [] := K83.trans Kc86 all0
      have sz_w86 : h0.size ≤ w86 := Nat.le_trans K83.1 P86_0
      have ge_w86 : n0 ≤ w86 := Nat.le_trans Z0 sz_w86
      have E_w86_86c : Exa Z T86.heap w86 "[B" := P86_1
      have V_w86_86c : Arv Z T86.heap w86 kw86 .byte (16384 : Int32) [] (.int (0 : Int32)) := P86_2
      refine Goes.step (T2 := T86) (g2 := (mkF m 181 #[iv p1, iv p2, iv (p2 &&& (16383 : Int32)), rv b71, rv w75, rv w79, iv 0, iv 0, .val .null, .val .null, .unset, .unset, .unset, .unset, .unset] [(.ref w86)])) (fun _ hr => st86.trans hr) ?_
      refine Goes.step (T2 := T86) (g2 := (mkF m 183 #[iv p1, iv p2, iv (p2 &&& (16383 : Int32)), rv b71, rv w75, rv w79, iv 0, iv 0, .val .null, .val .null, rv w86, .unset, .unset, .unset, .unset] [])) (fun _ hr => XS.astore X86.here hx rfl (hb hby at_181) rfl rfl (l' := #[iv p1, iv p2, iv (p2 &&& (16383 : Int32)), rv b71, rv w75, rv w79, iv 0, iv 0, .val .null, .val .null, rv w86, .unset, .unset, .unset, .unset]) rfl hr) ?_
      refine Goes.step (T2 := T86) (g2 := (mkF m 185 #[iv p1, iv p2, iv (p2 &&& (16383 : Int32)), rv b71, rv w75, rv w79, iv 0, iv 0, .val .null, .val .null, rv w86, .unset, .unset, .unset, .unset] [.null])) (fun _ hr => XS.aload X86.here hx rfl (hb hby at_183) rfl rfl hr) ?_
      refine Goes.step (T2 := T86) (g2 := (mkF m 197 #[iv p1, iv p2, iv (p2 &&& (16383 : Int32)), rv b71, rv w75, rv w79, iv 0, iv 0, .val .null, .val .null, rv w86, .unset, .unset, .unset, .unset] [])) (fun _ hr => XS.ifnullYes X86.here hx rfl (pc0 := 185) (pc' := 197) rfl (hb hby at_185) rfl (by decide) (by decide) hr) ?_
      refine Goes.step (T2 := T86) (g2 := (mkF m 199 #[iv p1, iv p2, iv (p2 &&& (16383 : Int32)), rv b71, rv w75, rv w79, iv 0, iv 0, .val .null, .val .null, rv w86, .unset, .unset, .unset, .unset] [(.ref w86)])) (fun _ hr => XS.aload X86.here hx rfl (hb hby at_197) rfl rfl hr) ?_
      refine Goes.step (T2 := T86) (g2 := (mkF m 200 #[iv p1, iv p2, iv (p2 &&& (16383 : Int32)), rv b71, rv w75, rv w79, iv 0, iv 0, .val .null, .val .null, rv w86, .unset, .unset, .unset, .unset] [(.int (p2 &&& (16383 : Int32))), (.ref w86)])) (fun _ hr => XS.iloadN X86.here hx rfl (hb hby at_199) rfl  hr) ?_
      refine Goes.step (T2 := T86) (g2 := (mkF m 202 #[iv p1, iv p2, iv (p2 &&& (16383 : Int32)), rv b71, rv w75, rv w79, iv 0, iv 0, .val .null, .val .null, rv w86, .unset, .unset, .unset, .unset] [(.ref w75), (.int (p2 &&& (16383 : Int32))), (.ref w86)])) (fun _ hr => XS.aload X86.here hx rfl (hb hby at_200) rfl rfl hr) ?_
      refine Goes.step (T2 := T86) (g2 := (mkF m 204 #[iv p1, iv p2, iv (p2 &&& (16383 : Int32)), rv b71, rv w75, rv w79, iv 0, iv 0, .val .null, .val .null, rv w86, .unset, .unset, .unset, .unset] [(.ref w79), (.ref w75), (.int (p2 &&& (16383 : Int32))), (.ref w86)])) (fun _ hr => XS.aload X86.here hx rfl (hb hby at_202) rfl rfl hr) ?_
      refine Goes.step (T2 := T86) (g2 := (mkF m 205 #[iv p1, iv p2, iv (p2 &&& (16383 : Int32)), rv b71, rv w75, rv w79, iv 0, iv 0, .val .null, .val .null, rv w86, .unset, .unset, .unset, .unset] [.null, (.ref w79), (.ref w75), (.int (p2 &&& (16383 : Int32))), (.ref w86)])) (fun _ hr => XS.aconstNull X86.here hx rfl (hb hby at_204) hr) ?_
      refine Goes.step (T2 := T86) (g2 := (mkF m 206 #[iv p1, iv p2, iv (p2 &&& (16383 : Int32)), rv b71, rv w75, rv w79, iv 0, iv 0, .val .null, .val .null, rv w86, .unset, .unset, .unset, .unset] [.null, .null, (.ref w79), (.ref w75), (.int (p2 &&& (16383 : Int32))), (.ref w86)])) (fun _ hr => XS.aconstNull X86.here hx rfl (hb hby at_205) hr) ?_
      have Zs87 : n0 ≤ T86.heap.size := Nat.le_trans Z0 K86.1
      obtain ⟨_, _, ⟨T88, L88, k88, n88⟩, -, X88, ⟨Lc88, hQ88, l88, y88, z88⟩, st88⟩ := Jvm.LawKit.callS X86 hx (y := Y3) hown (mvT hZ (tw hw 21 rfl)) (mvT hZ (tw hw 22 rfl)) (mvT hZ (tw hw 23 rfl)) (mvT hZ (tw hw 24 rfl)) (by decide) (backOf (W := 0) (rm_fresh2 l Z a0 hw [] w86 (p2 &&& (16383 : Int32)) kw86 w75 w79 T86.heap n0 Zs87 (Old.keep O0 K86 hws) V_w86_86c (Ne.symm (Nat.ne_of_lt (Nat.lt_of_lt_of_le E_w75_83.lt P86_0))) (Ne.symm (Nat.ne_of_lt (Nat.lt_of_lt_of_le E_w79_83.lt P86_0))) hinb) hZ (tw hw 24 rfl) (tw hw 23 rfl) (by decide) (by decide)) (g := (mkF m 206 #[iv p1, iv p2, iv (p2 &&& (16383 : Int32)), rv b71, rv w75, rv w79, iv 0, iv 0, .val .null, .val .null, rv w86, .unset, .unset, .unset, .unset] [.null, .null, (.ref w79), (.ref w75), (.int (p2 &&& (16383 : Int32))), (.ref w86)])) rfl (by rw [hml]; rfl) (argsL := [(.ref w86), (.int (p2 &&& (16383 : Int32))), (.ref w75), (.ref w79), .null, .null]) (rest := []) (lenOf pd_2 rfl) rfl (by show 2 * 0 + _ ≤ _; exact Nat.le_of_eq rfl) (hb hby at_206) (fun _ _ => ⟨rfl, rfl, (by decide : 5 + 0 ≤ _), (by decide : 49218 + 0 ≤ _)⟩)
      dsimp only [Pt.U, Pt.locs, Pt.cells, Pt.slots] at X88 l88 y88 z88 st88 hQ88
      subst l88 y88 z88
      obtain ⟨rfl, N88q, e88⟩ := hQ88
      have N88 := Fr.app N86 N88q
      refine Goes.step (T2 := T88) (g2 := (mkF m 209 #[iv p1, iv p2, iv (p2 &&& (16383 : Int32)), rv b71, rv w75, rv w79, iv 0, iv 0, .val .null, .val .null, rv w86, .unset, .unset, .unset, .unset] [(.int (1 : Int32))])) st88 ?_
      refine Goes.step (T2 := T88) (g2 := (mkF m 214 #[iv p1, iv p2, iv (p2 &&& (16383 : Int32)), rv b71, rv w75, rv w79, iv 0, iv 0, .val .null, .val .null, rv w86, .unset, .unset, .unset, .unset] [])) (fun _ hr => XS.ifYes X88.here hx rfl (pc0 := 209) (pc' := 214) rfl (hb hby at_209) rfl ((if0 _ _).trans (feq (by decide : ¬ ((1 : Int32) = (0 : Int32)))).2) (by decide) (by decide) hr) ?_
      refine Goes.step (T2 := T88) (g2 := (mkF m 216 #[iv p1, iv p2, iv (p2 &&& (16383 : Int32)), rv b71, rv w75, rv w79, iv 0, iv 0, .val .null, .val .null, rv w86, .unset, .unset, .unset, .unset] [(.int (0 : Int32))])) (fun _ hr => XS.iload X88.here hx rfl (hb hby at_214) rfl  hr) ?_
      refine Goes.step (T2 := T88) (g2 := (mkF m 236 #[iv p1, iv p2, iv (p2 &&& (16383 : Int32)), rv b71, rv w75, rv w79, iv 0, iv 0, .val .null, .val .null, rv w86, .unset, .unset, .unset, .unset] [])) (fun _ hr => XS.ifYes X88.here hx rfl (pc0 := 216) (pc' := 236) rfl (hb hby at_216) rfl ((if0 _ _).trans (teq (by decide : (0 : Int32) = (0 : Int32))).1) (by decide) (by decide) hr) ?_
      refine Goes.step (T2 := T88) (g2 := (mkF m 238 #[iv p1, iv p2, iv (p2 &&& (16383 : Int32)), rv b71, rv w75, rv w79, iv 0, iv 0, .val .null, .val .null, rv w86, .unset, .unset, .unset, .unset] [.null])) (fun _ hr => XS.aload X88.here hx rfl (hb hby at_236) rfl rfl hr) ?_
      refine Goes.step (T2 := T88) (g2 := (mkF m 240 #[iv p1, iv p2, iv (p2 &&& (16383 : Int32)), rv b71, rv w75, rv w79, iv 0, iv 0, .val .null, .val .null, rv w86, .val .null, .unset, .unset, .unset] [])) (fun _ hr => XS.astore X88.here hx rfl (hb hby at_238) rfl rfl (l' := #[iv p1, iv p2, iv (p2 &&& (16383 : Int32)), rv b71, rv w75, rv w79, iv 0, iv 0, .val .null, .val .null, rv w86, .val .null, .unset, .unset, .unset]) rfl hr) ?_
      refine Goes.step (T2 := T88) (g2 := (mkF m 241 #[iv p1, iv p2, iv (p2 &&& (16383 : Int32)), rv b71, rv w75, rv w79, iv 0, iv 0, .val .null, .val .null, rv w86, .val .null, .unset, .unset, .unset] [.null])) (fun _ hr => XS.aconstNull X88.here hx rfl (hb hby at_240) hr) ?_
      refine Goes.step (T2 := T88) (g2 := (mkF m 243 #[iv p1, iv p2, iv (p2 &&& (16383 : Int32)), rv b71, rv w75, rv w79, iv 0, iv 0, .val .null, .val .null, rv w86, .val .null, .val .null, .unset, .unset] [])) (fun _ hr => XS.astore X88.here hx rfl (hb hby at_241) rfl rfl (l' := #[iv p1, iv p2, iv (p2 &&& (16383 : Int32)), rv b71, rv w75, rv w79, iv 0, iv 0, .val .null, .val .null, rv w86, .val .null, .val .null, .unset, .unset]) rfl hr) ?_
      refine Goes.step (T2 := T88) (g2 := (mkF m 244 #[iv p1, iv p2, iv (p2 &&& (16383 : Int32)), rv b71, rv w75, rv w79, iv 0, iv 0, .val .null, .val .null, rv w86, .val .null, .val .null, .unset, .unset] [(.ref b71)])) (fun _ hr => XS.aloadN X88.here hx rfl (hb hby at_243) rfl rfl hr) ?_
      have Zs89 : n0 ≤ T86.heap.size := Nat.le_trans Z0 K86.1
      obtain ⟨cq90, kq90, q90a, q90b, q90c⟩ := isOf hZ e88 E_b71_86
      obtain ⟨_, _, ⟨T90, L90, k90, n90⟩, -, X90, ⟨Lc90, hQ90, l90, y90, z90⟩, st90⟩ := X88.virtualBack hx (y := Y1) (z := Y1) hown (mvT hZ (tw hw 13 rfl)) (mvT hZ (tw hw 14 rfl)) (notFace_of_selects (args := #[]) (mvT hZ (tw hw 16 rfl))) (mvT hZ (tw hw 16 rfl)) (mvT hZ (tw hw 15 rfl)) (by decide) (backOf (W := 0) (rm_take0 l Z a0 hw [] b71 T86.heap n0 Zs89 (Old.keep O0 K86 hws) F_b71_spareCount_86) hZ (tw hw 17 rfl) (tw hw 2 rfl) (by decide) (by decide)) q90a q90c (g := (mkF m 244 #[iv p1, iv p2, iv (p2 &&& (16383 : Int32)), rv b71, rv w75, rv w79, iv 0, iv 0, .val .null, .val .null, rv w86, .val .null, .val .null, .unset, .unset] [(.ref b71)])) rfl (by rw [hml]; rfl) (Steps.refl _) (argsL := []) (rest := []) (lenOf pd_1 rfl) rfl (by show 2 * 0 + _ ≤ _; exact Nat.le_of_eq rfl) (hb hby at_244) (fun _ _ => ⟨rfl, e88, (by decide : 5 + 1 ≤ _), (by decide : 49218 + 16384 ≤ _)⟩)
      dsimp only [Pt.U, Pt.locs, Pt.cells, Pt.slots] at X90 l90 y90 z90 st90 hQ90
      subst l90 y90 z90
      obtain ⟨w90, kw90, rfl, N90q, Kc90, P90_0, P90_1, P90_2⟩ := hQ90
      have N90 := Fr.app N88 N90q
      have E_b71_90 : Exa Z T90.heap b71 "com/example/api_policy_gateway/apipolicygateway/net/BufferPool" := E_b71_86.keep Kc90
      have F_b71_spare_90 : Fld Z T90.heap b71 "com/example/api_policy_gateway/apipolicygateway/net/BufferPool" "spare" "[[B" (.ref sp73) := F_b71_spare_86.keep Kc90 nin0
      have F_b71_spareCount_90 : Fld Z T90.heap b71 "com/example/api_policy_gateway/apipolicygateway/net/BufferPool" "spareCount" "I" (.int (0 : Int32)) := F_b71_spareCount_86.keep Kc90 nin0
      have V_sp73_90 : Arv Z T90.heap sp73 k73 (.array .byte) (64 : Int32) [.null, .null, .null] .null := V_sp73_86.keep Kc90 nin0
      have E_w75_90 : Exa Z T90.heap w75 "[B" := E_w75_86.keep Kc90
      have E_w79_90 : Exa Z T90.heap w79 "[B" := E_w79_86.keep Kc90
      have L_w75_90 : LenB Z T90.heap w75 (16384 : Int32) := L_w75_86.keep Kc90 nin0
      have L_w79_90 : LenB Z T90.heap w79 (16384 : Int32) := L_w79_86.keep Kc90 nin0
      have E_w86_90 : Exa Z T90.heap w86 "[B" := E_w86_86c.keep Kc90
      have V_w86_90 : Arv Z T90.heap w86 kw86 .byte (16384 : Int32) [] (.int (0 : Int32)) := V_w86_86c.keep Kc90 nin0
      have K90 : Keep h0 T90.heap [] := K86.trans Kc90 all0
      have sz_w90 : h0.size ≤ w90 := Nat.le_trans K86.1 P90_0
      have ge_w90 : n0 ≤ w90 := Nat.le_trans Z0 sz_w90
      have E_w90_90c : Exa Z T90.heap w90 "[B" := P90_1
      have V_w90_90c : Arv Z T90.heap w90 kw90 .byte (16384 : Int32) [] (.int (0 : Int32)) := P90_2
      refine Goes.step (T2 := T90) (g2 := (mkF m 247 #[iv p1, iv p2, iv (p2 &&& (16383 : Int32)), rv b71, rv w75, rv w79, iv 0, iv 0, .val .null, .val .null, rv w86, .val .null, .val .null, .unset, .unset] [(.ref w90)])) (fun _ hr => st90.trans hr) ?_
      refine Goes.step (T2 := T90) (g2 := (mkF m 249 #[iv p1, iv p2, iv (p2 &&& (16383 : Int32)), rv b71, rv w75, rv w79, iv 0, iv 0, .val .null, .val .null, rv w86, .val .null, .val .null, rv w90, .unset] [])) (fun _ hr => XS.astore X90.here hx rfl (hb hby at_247) rfl rfl (l' := #[iv p1, iv p2, iv (p2 &&& (16383 : Int32)), rv b71, rv w75, rv w79, iv 0, iv 0, .val .null, .val .null, rv w86, .val .null, .val .null, rv w90, .unset]) rfl hr) ?_
      refine Goes.step (T2 := T90) (g2 := (mkF m 251 #[iv p1, iv p2, iv (p2 &&& (16383 : Int32)), rv b71, rv w75, rv w79, iv 0, iv 0, .val .null, .val .null, rv w86, .val .null, .val .null, rv w90, .unset] [.null])) (fun _ hr => XS.aload X90.here hx rfl (hb hby at_249) rfl rfl hr) ?_
      refine Goes.step (T2 := T90) (g2 := (mkF m 263 #[iv p1, iv p2, iv (p2 &&& (16383 : Int32)), rv b71, rv w75, rv w79, iv 0, iv 0, .val .null, .val .null, rv w86, .val .null, .val .null, rv w90, .unset] [])) (fun _ hr => XS.ifnullYes X90.here hx rfl (pc0 := 251) (pc' := 263) rfl (hb hby at_251) rfl (by decide) (by decide) hr) ?_
      refine Goes.step (T2 := T90) (g2 := (mkF m 265 #[iv p1, iv p2, iv (p2 &&& (16383 : Int32)), rv b71, rv w75, rv w79, iv 0, iv 0, .val .null, .val .null, rv w86, .val .null, .val .null, rv w90, .unset] [(.ref w90)])) (fun _ hr => XS.aload X90.here hx rfl (hb hby at_263) rfl rfl hr) ?_
      refine Goes.step (T2 := T90) (g2 := (mkF m 266 #[iv p1, iv p2, iv (p2 &&& (16383 : Int32)), rv b71, rv w75, rv w79, iv 0, iv 0, .val .null, .val .null, rv w86, .val .null, .val .null, rv w90, .unset] [(.int (p2 &&& (16383 : Int32))), (.ref w90)])) (fun _ hr => XS.iloadN X90.here hx rfl (hb hby at_265) rfl  hr) ?_
      refine Goes.step (T2 := T90) (g2 := (mkF m 268 #[iv p1, iv p2, iv (p2 &&& (16383 : Int32)), rv b71, rv w75, rv w79, iv 0, iv 0, .val .null, .val .null, rv w86, .val .null, .val .null, rv w90, .unset] [(.ref w75), (.int (p2 &&& (16383 : Int32))), (.ref w90)])) (fun _ hr => XS.aload X90.here hx rfl (hb hby at_266) rfl rfl hr) ?_
      refine Goes.step (T2 := T90) (g2 := (mkF m 270 #[iv p1, iv p2, iv (p2 &&& (16383 : Int32)), rv b71, rv w75, rv w79, iv 0, iv 0, .val .null, .val .null, rv w86, .val .null, .val .null, rv w90, .unset] [(.ref w79), (.ref w75), (.int (p2 &&& (16383 : Int32))), (.ref w90)])) (fun _ hr => XS.aload X90.here hx rfl (hb hby at_268) rfl rfl hr) ?_
      refine Goes.step (T2 := T90) (g2 := (mkF m 272 #[iv p1, iv p2, iv (p2 &&& (16383 : Int32)), rv b71, rv w75, rv w79, iv 0, iv 0, .val .null, .val .null, rv w86, .val .null, .val .null, rv w90, .unset] [(.ref w86), (.ref w79), (.ref w75), (.int (p2 &&& (16383 : Int32))), (.ref w90)])) (fun _ hr => XS.aload X90.here hx rfl (hb hby at_270) rfl rfl hr) ?_
      refine Goes.step (T2 := T90) (g2 := (mkF m 273 #[iv p1, iv p2, iv (p2 &&& (16383 : Int32)), rv b71, rv w75, rv w79, iv 0, iv 0, .val .null, .val .null, rv w86, .val .null, .val .null, rv w90, .unset] [.null, (.ref w86), (.ref w79), (.ref w75), (.int (p2 &&& (16383 : Int32))), (.ref w90)])) (fun _ hr => XS.aconstNull X90.here hx rfl (hb hby at_272) hr) ?_
      have Zs91 : n0 ≤ T90.heap.size := Nat.le_trans Z0 K90.1
      obtain ⟨_, _, ⟨T92, L92, k92, n92⟩, -, X92, ⟨Lc92, hQ92, l92, y92, z92⟩, st92⟩ := Jvm.LawKit.callS X90 hx (y := Y3) hown (mvT hZ (tw hw 21 rfl)) (mvT hZ (tw hw 22 rfl)) (mvT hZ (tw hw 23 rfl)) (mvT hZ (tw hw 24 rfl)) (by decide) (backOf (W := 0) (rm_fresh3 l Z a0 hw [] w90 (p2 &&& (16383 : Int32)) kw90 w75 w79 w86 T90.heap n0 Zs91 (Old.keep O0 K90 hws) V_w90_90c (Ne.symm (Nat.ne_of_lt (Nat.lt_of_lt_of_le E_w75_86.lt P90_0))) (Ne.symm (Nat.ne_of_lt (Nat.lt_of_lt_of_le E_w79_86.lt P90_0))) (Ne.symm (Nat.ne_of_lt (Nat.lt_of_lt_of_le E_w86_86c.lt P90_0))) hinb) hZ (tw hw 24 rfl) (tw hw 23 rfl) (by decide) (by decide)) (g := (mkF m 273 #[iv p1, iv p2, iv (p2 &&& (16383 : Int32)), rv b71, rv w75, rv w79, iv 0, iv 0, .val .null, .val .null, rv w86, .val .null, .val .null, rv w90, .unset] [.null, (.ref w86), (.ref w79), (.ref w75), (.int (p2 &&& (16383 : Int32))), (.ref w90)])) rfl (by rw [hml]; rfl) (argsL := [(.ref w90), (.int (p2 &&& (16383 : Int32))), (.ref w75), (.ref w79), (.ref w86), .null]) (rest := []) (lenOf pd_2 rfl) rfl (by show 2 * 0 + _ ≤ _; exact Nat.le_of_eq rfl) (hb hby at_273) (fun _ _ => ⟨rfl, rfl, (by decide : 6 + 0 ≤ _), (by decide : 65602 + 0 ≤ _)⟩)
      dsimp only [Pt.U, Pt.locs, Pt.cells, Pt.slots] at X92 l92 y92 z92 st92 hQ92
      subst l92 y92 z92
      obtain ⟨rfl, N92q, e92⟩ := hQ92
      have N92 := Fr.app N90 N92q
      refine Goes.step (T2 := T92) (g2 := (mkF m 276 #[iv p1, iv p2, iv (p2 &&& (16383 : Int32)), rv b71, rv w75, rv w79, iv 0, iv 0, .val .null, .val .null, rv w86, .val .null, .val .null, rv w90, .unset] [(.int (1 : Int32))])) st92 ?_
      refine Goes.step (T2 := T92) (g2 := (mkF m 281 #[iv p1, iv p2, iv (p2 &&& (16383 : Int32)), rv b71, rv w75, rv w79, iv 0, iv 0, .val .null, .val .null, rv w86, .val .null, .val .null, rv w90, .unset] [])) (fun _ hr => XS.ifYes X92.here hx rfl (pc0 := 276) (pc' := 281) rfl (hb hby at_276) rfl ((if0 _ _).trans (feq (by decide : ¬ ((1 : Int32) = (0 : Int32)))).2) (by decide) (by decide) hr) ?_
      refine Goes.step (T2 := T92) (g2 := (mkF m 282 #[iv p1, iv p2, iv (p2 &&& (16383 : Int32)), rv b71, rv w75, rv w79, iv 0, iv 0, .val .null, .val .null, rv w86, .val .null, .val .null, rv w90, .unset] [(.ref b71)])) (fun _ hr => XS.aloadN X92.here hx rfl (hb hby at_281) rfl rfl hr) ?_
      have Zs93 : n0 ≤ T90.heap.size := Nat.le_trans Z0 K90.1
      obtain ⟨cq94, kq94, q94a, q94b, q94c⟩ := isOf hZ e92 E_b71_90
      obtain ⟨_, _, ⟨T94, L94, k94, n94⟩, -, X94, ⟨Lc94, hQ94, l94, y94, z94⟩, st94⟩ := X92.virtualBack hx (y := Y1) (z := Y1) hown (mvT hZ (tw hw 13 rfl)) (mvT hZ (tw hw 14 rfl)) (notFace_of_selects (args := #[]) (mvT hZ (tw hw 16 rfl))) (mvT hZ (tw hw 16 rfl)) (mvT hZ (tw hw 15 rfl)) (by decide) (backOf (W := 0) (rm_take0 l Z a0 hw [] b71 T90.heap n0 Zs93 (Old.keep O0 K90 hws) F_b71_spareCount_90) hZ (tw hw 17 rfl) (tw hw 2 rfl) (by decide) (by decide)) q94a q94c (g := (mkF m 282 #[iv p1, iv p2, iv (p2 &&& (16383 : Int32)), rv b71, rv w75, rv w79, iv 0, iv 0, .val .null, .val .null, rv w86, .val .null, .val .null, rv w90, .unset] [(.ref b71)])) rfl (by rw [hml]; rfl) (Steps.refl _) (argsL := []) (rest := []) (lenOf pd_1 rfl) rfl (by show 2 * 0 + _ ≤ _; exact Nat.le_of_eq rfl) (hb hby at_282) (fun _ _ => ⟨rfl, e92, (by decide : 6 + 1 ≤ _), (by decide : 65602 + 16384 ≤ _)⟩)
      dsimp only [Pt.U, Pt.locs, Pt.cells, Pt.slots] at X94 l94 y94 z94 st94 hQ94
      subst l94 y94 z94
      obtain ⟨w94, kw94, rfl, N94q, Kc94, P94_0, P94_1, P94_2⟩ := hQ94
      have N94 := Fr.app N92 N94q
      have E_b71_94 : Exa Z T94.heap b71 "com/example/api_policy_gateway/apipolicygateway/net/BufferPool" := E_b71_90.keep Kc94
      have F_b71_spare_94 : Fld Z T94.heap b71 "com/example/api_policy_gateway/apipolicygateway/net/BufferPool" "spare" "[[B" (.ref sp73) := F_b71_spare_90.keep Kc94 nin0
      have F_b71_spareCount_94 : Fld Z T94.heap b71 "com/example/api_policy_gateway/apipolicygateway/net/BufferPool" "spareCount" "I" (.int (0 : Int32)) := F_b71_spareCount_90.keep Kc94 nin0
      have V_sp73_94 : Arv Z T94.heap sp73 k73 (.array .byte) (64 : Int32) [.null, .null, .null] .null := V_sp73_90.keep Kc94 nin0
      have E_w75_94 : Exa Z T94.heap w75 "[B" := E_w75_90.keep Kc94
      have E_w79_94 : Exa Z T94.heap w79 "[B" := E_w79_90.keep Kc94
      have L_w75_94 : LenB Z T94.heap w75 (16384 : Int32) := L_w75_90.keep Kc94 nin0
      have L_w79_94 : LenB Z T94.heap w79 (16384 : Int32) := L_w79_90.keep Kc94 nin0
      have E_w86_94 : Exa Z T94.heap w86 "[B" := E_w86_90.keep Kc94
      have V_w86_94 : Arv Z T94.heap w86 kw86 .byte (16384 : Int32) [] (.int (0 : Int32)) := V_w86_90.keep Kc94 nin0
      have E_w90_94 : Exa Z T94.heap w90 "[B" := E_w90_90c.keep Kc94
      have V_w90_94 : Arv Z T94.heap w90 kw90 .byte (16384 : Int32) [] (.int (0 : Int32)) := V_w90_90c.keep Kc94 nin0
      have K94 : Keep h0 T94.heap [] := K90.trans Kc94 all0
      have sz_w94 : h0.size ≤ w94 := Nat.le_trans K90.1 P94_0
      have ge_w94 : n0 ≤ w94 := Nat.le_trans Z0 sz_w94
      have E_w94_94c : Exa Z T94.heap w94 "[B" := P94_1
      have V_w94_94c : Arv Z T94.heap w94 kw94 .byte (16384 : Int32) [] (.int (0 : Int32)) := P94_2
      refine Goes.step (T2 := T94) (g2 := (mkF m 285 #[iv p1, iv p2, iv (p2 &&& (16383 : Int32)), rv b71, rv w75, rv w79, iv 0, iv 0, .val .null, .val .null, rv w86, .val .null, .val .null, rv w90, .unset] [(.ref w94)])) (fun _ hr => st94.trans hr) ?_
      refine Goes.step (T2 := T94) (g2 := (mkF m 287 #[iv p1, iv p2, iv (p2 &&& (16383 : Int32)), rv b71, rv w75, rv w79, iv 0, iv 0, .val .null, .val .null, rv w86, .val .null, .val .null, rv w90, rv w94] [])) (fun _ hr => XS.astore X94.here hx rfl (hb hby at_285) rfl rfl (l' := #[iv p1, iv p2, iv (p2 &&& (16383 : Int32)), rv b71, rv w75, rv w79, iv 0, iv 0, .val .null, .val .null, rv w86, .val .null, .val .null, rv w90, rv w94]) rfl hr) ?_
      refine Goes.step (T2 := T94) (g2 := (mkF m 289 #[iv p1, iv p2, iv (p2 &&& (16383 : Int32)), rv b71, rv w75, rv w79, iv 0, iv 0, .val .null, .val .null, rv w86, .val .null, .val .null, rv w90, rv w94] [.null])) (fun _ hr => XS.aload X94.here hx rfl (hb hby at_287) rfl rfl hr) ?_
      refine Goes.step (T2 := T94) (g2 := (mkF m 301 #[iv p1, iv p2, iv (p2 &&& (16383 : Int32)), rv b71, rv w75, rv w79, iv 0, iv 0, .val .null, .val .null, rv w86, .val .null, .val .null, rv w90, rv w94] [])) (fun _ hr => XS.ifnullYes X94.here hx rfl (pc0 := 289) (pc' := 301) rfl (hb hby at_289) rfl (by decide) (by decide) hr) ?_
      refine Goes.step (T2 := T94) (g2 := (mkF m 303 #[iv p1, iv p2, iv (p2 &&& (16383 : Int32)), rv b71, rv w75, rv w79, iv 0, iv 0, .val .null, .val .null, rv w86, .val .null, .val .null, rv w90, rv w94] [(.ref w94)])) (fun _ hr => XS.aload X94.here hx rfl (hb hby at_301) rfl rfl hr) ?_
      refine Goes.step (T2 := T94) (g2 := (mkF m 304 #[iv p1, iv p2, iv (p2 &&& (16383 : Int32)), rv b71, rv w75, rv w79, iv 0, iv 0, .val .null, .val .null, rv w86, .val .null, .val .null, rv w90, rv w94] [(.int (p2 &&& (16383 : Int32))), (.ref w94)])) (fun _ hr => XS.iloadN X94.here hx rfl (hb hby at_303) rfl  hr) ?_
      refine Goes.step (T2 := T94) (g2 := (mkF m 306 #[iv p1, iv p2, iv (p2 &&& (16383 : Int32)), rv b71, rv w75, rv w79, iv 0, iv 0, .val .null, .val .null, rv w86, .val .null, .val .null, rv w90, rv w94] [(.ref w75), (.int (p2 &&& (16383 : Int32))), (.ref w94)])) (fun _ hr => XS.aload X94.here hx rfl (hb hby at_304) rfl rfl hr) ?_
      refine Goes.step (T2 := T94) (g2 := (mkF m 308 #[iv p1, iv p2, iv (p2 &&& (16383 : Int32)), rv b71, rv w75, rv w79, iv 0, iv 0, .val .null, .val .null, rv w86, .val .null, .val .null, rv w90, rv w94] [(.ref w79), (.ref w75), (.int (p2 &&& (16383 : Int32))), (.ref w94)])) (fun _ hr => XS.aload X94.here hx rfl (hb hby at_306) rfl rfl hr) ?_
      refine Goes.step (T2 := T94) (g2 := (mkF m 310 #[iv p1, iv p2, iv (p2 &&& (16383 : Int32)), rv b71, rv w75, rv w79, iv 0, iv 0, .val .null, .val .null, rv w86, .val .null, .val .null, rv w90, rv w94] [(.ref w86), (.ref w79), (.ref w75), (.int (p2 &&& (16383 : Int32))), (.ref w94)])) (fun _ hr => XS.aload X94.here hx rfl (hb hby at_308) rfl rfl hr) ?_
      refine Goes.step (T2 := T94) (g2 := (mkF m 312 #[iv p1, iv p2, iv (p2 &&& (16383 : Int32)), rv b71, rv w75, rv w79, iv 0, iv 0, .val .null, .val .null, rv w86, .val .null, .val .null, rv w90, rv w94] [(.ref w90), (.ref w86), (.ref w79), (.ref w75), (.int (p2 &&& (16383 : Int32))), (.ref w94)])) (fun _ hr => XS.aload X94.here hx rfl (hb hby at_310) rfl rfl hr) ?_
      have Zs95 : n0 ≤ T94.heap.size := Nat.le_trans Z0 K94.1
      obtain ⟨_, _, ⟨T96, L96, k96, n96⟩, -, X96, ⟨Lc96, hQ96, l96, y96, z96⟩, st96⟩ := Jvm.LawKit.callS X94 hx (y := Y3) hown (mvT hZ (tw hw 21 rfl)) (mvT hZ (tw hw 22 rfl)) (mvT hZ (tw hw 23 rfl)) (mvT hZ (tw hw 24 rfl)) (by decide) (backOf (W := 0) (rm_fresh4 l Z a0 hw [] w94 (p2 &&& (16383 : Int32)) kw94 w75 w79 w86 w90 T94.heap n0 Zs95 (Old.keep O0 K94 hws) V_w94_94c (Ne.symm (Nat.ne_of_lt (Nat.lt_of_lt_of_le E_w75_90.lt P94_0))) (Ne.symm (Nat.ne_of_lt (Nat.lt_of_lt_of_le E_w79_90.lt P94_0))) (Ne.symm (Nat.ne_of_lt (Nat.lt_of_lt_of_le E_w86_90.lt P94_0))) (Ne.symm (Nat.ne_of_lt (Nat.lt_of_lt_of_le E_w90_90c.lt P94_0))) hinb) hZ (tw hw 24 rfl) (tw hw 23 rfl) (by decide) (by decide)) (g := (mkF m 312 #[iv p1, iv p2, iv (p2 &&& (16383 : Int32)), rv b71, rv w75, rv w79, iv 0, iv 0, .val .null, .val .null, rv w86, .val .null, .val .null, rv w90, rv w94] [(.ref w90), (.ref w86), (.ref w79), (.ref w75), (.int (p2 &&& (16383 : Int32))), (.ref w94)])) rfl (by rw [hml]; rfl) (argsL := [(.ref w94), (.int (p2 &&& (16383 : Int32))), (.ref w75), (.ref w79), (.ref w86), (.ref w90)]) (rest := []) (lenOf pd_2 rfl) rfl (by show 2 * 0 + _ ≤ _; exact Nat.le_of_eq rfl) (hb hby at_312) (fun _ _ => ⟨rfl, rfl, (by decide : 7 + 0 ≤ _), (by decide : 81986 + 0 ≤ _)⟩)
      dsimp only [Pt.U, Pt.locs, Pt.cells, Pt.slots] at X96 l96 y96 z96 st96 hQ96
      subst l96 y96 z96
      obtain ⟨rfl, N96q, e96⟩ := hQ96
      have N96 := Fr.app N94 N96q
      refine Goes.step (T2 := T96) (g2 := (mkF m 315 #[iv p1, iv p2, iv (p2 &&& (16383 : Int32)), rv b71, rv w75, rv w79, iv 0, iv 0, .val .null, .val .null, rv w86, .val .null, .val .null, rv w90, rv w94] [(.int (1 : Int32))])) st96 ?_
      refine Goes.step (T2 := T96) (g2 := (mkF m 320 #[iv p1, iv p2, iv (p2 &&& (16383 : Int32)), rv b71, rv w75, rv w79, iv 0, iv 0, .val .null, .val .null, rv w86, .val .null, .val .null, rv w90, rv w94] [])) (fun _ hr => XS.ifYes X96.here hx rfl (pc0 := 315) (pc' := 320) rfl (hb hby at_315) rfl ((if0 _ _).trans (feq (by decide : ¬ ((1 : Int32) = (0 : Int32)))).2) (by decide) (by decide) hr) ?_
      refine Goes.step (T2 := T96) (g2 := (mkF m 321 #[iv p1, iv p2, iv (p2 &&& (16383 : Int32)), rv b71, rv w75, rv w79, iv 0, iv 0, .val .null, .val .null, rv w86, .val .null, .val .null, rv w90, rv w94] [(.int (1 : Int32))])) (fun _ hr => XS.iconst X96.here hx rfl (hb hby at_320) hr) ?_
      exact Goes.ret (v := some (.int (1 : Int32))) X96 (by decide) (by decide) (fun h => by rw [Bd.returns] at h; cases h) ⟨rfl, N96⟩ (fun fs hr => retN X96 hx (t := .boolean) Bd.returns (by simp) (hb hby at_321) hr)
    · refine Goes.step (T2 := T83) (g2 := (mkF m 90 #[iv p1, iv p2, iv (p2 &&& (16383 : Int32)), rv b71, rv w75, rv w79, iv 0, .unset, .unset, .unset, .unset, .unset, .unset, .unset, .unset] [])) (fun _ hr => XS.ifNo X83.here hx rfl (hb hby at_87) rfl ((if0 _ _).trans (feq hc87_84).1) hr) ?_
      refine Goes.step (T2 := T83) (g2 := (mkF m 91 #[iv p1, iv p2, iv (p2 &&& (16383 : Int32)), rv b71, rv w75, rv w79, iv 0, .unset, .unset, .unset, .unset, .unset, .unset, .unset, .unset] [(.int (1 : Int32))])) (fun _ hr => XS.iconst X83.here hx rfl (hb hby at_90) hr) ?_
      refine Goes.step (T2 := T83) (g2 := (mkF m 95 #[iv p1, iv p2, iv (p2 &&& (16383 : Int32)), rv b71, rv w75, rv w79, iv 0, .unset, .unset, .unset, .unset, .unset, .unset, .unset, .unset] [(.int (1 : Int32))])) (fun _ hr => XS.goto X83.here hx rfl (pc0 := 91) (pc' := 95) rfl (hb hby at_91) (by decide) (by decide) hr) ?_
      refine Goes.step (T2 := T83) (g2 := (mkF m 97 #[iv p1, iv p2, iv (p2 &&& (16383 : Int32)), rv b71, rv w75, rv w79, iv 0, iv 1, .unset, .unset, .unset, .unset, .unset, .unset, .unset] [])) (fun _ hr => XS.istore X83.here hx rfl (hb hby at_95) rfl (l' := #[iv p1, iv p2, iv (p2 &&& (16383 : Int32)), rv b71, rv w75, rv w79, iv 0, iv 1, .unset, .unset, .unset, .unset, .unset, .unset, .unset]) rfl hr) ?_
      refine Goes.step (T2 := T83) (g2 := (mkF m 98 #[iv p1, iv p2, iv (p2 &&& (16383 : Int32)), rv b71, rv w75, rv w79, iv 0, iv 1, .unset, .unset, .unset, .unset, .unset, .unset, .unset] [.null])) (fun _ hr => XS.aconstNull X83.here hx rfl (hb hby at_97) hr) ?_
      refine Goes.step (T2 := T83) (g2 := (mkF m 100 #[iv p1, iv p2, iv (p2 &&& (16383 : Int32)), rv b71, rv w75, rv w79, iv 0, iv 1, .val .null, .unset, .unset, .unset, .unset, .unset, .unset] [])) (fun _ hr => XS.astore X83.here hx rfl (hb hby at_98) rfl rfl (l' := #[iv p1, iv p2, iv (p2 &&& (16383 : Int32)), rv b71, rv w75, rv w79, iv 0, iv 1, .val .null, .unset, .unset, .unset, .unset, .unset, .unset]) rfl hr) ?_
      refine Goes.step (T2 := T83) (g2 := (mkF m 101 #[iv p1, iv p2, iv (p2 &&& (16383 : Int32)), rv b71, rv w75, rv w79, iv 0, iv 1, .val .null, .unset, .unset, .unset, .unset, .unset, .unset] [.null])) (fun _ hr => XS.aconstNull X83.here hx rfl (hb hby at_100) hr) ?_
      refine Goes.step (T2 := T83) (g2 := (mkF m 103 #[iv p1, iv p2, iv (p2 &&& (16383 : Int32)), rv b71, rv w75, rv w79, iv 0, iv 1, .val .null, .val .null, .unset, .unset, .unset, .unset, .unset] [])) (fun _ hr => XS.astore X83.here hx rfl (hb hby at_101) rfl rfl (l' := #[iv p1, iv p2, iv (p2 &&& (16383 : Int32)), rv b71, rv w75, rv w79, iv 0, iv 1, .val .null, .val .null, .unset, .unset, .unset, .unset, .unset]) rfl hr) ?_
      refine Goes.step (T2 := T83) (g2 := (mkF m 105 #[iv p1, iv p2, iv (p2 &&& (16383 : Int32)), rv b71, rv w75, rv w79, iv 0, iv 1, .val .null, .val .null, .unset, .unset, .unset, .unset, .unset] [(.int (0 : Int32))])) (fun _ hr => XS.iload X83.here hx rfl (hb hby at_103) rfl  hr) ?_
      refine Goes.step (T2 := T83) (g2 := (mkF m 106 #[iv p1, iv p2, iv (p2 &&& (16383 : Int32)), rv b71, rv w75, rv w79, iv 0, iv 1, .val .null, .val .null, .unset, .unset, .unset, .unset, .unset] [(.int (1 : Int32)), (.int (0 : Int32))])) (fun _ hr => XS.iconst X83.here hx rfl (hb hby at_105) hr) ?_
      refine Goes.step (T2 := T83) (g2 := (mkF m 122 #[iv p1, iv p2, iv (p2 &&& (16383 : Int32)), rv b71, rv w75, rv w79, iv 0, iv 1, .val .null, .val .null, .unset, .unset, .unset, .unset, .unset] [])) (fun _ hr => XS.icmpYes X83.here hx rfl (pc0 := 106) (pc' := 122) rfl (hb hby at_106) rfl (feq (by decide : ¬ ((0 : Int32) = (1 : Int32)))).2 (by decide) (by decide) hr) ?_
      refine Goes.step (T2 := T83) (g2 := (mkF m 124 #[iv p1, iv p2, iv (p2 &&& (16383 : Int32)), rv b71, rv w75, rv w79, iv 0, iv 1, .val .null, .val .null, .unset, .unset, .unset, .unset, .unset] [(.int (0 : Int32))])) (fun _ hr => XS.iload X83.here hx rfl (hb hby at_122) rfl  hr) ?_
      refine Goes.step (T2 := T83) (g2 := (mkF m 125 #[iv p1, iv p2, iv (p2 &&& (16383 : Int32)), rv b71, rv w75, rv w79, iv 0, iv 1, .val .null, .val .null, .unset, .unset, .unset, .unset, .unset] [(.int (2 : Int32)), (.int (0 : Int32))])) (fun _ hr => XS.iconst X83.here hx rfl (hb hby at_124) hr) ?_
      refine Goes.step (T2 := T83) (g2 := (mkF m 151 #[iv p1, iv p2, iv (p2 &&& (16383 : Int32)), rv b71, rv w75, rv w79, iv 0, iv 1, .val .null, .val .null, .unset, .unset, .unset, .unset, .unset] [])) (fun _ hr => XS.icmpYes X83.here hx rfl (pc0 := 125) (pc' := 151) rfl (hb hby at_125) rfl (feq (by decide : ¬ ((0 : Int32) = (2 : Int32)))).2 (by decide) (by decide) hr) ?_
      refine Goes.step (T2 := T83) (g2 := (mkF m 153 #[iv p1, iv p2, iv (p2 &&& (16383 : Int32)), rv b71, rv w75, rv w79, iv 0, iv 1, .val .null, .val .null, .unset, .unset, .unset, .unset, .unset] [(.int (0 : Int32))])) (fun _ hr => XS.iload X83.here hx rfl (hb hby at_151) rfl  hr) ?_
      refine Goes.step (T2 := T83) (g2 := (mkF m 154 #[iv p1, iv p2, iv (p2 &&& (16383 : Int32)), rv b71, rv w75, rv w79, iv 0, iv 1, .val .null, .val .null, .unset, .unset, .unset, .unset, .unset] [(.int (3 : Int32)), (.int (0 : Int32))])) (fun _ hr => XS.iconst X83.here hx rfl (hb hby at_153) hr) ?_
      refine Goes.step (T2 := T83) (g2 := (mkF m 177 #[iv p1, iv p2, iv (p2 &&& (16383 : Int32)), rv b71, rv w75, rv w79, iv 0, iv 1, .val .null, .val .null, .unset, .unset, .unset, .unset, .unset] [])) (fun _ hr => XS.icmpYes X83.here hx rfl (pc0 := 154) (pc' := 177) rfl (hb hby at_154) rfl (feq (by decide : ¬ ((0 : Int32) = (3 : Int32)))).2 (by decide) (by decide) hr) ?_
      refine Goes.step (T2 := T83) (g2 := (mkF m 178 #[iv p1, iv p2, iv (p2 &&& (16383 : Int32)), rv b71, rv w75, rv w79, iv 0, iv 1, .val .null, .val .null, .unset, .unset, .unset, .unset, .unset] [(.ref b71)])) (fun _ hr => XS.aloadN X83.here hx rfl (hb hby at_177) rfl rfl hr) ?_
      have Zs97 : n0 ≤ h83.size := Nat.le_trans Z0 K83.1
      obtain ⟨cq98, kq98, q98a, q98b, q98c⟩ := isOf hZ e83 E_b71_83
      obtain ⟨_, _, ⟨T98, L98, k98, n98⟩, -, X98, ⟨Lc98, hQ98, l98, y98, z98⟩, st98⟩ := X83.virtualBack hx (y := Y1) (z := Y1) hown (mvT hZ (tw hw 13 rfl)) (mvT hZ (tw hw 14 rfl)) (notFace_of_selects (args := #[]) (mvT hZ (tw hw 16 rfl))) (mvT hZ (tw hw 16 rfl)) (mvT hZ (tw hw 15 rfl)) (by decide) (backOf (W := 0) (rm_take0 l Z a0 hw [] b71 h83 n0 Zs97 (Old.keep O0 K83 hws) F_b71_spareCount_83) hZ (tw hw 17 rfl) (tw hw 2 rfl) (by decide) (by decide)) q98a q98c (g := (mkF m 178 #[iv p1, iv p2, iv (p2 &&& (16383 : Int32)), rv b71, rv w75, rv w79, iv 0, iv 1, .val .null, .val .null, .unset, .unset, .unset, .unset, .unset] [(.ref b71)])) rfl (by rw [hml]; rfl) (Steps.refl _) (argsL := []) (rest := []) (lenOf pd_1 rfl) rfl (by show 2 * 0 + _ ≤ _; exact Nat.le_of_eq rfl) (hb hby at_178) (fun _ _ => ⟨rfl, e83, (by decide : 4 + 1 ≤ _), (by decide : 32834 + 16384 ≤ _)⟩)
      dsimp only [Pt.U, Pt.locs, Pt.cells, Pt.slots] at X98 l98 y98 z98 st98 hQ98
      subst l98 y98 z98
      obtain ⟨w98, kw98, rfl, N98q, Kc98, P98_0, P98_1, P98_2⟩ := hQ98
      have N98 := Fr.app N83 N98q
      have E_b71_98 : Exa Z T98.heap b71 "com/example/api_policy_gateway/apipolicygateway/net/BufferPool" := E_b71_83.keep Kc98
      have F_b71_spare_98 : Fld Z T98.heap b71 "com/example/api_policy_gateway/apipolicygateway/net/BufferPool" "spare" "[[B" (.ref sp73) := F_b71_spare_83.keep Kc98 nin0
      have F_b71_spareCount_98 : Fld Z T98.heap b71 "com/example/api_policy_gateway/apipolicygateway/net/BufferPool" "spareCount" "I" (.int (0 : Int32)) := F_b71_spareCount_83.keep Kc98 nin0
      have V_sp73_98 : Arv Z T98.heap sp73 k73 (.array .byte) (64 : Int32) [.null, .null, .null] .null := V_sp73_83.keep Kc98 nin0
      have E_w75_98 : Exa Z T98.heap w75 "[B" := E_w75_83.keep Kc98
      have E_w79_98 : Exa Z T98.heap w79 "[B" := E_w79_83.keep Kc98
      have L_w75_98 : LenB Z T98.heap w75 (16384 : Int32) := L_w75_83.keep Kc98 nin0
      have L_w79_98 : LenB Z T98.heap w79 (16384 : Int32) := L_w79_83.keep Kc98 nin0
      have K98 : Keep h0 T98.heap [] := K83.trans Kc98 all0
      have sz_w98 : h0.size ≤ w98 := Nat.le_trans K83.1 P98_0
      have ge_w98 : n0 ≤ w98 := Nat.le_trans Z0 sz_w98
      have E_w98_98c : Exa Z T98.heap w98 "[B" := P98_1
      have V_w98_98c : Arv Z T98.heap w98 kw98 .byte (16384 : Int32) [] (.int (0 : Int32)) := P98_2
      refine Goes.step (T2 := T98) (g2 := (mkF m 181 #[iv p1, iv p2, iv (p2 &&& (16383 : Int32)), rv b71, rv w75, rv w79, iv 0, iv 1, .val .null, .val .null, .unset, .unset, .unset, .unset, .unset] [(.ref w98)])) (fun _ hr => st98.trans hr) ?_
      refine Goes.step (T2 := T98) (g2 := (mkF m 183 #[iv p1, iv p2, iv (p2 &&& (16383 : Int32)), rv b71, rv w75, rv w79, iv 0, iv 1, .val .null, .val .null, rv w98, .unset, .unset, .unset, .unset] [])) (fun _ hr => XS.astore X98.here hx rfl (hb hby at_181) rfl rfl (l' := #[iv p1, iv p2, iv (p2 &&& (16383 : Int32)), rv b71, rv w75, rv w79, iv 0, iv 1, .val .null, .val .null, rv w98, .unset, .unset, .unset, .unset]) rfl hr) ?_
      refine Goes.step (T2 := T98) (g2 := (mkF m 185 #[iv p1, iv p2, iv (p2 &&& (16383 : Int32)), rv b71, rv w75, rv w79, iv 0, iv 1, .val .null, .val .null, rv w98, .unset, .unset, .unset, .unset] [.null])) (fun _ hr => XS.aload X98.here hx rfl (hb hby at_183) rfl rfl hr) ?_
      refine Goes.step (T2 := T98) (g2 := (mkF m 197 #[iv p1, iv p2, iv (p2 &&& (16383 : Int32)), rv b71, rv w75, rv w79, iv 0, iv 1, .val .null, .val .null, rv w98, .unset, .unset, .unset, .unset] [])) (fun _ hr => XS.ifnullYes X98.here hx rfl (pc0 := 185) (pc' := 197) rfl (hb hby at_185) rfl (by decide) (by decide) hr) ?_
      refine Goes.step (T2 := T98) (g2 := (mkF m 199 #[iv p1, iv p2, iv (p2 &&& (16383 : Int32)), rv b71, rv w75, rv w79, iv 0, iv 1, .val .null, .val .null, rv w98, .unset, .unset, .unset, .unset] [(.ref w98)])) (fun _ hr => XS.aload X98.here hx rfl (hb hby at_197) rfl rfl hr) ?_
      refine Goes.step (T2 := T98) (g2 := (mkF m 200 #[iv p1, iv p2, iv (p2 &&& (16383 : Int32)), rv b71, rv w75, rv w79, iv 0, iv 1, .val .null, .val .null, rv w98, .unset, .unset, .unset, .unset] [(.int (p2 &&& (16383 : Int32))), (.ref w98)])) (fun _ hr => XS.iloadN X98.here hx rfl (hb hby at_199) rfl  hr) ?_
      refine Goes.step (T2 := T98) (g2 := (mkF m 202 #[iv p1, iv p2, iv (p2 &&& (16383 : Int32)), rv b71, rv w75, rv w79, iv 0, iv 1, .val .null, .val .null, rv w98, .unset, .unset, .unset, .unset] [(.ref w75), (.int (p2 &&& (16383 : Int32))), (.ref w98)])) (fun _ hr => XS.aload X98.here hx rfl (hb hby at_200) rfl rfl hr) ?_
      refine Goes.step (T2 := T98) (g2 := (mkF m 204 #[iv p1, iv p2, iv (p2 &&& (16383 : Int32)), rv b71, rv w75, rv w79, iv 0, iv 1, .val .null, .val .null, rv w98, .unset, .unset, .unset, .unset] [(.ref w79), (.ref w75), (.int (p2 &&& (16383 : Int32))), (.ref w98)])) (fun _ hr => XS.aload X98.here hx rfl (hb hby at_202) rfl rfl hr) ?_
      refine Goes.step (T2 := T98) (g2 := (mkF m 205 #[iv p1, iv p2, iv (p2 &&& (16383 : Int32)), rv b71, rv w75, rv w79, iv 0, iv 1, .val .null, .val .null, rv w98, .unset, .unset, .unset, .unset] [.null, (.ref w79), (.ref w75), (.int (p2 &&& (16383 : Int32))), (.ref w98)])) (fun _ hr => XS.aconstNull X98.here hx rfl (hb hby at_204) hr) ?_
      refine Goes.step (T2 := T98) (g2 := (mkF m 206 #[iv p1, iv p2, iv (p2 &&& (16383 : Int32)), rv b71, rv w75, rv w79, iv 0, iv 1, .val .null, .val .null, rv w98, .unset, .unset, .unset, .unset] [.null, .null, (.ref w79), (.ref w75), (.int (p2 &&& (16383 : Int32))), (.ref w98)])) (fun _ hr => XS.aconstNull X98.here hx rfl (hb hby at_205) hr) ?_
      have Zs99 : n0 ≤ T98.heap.size := Nat.le_trans Z0 K98.1
      obtain ⟨_, _, ⟨T100, L100, k100, n100⟩, -, X100, ⟨Lc100, hQ100, l100, y100, z100⟩, st100⟩ := Jvm.LawKit.callS X98 hx (y := Y3) hown (mvT hZ (tw hw 21 rfl)) (mvT hZ (tw hw 22 rfl)) (mvT hZ (tw hw 23 rfl)) (mvT hZ (tw hw 24 rfl)) (by decide) (backOf (W := 0) (rm_fresh2 l Z a0 hw [] w98 (p2 &&& (16383 : Int32)) kw98 w75 w79 T98.heap n0 Zs99 (Old.keep O0 K98 hws) V_w98_98c (Ne.symm (Nat.ne_of_lt (Nat.lt_of_lt_of_le E_w75_83.lt P98_0))) (Ne.symm (Nat.ne_of_lt (Nat.lt_of_lt_of_le E_w79_83.lt P98_0))) hinb) hZ (tw hw 24 rfl) (tw hw 23 rfl) (by decide) (by decide)) (g := (mkF m 206 #[iv p1, iv p2, iv (p2 &&& (16383 : Int32)), rv b71, rv w75, rv w79, iv 0, iv 1, .val .null, .val .null, rv w98, .unset, .unset, .unset, .unset] [.null, .null, (.ref w79), (.ref w75), (.int (p2 &&& (16383 : Int32))), (.ref w98)])) rfl (by rw [hml]; rfl) (argsL := [(.ref w98), (.int (p2 &&& (16383 : Int32))), (.ref w75), (.ref w79), .null, .null]) (rest := []) (lenOf pd_2 rfl) rfl (by show 2 * 0 + _ ≤ _; exact Nat.le_of_eq rfl) (hb hby at_206) (fun _ _ => ⟨rfl, rfl, (by decide : 5 + 0 ≤ _), (by decide : 49218 + 0 ≤ _)⟩)
      dsimp only [Pt.U, Pt.locs, Pt.cells, Pt.slots] at X100 l100 y100 z100 st100 hQ100
      subst l100 y100 z100
      obtain ⟨rfl, N100q, e100⟩ := hQ100
      have N100 := Fr.app N98 N100q
      refine Goes.step (T2 := T100) (g2 := (mkF m 209 #[iv p1, iv p2, iv (p2 &&& (16383 : Int32)), rv b71, rv w75, rv w79, iv 0, iv 1, .val .null, .val .null, rv w98, .unset, .unset, .unset, .unset] [(.int (1 : Int32))])) st100 ?_
      refine Goes.step (T2 := T100) (g2 := (mkF m 214 #[iv p1, iv p2, iv (p2 &&& (16383 : Int32)), rv b71, rv w75, rv w79, iv 0, iv 1, .val .null, .val .null, rv w98, .unset, .unset, .unset, .unset] [])) (fun _ hr => XS.ifYes X100.here hx rfl (pc0 := 209) (pc' := 214) rfl (hb hby at_209) rfl ((if0 _ _).trans (feq (by decide : ¬ ((1 : Int32) = (0 : Int32)))).2) (by decide) (by decide) hr) ?_
      refine Goes.step (T2 := T100) (g2 := (mkF m 216 #[iv p1, iv p2, iv (p2 &&& (16383 : Int32)), rv b71, rv w75, rv w79, iv 0, iv 1, .val .null, .val .null, rv w98, .unset, .unset, .unset, .unset] [(.int (1 : Int32))])) (fun _ hr => XS.iload X100.here hx rfl (hb hby at_214) rfl  hr) ?_
      refine Goes.step (T2 := T100) (g2 := (mkF m 219 #[iv p1, iv p2, iv (p2 &&& (16383 : Int32)), rv b71, rv w75, rv w79, iv 0, iv 1, .val .null, .val .null, rv w98, .unset, .unset, .unset, .unset] [])) (fun _ hr => XS.ifNo X100.here hx rfl (hb hby at_216) rfl ((if0 _ _).trans (feq (by decide : ¬ ((1 : Int32) = (0 : Int32)))).1) hr) ?_
      refine Goes.step (T2 := T100) (g2 := (mkF m 220 #[iv p1, iv p2, iv (p2 &&& (16383 : Int32)), rv b71, rv w75, rv w79, iv 0, iv 1, .val .null, .val .null, rv w98, .unset, .unset, .unset, .unset] [(.ref b71)])) (fun _ hr => XS.aloadN X100.here hx rfl (hb hby at_219) rfl rfl hr) ?_
      refine Goes.step (T2 := T100) (g2 := (mkF m 222 #[iv p1, iv p2, iv (p2 &&& (16383 : Int32)), rv b71, rv w75, rv w79, iv 0, iv 1, .val .null, .val .null, rv w98, .unset, .unset, .unset, .unset] [(.ref w98), (.ref b71)])) (fun _ hr => XS.aload X100.here hx rfl (hb hby at_220) rfl rfl hr) ?_
      have Zs101 : n0 ≤ T98.heap.size := Nat.le_trans Z0 K98.1
      obtain ⟨cq102, kq102, q102a, q102b, q102c⟩ := isOf hZ e100 E_b71_98
      obtain ⟨_, _, ⟨T102, L102, k102, n102⟩, -, X102, ⟨Lc102, hQ102, l102, y102, z102⟩, st102⟩ := X100.virtualBack hx (y := Y2) (z := Y2) hown (mvT hZ (tw hw 25 rfl)) (mvT hZ (tw hw 26 rfl)) (notFace_of_selects (args := #[]) (mvT hZ (tw hw 28 rfl))) (mvT hZ (tw hw 28 rfl)) (mvT hZ (tw hw 27 rfl)) (by decide) (backOf (W := 0) (rm_give0 l Z a0 hw [] b71 sp73 k73 .null .null .null w98 T98.heap n0 Zs101 (Old.keep O0 K98 hws) E_b71_98 F_b71_spare_98 F_b71_spareCount_98 V_sp73_98 E_w98_98c (LenB.of V_w98_98c) ge_b71 ge_sp73 (Nat.ne_of_lt (Nat.lt_of_lt_of_le A71.lt P73_0)) (Ne.symm (Nat.ne_of_lt (Nat.lt_of_lt_of_le E_b71_83.lt P98_0))) (Ne.symm (Nat.ne_of_lt (Nat.lt_of_lt_of_le V_sp73_83.lt P98_0))) P73_4) hZ (tw hw 29 rfl) (tw hw 2 rfl) (by decide) (by decide)) q102a q102c (g := (mkF m 222 #[iv p1, iv p2, iv (p2 &&& (16383 : Int32)), rv b71, rv w75, rv w79, iv 0, iv 1, .val .null, .val .null, rv w98, .unset, .unset, .unset, .unset] [(.ref w98), (.ref b71)])) rfl (by rw [hml]; rfl) (Steps.refl _) (argsL := [(.ref w98)]) (rest := []) (lenOf pd_3 rfl) rfl (by show 2 * 0 + _ ≤ _; exact Nat.le_of_eq rfl) (hb hby at_222) (fun _ _ => ⟨rfl, e100, (by decide : 5 + 0 ≤ _), (by decide : 49218 + 0 ≤ _)⟩)
      dsimp only [Pt.U, Pt.locs, Pt.cells, Pt.slots] at X102 l102 y102 z102 st102 hQ102
      subst l102 y102 z102
      obtain ⟨rfl, N102q, Kc102, P102_0, P102_1, P102_2⟩ := hQ102
      have N102 := Fr.app N100 N102q
      have E_b71_102 : Exa Z T102.heap b71 "com/example/api_policy_gateway/apipolicygateway/net/BufferPool" := E_b71_98.keep Kc102
      have E_w75_102 : Exa Z T102.heap w75 "[B" := E_w75_98.keep Kc102
      have E_w79_102 : Exa Z T102.heap w79 "[B" := E_w79_98.keep Kc102
      have L_w75_102 : LenB Z T102.heap w75 (16384 : Int32) := L_w75_98.keep Kc102 (ninS (Ne.symm (Nat.ne_of_lt (Nat.lt_of_lt_of_le E_b71_73.lt P75_0))) (ninS (Ne.symm (Nat.ne_of_lt (Nat.lt_of_lt_of_le V_sp73_73c.lt P75_0))) nin0))
      have L_w79_102 : LenB Z T102.heap w79 (16384 : Int32) := L_w79_98.keep Kc102 (ninS (Ne.symm (Nat.ne_of_lt (Nat.lt_of_lt_of_le E_b71_75.lt P79_0))) (ninS (Ne.symm (Nat.ne_of_lt (Nat.lt_of_lt_of_le V_sp73_75.lt P79_0))) nin0))
      have E_w98_102 : Exa Z T102.heap w98 "[B" := E_w98_98c.keep Kc102
      have V_w98_102 : Arv Z T102.heap w98 kw98 .byte (16384 : Int32) [] (.int (0 : Int32)) := V_w98_98c.keep Kc102 (ninS (Ne.symm (Nat.ne_of_lt (Nat.lt_of_lt_of_le E_b71_83.lt P98_0))) (ninS (Ne.symm (Nat.ne_of_lt (Nat.lt_of_lt_of_le V_sp73_83.lt P98_0))) nin0))
      have K102 : Keep h0 T102.heap [] := K98.trans Kc102 (allS (Or.inr sz_b71) (allS (Or.inr sz_sp73) all0))
      have F_b71_spare_102c : Fld Z T102.heap b71 "com/example/api_policy_gateway/apipolicygateway/net/BufferPool" "spare" "[[B" (.ref sp73) := P102_0
      have F_b71_spareCount_102c : Fld Z T102.heap b71 "com/example/api_policy_gateway/apipolicygateway/net/BufferPool" "spareCount" "I" (.int (1 : Int32)) := P102_1
      have V_sp73_102c : Arv Z T102.heap sp73 k73 (.array .byte) (64 : Int32) [(.ref w98), .null, .null] .null := P102_2
      refine Goes.step (T2 := T102) (g2 := (mkF m 225 #[iv p1, iv p2, iv (p2 &&& (16383 : Int32)), rv b71, rv w75, rv w79, iv 0, iv 1, .val .null, .val .null, rv w98, .unset, .unset, .unset, .unset] [])) (fun _ hr => st102.trans hr) ?_
      refine Goes.step (T2 := T102) (g2 := (mkF m 227 #[iv p1, iv p2, iv (p2 &&& (16383 : Int32)), rv b71, rv w75, rv w79, iv 0, iv 1, .val .null, .val .null, rv w98, .unset, .unset, .unset, .unset] [(.ref w98)])) (fun _ hr => XS.aload X102.here hx rfl (hb hby at_225) rfl rfl hr) ?_
      refine Goes.step (T2 := T102) (g2 := (mkF m 229 #[iv p1, iv p2, iv (p2 &&& (16383 : Int32)), rv b71, rv w75, rv w79, iv 0, iv 1, .val .null, .val .null, rv w98, rv w98, .unset, .unset, .unset] [])) (fun _ hr => XS.astore X102.here hx rfl (hb hby at_227) rfl rfl (l' := #[iv p1, iv p2, iv (p2 &&& (16383 : Int32)), rv b71, rv w75, rv w79, iv 0, iv 1, .val .null, .val .null, rv w98, rv w98, .unset, .unset, .unset]) rfl hr) ?_
      refine Goes.step (T2 := T102) (g2 := (mkF m 231 #[iv p1, iv p2, iv (p2 &&& (16383 : Int32)), rv b71, rv w75, rv w79, iv 0, iv 1, .val .null, .val .null, rv w98, rv w98, .unset, .unset, .unset] [.null])) (fun _ hr => XS.aload X102.here hx rfl (hb hby at_229) rfl rfl hr) ?_
      refine Goes.step (T2 := T102) (g2 := (mkF m 233 #[iv p1, iv p2, iv (p2 &&& (16383 : Int32)), rv b71, rv w75, rv w79, iv 0, iv 1, .val .null, .val .null, rv w98, rv w98, .val .null, .unset, .unset] [])) (fun _ hr => XS.astore X102.here hx rfl (hb hby at_231) rfl rfl (l' := #[iv p1, iv p2, iv (p2 &&& (16383 : Int32)), rv b71, rv w75, rv w79, iv 0, iv 1, .val .null, .val .null, rv w98, rv w98, .val .null, .unset, .unset]) rfl hr) ?_
      refine Goes.step (T2 := T102) (g2 := (mkF m 243 #[iv p1, iv p2, iv (p2 &&& (16383 : Int32)), rv b71, rv w75, rv w79, iv 0, iv 1, .val .null, .val .null, rv w98, rv w98, .val .null, .unset, .unset] [])) (fun _ hr => XS.goto X102.here hx rfl (pc0 := 233) (pc' := 243) rfl (hb hby at_233) (by decide) (by decide) hr) ?_
      refine Goes.step (T2 := T102) (g2 := (mkF m 244 #[iv p1, iv p2, iv (p2 &&& (16383 : Int32)), rv b71, rv w75, rv w79, iv 0, iv 1, .val .null, .val .null, rv w98, rv w98, .val .null, .unset, .unset] [(.ref b71)])) (fun _ hr => XS.aloadN X102.here hx rfl (hb hby at_243) rfl rfl hr) ?_
      have Zs103 : n0 ≤ T102.heap.size := Nat.le_trans Z0 K102.1
      obtain ⟨cq104, kq104, q104a, q104b, q104c⟩ := isOf hZ rfl E_b71_102
      obtain ⟨_, _, ⟨T104, L104, k104, n104⟩, -, X104, ⟨Lc104, hQ104, l104, y104, z104⟩, st104⟩ := X102.virtualBack hx (y := Y1) (z := Y1) hown (mvT hZ (tw hw 13 rfl)) (mvT hZ (tw hw 14 rfl)) (notFace_of_selects (args := #[]) (mvT hZ (tw hw 16 rfl))) (mvT hZ (tw hw 16 rfl)) (mvT hZ (tw hw 15 rfl)) (by decide) (backOf (W := 0) (rm_take1 l Z a0 hw [] b71 sp73 k73 .null .null w98 T102.heap n0 Zs103 (Old.keep O0 K102 hws) E_b71_102 F_b71_spare_102c F_b71_spareCount_102c V_sp73_102c ge_b71 ge_sp73 (Nat.ne_of_lt (Nat.lt_of_lt_of_le A71.lt P73_0))) hZ (tw hw 17 rfl) (tw hw 2 rfl) (by decide) (by decide)) q104a q104c (g := (mkF m 244 #[iv p1, iv p2, iv (p2 &&& (16383 : Int32)), rv b71, rv w75, rv w79, iv 0, iv 1, .val .null, .val .null, rv w98, rv w98, .val .null, .unset, .unset] [(.ref b71)])) rfl (by rw [hml]; rfl) (Steps.refl _) (argsL := []) (rest := []) (lenOf pd_1 rfl) rfl (by show 2 * 0 + _ ≤ _; exact Nat.le_of_eq rfl) (hb hby at_244) (fun _ _ => ⟨rfl, rfl, (by decide : 5 + 0 ≤ _), (by decide : 49218 + 0 ≤ _)⟩)
      dsimp only [Pt.U, Pt.locs, Pt.cells, Pt.slots] at X104 l104 y104 z104 st104 hQ104
      subst l104 y104 z104
      obtain ⟨rfl, N104q, Kc104, P104_0, P104_1, P104_2⟩ := hQ104
      have N104 := Fr.app N102 N104q
      have E_b71_104 : Exa Z T104.heap b71 "com/example/api_policy_gateway/apipolicygateway/net/BufferPool" := E_b71_102.keep Kc104
      have E_w75_104 : Exa Z T104.heap w75 "[B" := E_w75_102.keep Kc104
      have E_w79_104 : Exa Z T104.heap w79 "[B" := E_w79_102.keep Kc104
      have L_w75_104 : LenB Z T104.heap w75 (16384 : Int32) := L_w75_102.keep Kc104 (ninS (Ne.symm (Nat.ne_of_lt (Nat.lt_of_lt_of_le E_b71_73.lt P75_0))) (ninS (Ne.symm (Nat.ne_of_lt (Nat.lt_of_lt_of_le V_sp73_73c.lt P75_0))) nin0))
      have L_w79_104 : LenB Z T104.heap w79 (16384 : Int32) := L_w79_102.keep Kc104 (ninS (Ne.symm (Nat.ne_of_lt (Nat.lt_of_lt_of_le E_b71_75.lt P79_0))) (ninS (Ne.symm (Nat.ne_of_lt (Nat.lt_of_lt_of_le V_sp73_75.lt P79_0))) nin0))
      have E_w98_104 : Exa Z T104.heap w98 "[B" := E_w98_102.keep Kc104
      have V_w98_104 : Arv Z T104.heap w98 kw98 .byte (16384 : Int32) [] (.int (0 : Int32)) := V_w98_102.keep Kc104 (ninS (Ne.symm (Nat.ne_of_lt (Nat.lt_of_lt_of_le E_b71_83.lt P98_0))) (ninS (Ne.symm (Nat.ne_of_lt (Nat.lt_of_lt_of_le V_sp73_83.lt P98_0))) nin0))
      have K104 : Keep h0 T104.heap [] := K102.trans Kc104 (allS (Or.inr sz_b71) (allS (Or.inr sz_sp73) all0))
      have F_b71_spare_104c : Fld Z T104.heap b71 "com/example/api_policy_gateway/apipolicygateway/net/BufferPool" "spare" "[[B" (.ref sp73) := P104_0
      have F_b71_spareCount_104c : Fld Z T104.heap b71 "com/example/api_policy_gateway/apipolicygateway/net/BufferPool" "spareCount" "I" (.int (0 : Int32)) := P104_1
      have V_sp73_104c : Arv Z T104.heap sp73 k73 (.array .byte) (64 : Int32) [.null, .null, .null] .null := P104_2
      refine Goes.step (T2 := T104) (g2 := (mkF m 247 #[iv p1, iv p2, iv (p2 &&& (16383 : Int32)), rv b71, rv w75, rv w79, iv 0, iv 1, .val .null, .val .null, rv w98, rv w98, .val .null, .unset, .unset] [(.ref w98)])) (fun _ hr => st104.trans hr) ?_
      refine Goes.step (T2 := T104) (g2 := (mkF m 249 #[iv p1, iv p2, iv (p2 &&& (16383 : Int32)), rv b71, rv w75, rv w79, iv 0, iv 1, .val .null, .val .null, rv w98, rv w98, .val .null, rv w98, .unset] [])) (fun _ hr => XS.astore X104.here hx rfl (hb hby at_247) rfl rfl (l' := #[iv p1, iv p2, iv (p2 &&& (16383 : Int32)), rv b71, rv w75, rv w79, iv 0, iv 1, .val .null, .val .null, rv w98, rv w98, .val .null, rv w98, .unset]) rfl hr) ?_
      refine Goes.step (T2 := T104) (g2 := (mkF m 251 #[iv p1, iv p2, iv (p2 &&& (16383 : Int32)), rv b71, rv w75, rv w79, iv 0, iv 1, .val .null, .val .null, rv w98, rv w98, .val .null, rv w98, .unset] [(.ref w98)])) (fun _ hr => XS.aload X104.here hx rfl (hb hby at_249) rfl rfl hr) ?_
      refine Goes.step (T2 := T104) (g2 := (mkF m 254 #[iv p1, iv p2, iv (p2 &&& (16383 : Int32)), rv b71, rv w75, rv w79, iv 0, iv 1, .val .null, .val .null, rv w98, rv w98, .val .null, rv w98, .unset] [])) (fun _ hr => XS.ifnullNo X104.here hx rfl (hb hby at_251) rfl hr) ?_
      refine Goes.step (T2 := T104) (g2 := (mkF m 256 #[iv p1, iv p2, iv (p2 &&& (16383 : Int32)), rv b71, rv w75, rv w79, iv 0, iv 1, .val .null, .val .null, rv w98, rv w98, .val .null, rv w98, .unset] [(.ref w98)])) (fun _ hr => XS.aload X104.here hx rfl (hb hby at_254) rfl rfl hr) ?_
      refine Goes.step (T2 := T104) (g2 := (mkF m 258 #[iv p1, iv p2, iv (p2 &&& (16383 : Int32)), rv b71, rv w75, rv w79, iv 0, iv 1, .val .null, .val .null, rv w98, rv w98, .val .null, rv w98, .unset] [(.ref w98), (.ref w98)])) (fun _ hr => XS.aload X104.here hx rfl (hb hby at_256) rfl rfl hr) ?_
      refine Goes.step (T2 := T104) (g2 := (mkF m 281 #[iv p1, iv p2, iv (p2 &&& (16383 : Int32)), rv b71, rv w75, rv w79, iv 0, iv 1, .val .null, .val .null, rv w98, rv w98, .val .null, rv w98, .unset] [])) (fun _ hr => Jvm.RoadKit.acmp (g := (mkF m 258 #[iv p1, iv p2, iv (p2 &&& (16383 : Int32)), rv b71, rv w75, rv w79, iv 0, iv 1, .val .null, .val .null, rv w98, rv w98, .val .null, rv w98, .unset] [(.ref w98), (.ref w98)])) X104 hx rfl rfl rfl (pc0 := 258) (pc' := 281) (same := true) rfl (hb hby at_258) rfl (decide_eq_true rfl) (by decide) (by decide) hr) ?_
      refine Goes.step (T2 := T104) (g2 := (mkF m 282 #[iv p1, iv p2, iv (p2 &&& (16383 : Int32)), rv b71, rv w75, rv w79, iv 0, iv 1, .val .null, .val .null, rv w98, rv w98, .val .null, rv w98, .unset] [(.ref b71)])) (fun _ hr => XS.aloadN X104.here hx rfl (hb hby at_281) rfl rfl hr) ?_
      have Zs105 : n0 ≤ T104.heap.size := Nat.le_trans Z0 K104.1
      obtain ⟨cq106, kq106, q106a, q106b, q106c⟩ := isOf hZ rfl E_b71_104
      obtain ⟨_, _, ⟨T106, L106, k106, n106⟩, -, X106, ⟨Lc106, hQ106, l106, y106, z106⟩, st106⟩ := X104.virtualBack hx (y := Y1) (z := Y1) hown (mvT hZ (tw hw 13 rfl)) (mvT hZ (tw hw 14 rfl)) (notFace_of_selects (args := #[]) (mvT hZ (tw hw 16 rfl))) (mvT hZ (tw hw 16 rfl)) (mvT hZ (tw hw 15 rfl)) (by decide) (backOf (W := 0) (rm_take0 l Z a0 hw [] b71 T104.heap n0 Zs105 (Old.keep O0 K104 hws) F_b71_spareCount_104c) hZ (tw hw 17 rfl) (tw hw 2 rfl) (by decide) (by decide)) q106a q106c (g := (mkF m 282 #[iv p1, iv p2, iv (p2 &&& (16383 : Int32)), rv b71, rv w75, rv w79, iv 0, iv 1, .val .null, .val .null, rv w98, rv w98, .val .null, rv w98, .unset] [(.ref b71)])) rfl (by rw [hml]; rfl) (Steps.refl _) (argsL := []) (rest := []) (lenOf pd_1 rfl) rfl (by show 2 * 0 + _ ≤ _; exact Nat.le_of_eq rfl) (hb hby at_282) (fun _ _ => ⟨rfl, rfl, (by decide : 5 + 1 ≤ _), (by decide : 49218 + 16384 ≤ _)⟩)
      dsimp only [Pt.U, Pt.locs, Pt.cells, Pt.slots] at X106 l106 y106 z106 st106 hQ106
      subst l106 y106 z106
      obtain ⟨w106, kw106, rfl, N106q, Kc106, P106_0, P106_1, P106_2⟩ := hQ106
      have N106 := Fr.app N104 N106q
      have E_b71_106 : Exa Z T106.heap b71 "com/example/api_policy_gateway/apipolicygateway/net/BufferPool" := E_b71_104.keep Kc106
      have E_w75_106 : Exa Z T106.heap w75 "[B" := E_w75_104.keep Kc106
      have E_w79_106 : Exa Z T106.heap w79 "[B" := E_w79_104.keep Kc106
      have L_w75_106 : LenB Z T106.heap w75 (16384 : Int32) := L_w75_104.keep Kc106 nin0
      have L_w79_106 : LenB Z T106.heap w79 (16384 : Int32) := L_w79_104.keep Kc106 nin0
      have E_w98_106 : Exa Z T106.heap w98 "[B" := E_w98_104.keep Kc106
      have V_w98_106 : Arv Z T106.heap w98 kw98 .byte (16384 : Int32) [] (.int (0 : Int32)) := V_w98_104.keep Kc106 nin0
      have F_b71_spare_106 : Fld Z T106.heap b71 "com/example/api_policy_gateway/apipolicygateway/net/BufferPool" "spare" "[[B" (.ref sp73) := F_b71_spare_104c.keep Kc106 nin0
      have F_b71_spareCount_106 : Fld Z T106.heap b71 "com/example/api_policy_gateway/apipolicygateway/net/BufferPool" "spareCount" "I" (.int (0 : Int32)) := F_b71_spareCount_104c.keep Kc106 nin0
      have V_sp73_106 : Arv Z T106.heap sp73 k73 (.array .byte) (64 : Int32) [.null, .null, .null] .null := V_sp73_104c.keep Kc106 nin0
      have K106 : Keep h0 T106.heap [] := K104.trans Kc106 all0
      have sz_w106 : h0.size ≤ w106 := Nat.le_trans K104.1 P106_0
      have ge_w106 : n0 ≤ w106 := Nat.le_trans Z0 sz_w106
      have E_w106_106c : Exa Z T106.heap w106 "[B" := P106_1
      have V_w106_106c : Arv Z T106.heap w106 kw106 .byte (16384 : Int32) [] (.int (0 : Int32)) := P106_2
      refine Goes.step (T2 := T106) (g2 := (mkF m 285 #[iv p1, iv p2, iv (p2 &&& (16383 : Int32)), rv b71, rv w75, rv w79, iv 0, iv 1, .val .null, .val .null, rv w98, rv w98, .val .null, rv w98, .unset] [(.ref w106)])) (fun _ hr => st106.trans hr) ?_
      refine Goes.step (T2 := T106) (g2 := (mkF m 287 #[iv p1, iv p2, iv (p2 &&& (16383 : Int32)), rv b71, rv w75, rv w79, iv 0, iv 1, .val .null, .val .null, rv w98, rv w98, .val .null, rv w98, rv w106] [])) (fun _ hr => XS.astore X106.here hx rfl (hb hby at_285) rfl rfl (l' := #[iv p1, iv p2, iv (p2 &&& (16383 : Int32)), rv b71, rv w75, rv w79, iv 0, iv 1, .val .null, .val .null, rv w98, rv w98, .val .null, rv w98, rv w106]) rfl hr) ?_
      refine Goes.step (T2 := T106) (g2 := (mkF m 289 #[iv p1, iv p2, iv (p2 &&& (16383 : Int32)), rv b71, rv w75, rv w79, iv 0, iv 1, .val .null, .val .null, rv w98, rv w98, .val .null, rv w98, rv w106] [.null])) (fun _ hr => XS.aload X106.here hx rfl (hb hby at_287) rfl rfl hr) ?_
      refine Goes.step (T2 := T106) (g2 := (mkF m 301 #[iv p1, iv p2, iv (p2 &&& (16383 : Int32)), rv b71, rv w75, rv w79, iv 0, iv 1, .val .null, .val .null, rv w98, rv w98, .val .null, rv w98, rv w106] [])) (fun _ hr => XS.ifnullYes X106.here hx rfl (pc0 := 289) (pc' := 301) rfl (hb hby at_289) rfl (by decide) (by decide) hr) ?_
      refine Goes.step (T2 := T106) (g2 := (mkF m 303 #[iv p1, iv p2, iv (p2 &&& (16383 : Int32)), rv b71, rv w75, rv w79, iv 0, iv 1, .val .null, .val .null, rv w98, rv w98, .val .null, rv w98, rv w106] [(.ref w106)])) (fun _ hr => XS.aload X106.here hx rfl (hb hby at_301) rfl rfl hr) ?_
      refine Goes.step (T2 := T106) (g2 := (mkF m 304 #[iv p1, iv p2, iv (p2 &&& (16383 : Int32)), rv b71, rv w75, rv w79, iv 0, iv 1, .val .null, .val .null, rv w98, rv w98, .val .null, rv w98, rv w106] [(.int (p2 &&& (16383 : Int32))), (.ref w106)])) (fun _ hr => XS.iloadN X106.here hx rfl (hb hby at_303) rfl  hr) ?_
      refine Goes.step (T2 := T106) (g2 := (mkF m 306 #[iv p1, iv p2, iv (p2 &&& (16383 : Int32)), rv b71, rv w75, rv w79, iv 0, iv 1, .val .null, .val .null, rv w98, rv w98, .val .null, rv w98, rv w106] [(.ref w75), (.int (p2 &&& (16383 : Int32))), (.ref w106)])) (fun _ hr => XS.aload X106.here hx rfl (hb hby at_304) rfl rfl hr) ?_
      refine Goes.step (T2 := T106) (g2 := (mkF m 308 #[iv p1, iv p2, iv (p2 &&& (16383 : Int32)), rv b71, rv w75, rv w79, iv 0, iv 1, .val .null, .val .null, rv w98, rv w98, .val .null, rv w98, rv w106] [(.ref w79), (.ref w75), (.int (p2 &&& (16383 : Int32))), (.ref w106)])) (fun _ hr => XS.aload X106.here hx rfl (hb hby at_306) rfl rfl hr) ?_
      refine Goes.step (T2 := T106) (g2 := (mkF m 310 #[iv p1, iv p2, iv (p2 &&& (16383 : Int32)), rv b71, rv w75, rv w79, iv 0, iv 1, .val .null, .val .null, rv w98, rv w98, .val .null, rv w98, rv w106] [(.ref w98), (.ref w79), (.ref w75), (.int (p2 &&& (16383 : Int32))), (.ref w106)])) (fun _ hr => XS.aload X106.here hx rfl (hb hby at_308) rfl rfl hr) ?_
      refine Goes.step (T2 := T106) (g2 := (mkF m 312 #[iv p1, iv p2, iv (p2 &&& (16383 : Int32)), rv b71, rv w75, rv w79, iv 0, iv 1, .val .null, .val .null, rv w98, rv w98, .val .null, rv w98, rv w106] [(.ref w98), (.ref w98), (.ref w79), (.ref w75), (.int (p2 &&& (16383 : Int32))), (.ref w106)])) (fun _ hr => XS.aload X106.here hx rfl (hb hby at_310) rfl rfl hr) ?_
      have Zs107 : n0 ≤ T106.heap.size := Nat.le_trans Z0 K106.1
      obtain ⟨_, _, ⟨T108, L108, k108, n108⟩, -, X108, ⟨Lc108, hQ108, l108, y108, z108⟩, st108⟩ := Jvm.LawKit.callS X106 hx (y := Y3) hown (mvT hZ (tw hw 21 rfl)) (mvT hZ (tw hw 22 rfl)) (mvT hZ (tw hw 23 rfl)) (mvT hZ (tw hw 24 rfl)) (by decide) (backOf (W := 0) (rm_fresh4 l Z a0 hw [] w106 (p2 &&& (16383 : Int32)) kw106 w75 w79 w98 w98 T106.heap n0 Zs107 (Old.keep O0 K106 hws) V_w106_106c (Ne.symm (Nat.ne_of_lt (Nat.lt_of_lt_of_le E_w75_104.lt P106_0))) (Ne.symm (Nat.ne_of_lt (Nat.lt_of_lt_of_le E_w79_104.lt P106_0))) (Ne.symm (Nat.ne_of_lt (Nat.lt_of_lt_of_le E_w98_104.lt P106_0))) (Ne.symm (Nat.ne_of_lt (Nat.lt_of_lt_of_le E_w98_104.lt P106_0))) hinb) hZ (tw hw 24 rfl) (tw hw 23 rfl) (by decide) (by decide)) (g := (mkF m 312 #[iv p1, iv p2, iv (p2 &&& (16383 : Int32)), rv b71, rv w75, rv w79, iv 0, iv 1, .val .null, .val .null, rv w98, rv w98, .val .null, rv w98, rv w106] [(.ref w98), (.ref w98), (.ref w79), (.ref w75), (.int (p2 &&& (16383 : Int32))), (.ref w106)])) rfl (by rw [hml]; rfl) (argsL := [(.ref w106), (.int (p2 &&& (16383 : Int32))), (.ref w75), (.ref w79), (.ref w98), (.ref w98)]) (rest := []) (lenOf pd_2 rfl) rfl (by show 2 * 0 + _ ≤ _; exact Nat.le_of_eq rfl) (hb hby at_312) (fun _ _ => ⟨rfl, rfl, (by decide : 6 + 0 ≤ _), (by decide : 65602 + 0 ≤ _)⟩)
      dsimp only [Pt.U, Pt.locs, Pt.cells, Pt.slots] at X108 l108 y108 z108 st108 hQ108
      subst l108 y108 z108
      obtain ⟨rfl, N108q, e108⟩ := hQ108
      have N108 := Fr.app N106 N108q
      refine Goes.step (T2 := T108) (g2 := (mkF m 315 #[iv p1, iv p2, iv (p2 &&& (16383 : Int32)), rv b71, rv w75, rv w79, iv 0, iv 1, .val .null, .val .null, rv w98, rv w98, .val .null, rv w98, rv w106] [(.int (1 : Int32))])) st108 ?_
      refine Goes.step (T2 := T108) (g2 := (mkF m 320 #[iv p1, iv p2, iv (p2 &&& (16383 : Int32)), rv b71, rv w75, rv w79, iv 0, iv 1, .val .null, .val .null, rv w98, rv w98, .val .null, rv w98, rv w106] [])) (fun _ hr => XS.ifYes X108.here hx rfl (pc0 := 315) (pc' := 320) rfl (hb hby at_315) rfl ((if0 _ _).trans (feq (by decide : ¬ ((1 : Int32) = (0 : Int32)))).2) (by decide) (by decide) hr) ?_
      refine Goes.step (T2 := T108) (g2 := (mkF m 321 #[iv p1, iv p2, iv (p2 &&& (16383 : Int32)), rv b71, rv w75, rv w79, iv 0, iv 1, .val .null, .val .null, rv w98, rv w98, .val .null, rv w98, rv w106] [(.int (1 : Int32))])) (fun _ hr => XS.iconst X108.here hx rfl (hb hby at_320) hr) ?_
      exact Goes.ret (v := some (.int (1 : Int32))) X108 (by decide) (by decide) (fun h => by rw [Bd.returns] at h; cases h) ⟨rfl, N108⟩ (fun fs hr => retN X108 hx (t := .boolean) Bd.returns (by simp) (hb hby at_321) hr)
  · rw [hk]
    refine Goes.step (T2 := T83) (g2 := (mkF m 84 #[iv p1, iv p2, iv (p2 &&& (16383 : Int32)), rv b71, rv w75, rv w79, iv 1, .unset, .unset, .unset, .unset, .unset, .unset, .unset, .unset] [])) (fun _ hr => XS.istore X83.here hx rfl (hb hby at_82) rfl (l' := #[iv p1, iv p2, iv (p2 &&& (16383 : Int32)), rv b71, rv w75, rv w79, iv 1, .unset, .unset, .unset, .unset, .unset, .unset, .unset, .unset]) rfl hr) ?_
    refine Goes.step (T2 := T83) (g2 := (mkF m 85 #[iv p1, iv p2, iv (p2 &&& (16383 : Int32)), rv b71, rv w75, rv w79, iv 1, .unset, .unset, .unset, .unset, .unset, .unset, .unset, .unset] [(.int p1)])) (fun _ hr => XS.iloadN X83.here hx rfl (hb hby at_84) rfl  hr) ?_
    refine Goes.step (T2 := T83) (g2 := (mkF m 86 #[iv p1, iv p2, iv (p2 &&& (16383 : Int32)), rv b71, rv w75, rv w79, iv 1, .unset, .unset, .unset, .unset, .unset, .unset, .unset, .unset] [(.int (4 : Int32)), (.int p1)])) (fun _ hr => XS.iconst X83.here hx rfl (hb hby at_85) hr) ?_
    refine Goes.step (T2 := T83) (g2 := (mkF m 87 #[iv p1, iv p2, iv (p2 &&& (16383 : Int32)), rv b71, rv w75, rv w79, iv 1, .unset, .unset, .unset, .unset, .unset, .unset, .unset, .unset] [(.int (p1 &&& (4 : Int32)))])) (fun _ hr => XS.iand X83.here hx rfl (hb hby at_86) rfl hr) ?_
    by_cases hc87_109 : (p1 &&& (4 : Int32)) = (0 : Int32)
    · refine Goes.step (T2 := T83) (g2 := (mkF m 94 #[iv p1, iv p2, iv (p2 &&& (16383 : Int32)), rv b71, rv w75, rv w79, iv 1, .unset, .unset, .unset, .unset, .unset, .unset, .unset, .unset] [])) (fun _ hr => XS.ifYes X83.here hx rfl (pc0 := 87) (pc' := 94) rfl (hb hby at_87) rfl ((if0 _ _).trans (teq hc87_109).1) (by decide) (by decide) hr) ?_
      refine Goes.step (T2 := T83) (g2 := (mkF m 95 #[iv p1, iv p2, iv (p2 &&& (16383 : Int32)), rv b71, rv w75, rv w79, iv 1, .unset, .unset, .unset, .unset, .unset, .unset, .unset, .unset] [(.int (0 : Int32))])) (fun _ hr => XS.iconst X83.here hx rfl (hb hby at_94) hr) ?_
      refine Goes.step (T2 := T83) (g2 := (mkF m 97 #[iv p1, iv p2, iv (p2 &&& (16383 : Int32)), rv b71, rv w75, rv w79, iv 1, iv 0, .unset, .unset, .unset, .unset, .unset, .unset, .unset] [])) (fun _ hr => XS.istore X83.here hx rfl (hb hby at_95) rfl (l' := #[iv p1, iv p2, iv (p2 &&& (16383 : Int32)), rv b71, rv w75, rv w79, iv 1, iv 0, .unset, .unset, .unset, .unset, .unset, .unset, .unset]) rfl hr) ?_
      refine Goes.step (T2 := T83) (g2 := (mkF m 98 #[iv p1, iv p2, iv (p2 &&& (16383 : Int32)), rv b71, rv w75, rv w79, iv 1, iv 0, .unset, .unset, .unset, .unset, .unset, .unset, .unset] [.null])) (fun _ hr => XS.aconstNull X83.here hx rfl (hb hby at_97) hr) ?_
      refine Goes.step (T2 := T83) (g2 := (mkF m 100 #[iv p1, iv p2, iv (p2 &&& (16383 : Int32)), rv b71, rv w75, rv w79, iv 1, iv 0, .val .null, .unset, .unset, .unset, .unset, .unset, .unset] [])) (fun _ hr => XS.astore X83.here hx rfl (hb hby at_98) rfl rfl (l' := #[iv p1, iv p2, iv (p2 &&& (16383 : Int32)), rv b71, rv w75, rv w79, iv 1, iv 0, .val .null, .unset, .unset, .unset, .unset, .unset, .unset]) rfl hr) ?_
      refine Goes.step (T2 := T83) (g2 := (mkF m 101 #[iv p1, iv p2, iv (p2 &&& (16383 : Int32)), rv b71, rv w75, rv w79, iv 1, iv 0, .val .null, .unset, .unset, .unset, .unset, .unset, .unset] [.null])) (fun _ hr => XS.aconstNull X83.here hx rfl (hb hby at_100) hr) ?_
      refine Goes.step (T2 := T83) (g2 := (mkF m 103 #[iv p1, iv p2, iv (p2 &&& (16383 : Int32)), rv b71, rv w75, rv w79, iv 1, iv 0, .val .null, .val .null, .unset, .unset, .unset, .unset, .unset] [])) (fun _ hr => XS.astore X83.here hx rfl (hb hby at_101) rfl rfl (l' := #[iv p1, iv p2, iv (p2 &&& (16383 : Int32)), rv b71, rv w75, rv w79, iv 1, iv 0, .val .null, .val .null, .unset, .unset, .unset, .unset, .unset]) rfl hr) ?_
      refine Goes.step (T2 := T83) (g2 := (mkF m 105 #[iv p1, iv p2, iv (p2 &&& (16383 : Int32)), rv b71, rv w75, rv w79, iv 1, iv 0, .val .null, .val .null, .unset, .unset, .unset, .unset, .unset] [(.int (1 : Int32))])) (fun _ hr => XS.iload X83.here hx rfl (hb hby at_103) rfl  hr) ?_
      refine Goes.step (T2 := T83) (g2 := (mkF m 106 #[iv p1, iv p2, iv (p2 &&& (16383 : Int32)), rv b71, rv w75, rv w79, iv 1, iv 0, .val .null, .val .null, .unset, .unset, .unset, .unset, .unset] [(.int (1 : Int32)), (.int (1 : Int32))])) (fun _ hr => XS.iconst X83.here hx rfl (hb hby at_105) hr) ?_
      refine Goes.step (T2 := T83) (g2 := (mkF m 109 #[iv p1, iv p2, iv (p2 &&& (16383 : Int32)), rv b71, rv w75, rv w79, iv 1, iv 0, .val .null, .val .null, .unset, .unset, .unset, .unset, .unset] [])) (fun _ hr => XS.icmpNo X83.here hx rfl (hb hby at_106) rfl (teq (by decide : (1 : Int32) = (1 : Int32))).2 hr) ?_
      refine Goes.step (T2 := T83) (g2 := (mkF m 110 #[iv p1, iv p2, iv (p2 &&& (16383 : Int32)), rv b71, rv w75, rv w79, iv 1, iv 0, .val .null, .val .null, .unset, .unset, .unset, .unset, .unset] [(.ref b71)])) (fun _ hr => XS.aloadN X83.here hx rfl (hb hby at_109) rfl rfl hr) ?_
      refine Goes.step (T2 := T83) (g2 := (mkF m 112 #[iv p1, iv p2, iv (p2 &&& (16383 : Int32)), rv b71, rv w75, rv w79, iv 1, iv 0, .val .null, .val .null, .unset, .unset, .unset, .unset, .unset] [(.ref w75), (.ref b71)])) (fun _ hr => XS.aload X83.here hx rfl (hb hby at_110) rfl rfl hr) ?_
      have Zs110 : n0 ≤ h83.size := Nat.le_trans Z0 K83.1
      obtain ⟨cq111, kq111, q111a, q111b, q111c⟩ := isOf hZ e83 E_b71_83
      obtain ⟨_, _, ⟨T111, L111, k111, n111⟩, -, X111, ⟨Lc111, hQ111, l111, y111, z111⟩, st111⟩ := X83.virtualBack hx (y := Y2) (z := Y2) hown (mvT hZ (tw hw 25 rfl)) (mvT hZ (tw hw 26 rfl)) (notFace_of_selects (args := #[]) (mvT hZ (tw hw 28 rfl))) (mvT hZ (tw hw 28 rfl)) (mvT hZ (tw hw 27 rfl)) (by decide) (backOf (W := 0) (rm_give0 l Z a0 hw [] b71 sp73 k73 .null .null .null w75 h83 n0 Zs110 (Old.keep O0 K83 hws) E_b71_83 F_b71_spare_83 F_b71_spareCount_83 V_sp73_83 E_w75_83 L_w75_83 ge_b71 ge_sp73 (Nat.ne_of_lt (Nat.lt_of_lt_of_le A71.lt P73_0)) (Ne.symm (Nat.ne_of_lt (Nat.lt_of_lt_of_le E_b71_73.lt P75_0))) (Ne.symm (Nat.ne_of_lt (Nat.lt_of_lt_of_le V_sp73_73c.lt P75_0))) P73_4) hZ (tw hw 29 rfl) (tw hw 2 rfl) (by decide) (by decide)) q111a q111c (g := (mkF m 112 #[iv p1, iv p2, iv (p2 &&& (16383 : Int32)), rv b71, rv w75, rv w79, iv 1, iv 0, .val .null, .val .null, .unset, .unset, .unset, .unset, .unset] [(.ref w75), (.ref b71)])) rfl (by rw [hml]; rfl) (Steps.refl _) (argsL := [(.ref w75)]) (rest := []) (lenOf pd_3 rfl) rfl (by show 2 * 0 + _ ≤ _; exact Nat.le_of_eq rfl) (hb hby at_112) (fun _ _ => ⟨rfl, e83, (by decide : 4 + 0 ≤ _), (by decide : 32834 + 0 ≤ _)⟩)
      dsimp only [Pt.U, Pt.locs, Pt.cells, Pt.slots] at X111 l111 y111 z111 st111 hQ111
      subst l111 y111 z111
      obtain ⟨rfl, N111q, Kc111, P111_0, P111_1, P111_2⟩ := hQ111
      have N111 := Fr.app N83 N111q
      have E_b71_111 : Exa Z T111.heap b71 "com/example/api_policy_gateway/apipolicygateway/net/BufferPool" := E_b71_83.keep Kc111
      have E_w75_111 : Exa Z T111.heap w75 "[B" := E_w75_83.keep Kc111
      have E_w79_111 : Exa Z T111.heap w79 "[B" := E_w79_83.keep Kc111
      have L_w75_111 : LenB Z T111.heap w75 (16384 : Int32) := L_w75_83.keep Kc111 (ninS (Ne.symm (Nat.ne_of_lt (Nat.lt_of_lt_of_le E_b71_73.lt P75_0))) (ninS (Ne.symm (Nat.ne_of_lt (Nat.lt_of_lt_of_le V_sp73_73c.lt P75_0))) nin0))
      have L_w79_111 : LenB Z T111.heap w79 (16384 : Int32) := L_w79_83.keep Kc111 (ninS (Ne.symm (Nat.ne_of_lt (Nat.lt_of_lt_of_le E_b71_75.lt P79_0))) (ninS (Ne.symm (Nat.ne_of_lt (Nat.lt_of_lt_of_le V_sp73_75.lt P79_0))) nin0))
      have K111 : Keep h0 T111.heap [] := K83.trans Kc111 (allS (Or.inr sz_b71) (allS (Or.inr sz_sp73) all0))
      have F_b71_spare_111c : Fld Z T111.heap b71 "com/example/api_policy_gateway/apipolicygateway/net/BufferPool" "spare" "[[B" (.ref sp73) := P111_0
      have F_b71_spareCount_111c : Fld Z T111.heap b71 "com/example/api_policy_gateway/apipolicygateway/net/BufferPool" "spareCount" "I" (.int (1 : Int32)) := P111_1
      have V_sp73_111c : Arv Z T111.heap sp73 k73 (.array .byte) (64 : Int32) [(.ref w75), .null, .null] .null := P111_2
      refine Goes.step (T2 := T111) (g2 := (mkF m 115 #[iv p1, iv p2, iv (p2 &&& (16383 : Int32)), rv b71, rv w75, rv w79, iv 1, iv 0, .val .null, .val .null, .unset, .unset, .unset, .unset, .unset] [])) (fun _ hr => st111.trans hr) ?_
      refine Goes.step (T2 := T111) (g2 := (mkF m 117 #[iv p1, iv p2, iv (p2 &&& (16383 : Int32)), rv b71, rv w75, rv w79, iv 1, iv 0, .val .null, .val .null, .unset, .unset, .unset, .unset, .unset] [(.ref w75)])) (fun _ hr => XS.aload X111.here hx rfl (hb hby at_115) rfl rfl hr) ?_
      refine Goes.step (T2 := T111) (g2 := (mkF m 119 #[iv p1, iv p2, iv (p2 &&& (16383 : Int32)), rv b71, rv w75, rv w79, iv 1, iv 0, rv w75, .val .null, .unset, .unset, .unset, .unset, .unset] [])) (fun _ hr => XS.astore X111.here hx rfl (hb hby at_117) rfl rfl (l' := #[iv p1, iv p2, iv (p2 &&& (16383 : Int32)), rv b71, rv w75, rv w79, iv 1, iv 0, rv w75, .val .null, .unset, .unset, .unset, .unset, .unset]) rfl hr) ?_
      refine Goes.step (T2 := T111) (g2 := (mkF m 177 #[iv p1, iv p2, iv (p2 &&& (16383 : Int32)), rv b71, rv w75, rv w79, iv 1, iv 0, rv w75, .val .null, .unset, .unset, .unset, .unset, .unset] [])) (fun _ hr => XS.goto X111.here hx rfl (pc0 := 119) (pc' := 177) rfl (hb hby at_119) (by decide) (by decide) hr) ?_
      refine Goes.step (T2 := T111) (g2 := (mkF m 178 #[iv p1, iv p2, iv (p2 &&& (16383 : Int32)), rv b71, rv w75, rv w79, iv 1, iv 0, rv w75, .val .null, .unset, .unset, .unset, .unset, .unset] [(.ref b71)])) (fun _ hr => XS.aloadN X111.here hx rfl (hb hby at_177) rfl rfl hr) ?_
      have Zs112 : n0 ≤ T111.heap.size := Nat.le_trans Z0 K111.1
      obtain ⟨cq113, kq113, q113a, q113b, q113c⟩ := isOf hZ rfl E_b71_111
      obtain ⟨_, _, ⟨T113, L113, k113, n113⟩, -, X113, ⟨Lc113, hQ113, l113, y113, z113⟩, st113⟩ := X111.virtualBack hx (y := Y1) (z := Y1) hown (mvT hZ (tw hw 13 rfl)) (mvT hZ (tw hw 14 rfl)) (notFace_of_selects (args := #[]) (mvT hZ (tw hw 16 rfl))) (mvT hZ (tw hw 16 rfl)) (mvT hZ (tw hw 15 rfl)) (by decide) (backOf (W := 0) (rm_take1 l Z a0 hw [] b71 sp73 k73 .null .null w75 T111.heap n0 Zs112 (Old.keep O0 K111 hws) E_b71_111 F_b71_spare_111c F_b71_spareCount_111c V_sp73_111c ge_b71 ge_sp73 (Nat.ne_of_lt (Nat.lt_of_lt_of_le A71.lt P73_0))) hZ (tw hw 17 rfl) (tw hw 2 rfl) (by decide) (by decide)) q113a q113c (g := (mkF m 178 #[iv p1, iv p2, iv (p2 &&& (16383 : Int32)), rv b71, rv w75, rv w79, iv 1, iv 0, rv w75, .val .null, .unset, .unset, .unset, .unset, .unset] [(.ref b71)])) rfl (by rw [hml]; rfl) (Steps.refl _) (argsL := []) (rest := []) (lenOf pd_1 rfl) rfl (by show 2 * 0 + _ ≤ _; exact Nat.le_of_eq rfl) (hb hby at_178) (fun _ _ => ⟨rfl, rfl, (by decide : 4 + 0 ≤ _), (by decide : 32834 + 0 ≤ _)⟩)
      dsimp only [Pt.U, Pt.locs, Pt.cells, Pt.slots] at X113 l113 y113 z113 st113 hQ113
      subst l113 y113 z113
      obtain ⟨rfl, N113q, Kc113, P113_0, P113_1, P113_2⟩ := hQ113
      have N113 := Fr.app N111 N113q
      have E_b71_113 : Exa Z T113.heap b71 "com/example/api_policy_gateway/apipolicygateway/net/BufferPool" := E_b71_111.keep Kc113
      have E_w75_113 : Exa Z T113.heap w75 "[B" := E_w75_111.keep Kc113
      have E_w79_113 : Exa Z T113.heap w79 "[B" := E_w79_111.keep Kc113
      have L_w75_113 : LenB Z T113.heap w75 (16384 : Int32) := L_w75_111.keep Kc113 (ninS (Ne.symm (Nat.ne_of_lt (Nat.lt_of_lt_of_le E_b71_73.lt P75_0))) (ninS (Ne.symm (Nat.ne_of_lt (Nat.lt_of_lt_of_le V_sp73_73c.lt P75_0))) nin0))
      have L_w79_113 : LenB Z T113.heap w79 (16384 : Int32) := L_w79_111.keep Kc113 (ninS (Ne.symm (Nat.ne_of_lt (Nat.lt_of_lt_of_le E_b71_75.lt P79_0))) (ninS (Ne.symm (Nat.ne_of_lt (Nat.lt_of_lt_of_le V_sp73_75.lt P79_0))) nin0))
      have K113 : Keep h0 T113.heap [] := K111.trans Kc113 (allS (Or.inr sz_b71) (allS (Or.inr sz_sp73) all0))
      have F_b71_spare_113c : Fld Z T113.heap b71 "com/example/api_policy_gateway/apipolicygateway/net/BufferPool" "spare" "[[B" (.ref sp73) := P113_0
      have F_b71_spareCount_113c : Fld Z T113.heap b71 "com/example/api_policy_gateway/apipolicygateway/net/BufferPool" "spareCount" "I" (.int (0 : Int32)) := P113_1
      have V_sp73_113c : Arv Z T113.heap sp73 k73 (.array .byte) (64 : Int32) [.null, .null, .null] .null := P113_2
      refine Goes.step (T2 := T113) (g2 := (mkF m 181 #[iv p1, iv p2, iv (p2 &&& (16383 : Int32)), rv b71, rv w75, rv w79, iv 1, iv 0, rv w75, .val .null, .unset, .unset, .unset, .unset, .unset] [(.ref w75)])) (fun _ hr => st113.trans hr) ?_
      refine Goes.step (T2 := T113) (g2 := (mkF m 183 #[iv p1, iv p2, iv (p2 &&& (16383 : Int32)), rv b71, rv w75, rv w79, iv 1, iv 0, rv w75, .val .null, rv w75, .unset, .unset, .unset, .unset] [])) (fun _ hr => XS.astore X113.here hx rfl (hb hby at_181) rfl rfl (l' := #[iv p1, iv p2, iv (p2 &&& (16383 : Int32)), rv b71, rv w75, rv w79, iv 1, iv 0, rv w75, .val .null, rv w75, .unset, .unset, .unset, .unset]) rfl hr) ?_
      refine Goes.step (T2 := T113) (g2 := (mkF m 185 #[iv p1, iv p2, iv (p2 &&& (16383 : Int32)), rv b71, rv w75, rv w79, iv 1, iv 0, rv w75, .val .null, rv w75, .unset, .unset, .unset, .unset] [(.ref w75)])) (fun _ hr => XS.aload X113.here hx rfl (hb hby at_183) rfl rfl hr) ?_
      refine Goes.step (T2 := T113) (g2 := (mkF m 188 #[iv p1, iv p2, iv (p2 &&& (16383 : Int32)), rv b71, rv w75, rv w79, iv 1, iv 0, rv w75, .val .null, rv w75, .unset, .unset, .unset, .unset] [])) (fun _ hr => XS.ifnullNo X113.here hx rfl (hb hby at_185) rfl hr) ?_
      refine Goes.step (T2 := T113) (g2 := (mkF m 190 #[iv p1, iv p2, iv (p2 &&& (16383 : Int32)), rv b71, rv w75, rv w79, iv 1, iv 0, rv w75, .val .null, rv w75, .unset, .unset, .unset, .unset] [(.ref w75)])) (fun _ hr => XS.aload X113.here hx rfl (hb hby at_188) rfl rfl hr) ?_
      refine Goes.step (T2 := T113) (g2 := (mkF m 192 #[iv p1, iv p2, iv (p2 &&& (16383 : Int32)), rv b71, rv w75, rv w79, iv 1, iv 0, rv w75, .val .null, rv w75, .unset, .unset, .unset, .unset] [(.ref w75), (.ref w75)])) (fun _ hr => XS.aload X113.here hx rfl (hb hby at_190) rfl rfl hr) ?_
      refine Goes.step (T2 := T113) (g2 := (mkF m 214 #[iv p1, iv p2, iv (p2 &&& (16383 : Int32)), rv b71, rv w75, rv w79, iv 1, iv 0, rv w75, .val .null, rv w75, .unset, .unset, .unset, .unset] [])) (fun _ hr => Jvm.RoadKit.acmp (g := (mkF m 192 #[iv p1, iv p2, iv (p2 &&& (16383 : Int32)), rv b71, rv w75, rv w79, iv 1, iv 0, rv w75, .val .null, rv w75, .unset, .unset, .unset, .unset] [(.ref w75), (.ref w75)])) X113 hx rfl rfl rfl (pc0 := 192) (pc' := 214) (same := true) rfl (hb hby at_192) rfl (decide_eq_true rfl) (by decide) (by decide) hr) ?_
      refine Goes.step (T2 := T113) (g2 := (mkF m 216 #[iv p1, iv p2, iv (p2 &&& (16383 : Int32)), rv b71, rv w75, rv w79, iv 1, iv 0, rv w75, .val .null, rv w75, .unset, .unset, .unset, .unset] [(.int (0 : Int32))])) (fun _ hr => XS.iload X113.here hx rfl (hb hby at_214) rfl  hr) ?_
      refine Goes.step (T2 := T113) (g2 := (mkF m 236 #[iv p1, iv p2, iv (p2 &&& (16383 : Int32)), rv b71, rv w75, rv w79, iv 1, iv 0, rv w75, .val .null, rv w75, .unset, .unset, .unset, .unset] [])) (fun _ hr => XS.ifYes X113.here hx rfl (pc0 := 216) (pc' := 236) rfl (hb hby at_216) rfl ((if0 _ _).trans (teq (by decide : (0 : Int32) = (0 : Int32))).1) (by decide) (by decide) hr) ?_
      refine Goes.step (T2 := T113) (g2 := (mkF m 238 #[iv p1, iv p2, iv (p2 &&& (16383 : Int32)), rv b71, rv w75, rv w79, iv 1, iv 0, rv w75, .val .null, rv w75, .unset, .unset, .unset, .unset] [.null])) (fun _ hr => XS.aload X113.here hx rfl (hb hby at_236) rfl rfl hr) ?_
      refine Goes.step (T2 := T113) (g2 := (mkF m 240 #[iv p1, iv p2, iv (p2 &&& (16383 : Int32)), rv b71, rv w75, rv w79, iv 1, iv 0, rv w75, .val .null, rv w75, .val .null, .unset, .unset, .unset] [])) (fun _ hr => XS.astore X113.here hx rfl (hb hby at_238) rfl rfl (l' := #[iv p1, iv p2, iv (p2 &&& (16383 : Int32)), rv b71, rv w75, rv w79, iv 1, iv 0, rv w75, .val .null, rv w75, .val .null, .unset, .unset, .unset]) rfl hr) ?_
      refine Goes.step (T2 := T113) (g2 := (mkF m 241 #[iv p1, iv p2, iv (p2 &&& (16383 : Int32)), rv b71, rv w75, rv w79, iv 1, iv 0, rv w75, .val .null, rv w75, .val .null, .unset, .unset, .unset] [.null])) (fun _ hr => XS.aconstNull X113.here hx rfl (hb hby at_240) hr) ?_
      refine Goes.step (T2 := T113) (g2 := (mkF m 243 #[iv p1, iv p2, iv (p2 &&& (16383 : Int32)), rv b71, rv w75, rv w79, iv 1, iv 0, rv w75, .val .null, rv w75, .val .null, .val .null, .unset, .unset] [])) (fun _ hr => XS.astore X113.here hx rfl (hb hby at_241) rfl rfl (l' := #[iv p1, iv p2, iv (p2 &&& (16383 : Int32)), rv b71, rv w75, rv w79, iv 1, iv 0, rv w75, .val .null, rv w75, .val .null, .val .null, .unset, .unset]) rfl hr) ?_
      refine Goes.step (T2 := T113) (g2 := (mkF m 244 #[iv p1, iv p2, iv (p2 &&& (16383 : Int32)), rv b71, rv w75, rv w79, iv 1, iv 0, rv w75, .val .null, rv w75, .val .null, .val .null, .unset, .unset] [(.ref b71)])) (fun _ hr => XS.aloadN X113.here hx rfl (hb hby at_243) rfl rfl hr) ?_
      have Zs114 : n0 ≤ T113.heap.size := Nat.le_trans Z0 K113.1
      obtain ⟨cq115, kq115, q115a, q115b, q115c⟩ := isOf hZ rfl E_b71_113
      obtain ⟨_, _, ⟨T115, L115, k115, n115⟩, -, X115, ⟨Lc115, hQ115, l115, y115, z115⟩, st115⟩ := X113.virtualBack hx (y := Y1) (z := Y1) hown (mvT hZ (tw hw 13 rfl)) (mvT hZ (tw hw 14 rfl)) (notFace_of_selects (args := #[]) (mvT hZ (tw hw 16 rfl))) (mvT hZ (tw hw 16 rfl)) (mvT hZ (tw hw 15 rfl)) (by decide) (backOf (W := 0) (rm_take0 l Z a0 hw [] b71 T113.heap n0 Zs114 (Old.keep O0 K113 hws) F_b71_spareCount_113c) hZ (tw hw 17 rfl) (tw hw 2 rfl) (by decide) (by decide)) q115a q115c (g := (mkF m 244 #[iv p1, iv p2, iv (p2 &&& (16383 : Int32)), rv b71, rv w75, rv w79, iv 1, iv 0, rv w75, .val .null, rv w75, .val .null, .val .null, .unset, .unset] [(.ref b71)])) rfl (by rw [hml]; rfl) (Steps.refl _) (argsL := []) (rest := []) (lenOf pd_1 rfl) rfl (by show 2 * 0 + _ ≤ _; exact Nat.le_of_eq rfl) (hb hby at_244) (fun _ _ => ⟨rfl, rfl, (by decide : 4 + 1 ≤ _), (by decide : 32834 + 16384 ≤ _)⟩)
      dsimp only [Pt.U, Pt.locs, Pt.cells, Pt.slots] at X115 l115 y115 z115 st115 hQ115
      subst l115 y115 z115
      obtain ⟨w115, kw115, rfl, N115q, Kc115, P115_0, P115_1, P115_2⟩ := hQ115
      have N115 := Fr.app N113 N115q
      have E_b71_115 : Exa Z T115.heap b71 "com/example/api_policy_gateway/apipolicygateway/net/BufferPool" := E_b71_113.keep Kc115
      have E_w75_115 : Exa Z T115.heap w75 "[B" := E_w75_113.keep Kc115
      have E_w79_115 : Exa Z T115.heap w79 "[B" := E_w79_113.keep Kc115
      have L_w75_115 : LenB Z T115.heap w75 (16384 : Int32) := L_w75_113.keep Kc115 nin0
      have L_w79_115 : LenB Z T115.heap w79 (16384 : Int32) := L_w79_113.keep Kc115 nin0
      have F_b71_spare_115 : Fld Z T115.heap b71 "com/example/api_policy_gateway/apipolicygateway/net/BufferPool" "spare" "[[B" (.ref sp73) := F_b71_spare_113c.keep Kc115 nin0
      have F_b71_spareCount_115 : Fld Z T115.heap b71 "com/example/api_policy_gateway/apipolicygateway/net/BufferPool" "spareCount" "I" (.int (0 : Int32)) := F_b71_spareCount_113c.keep Kc115 nin0
      have V_sp73_115 : Arv Z T115.heap sp73 k73 (.array .byte) (64 : Int32) [.null, .null, .null] .null := V_sp73_113c.keep Kc115 nin0
      have K115 : Keep h0 T115.heap [] := K113.trans Kc115 all0
      have sz_w115 : h0.size ≤ w115 := Nat.le_trans K113.1 P115_0
      have ge_w115 : n0 ≤ w115 := Nat.le_trans Z0 sz_w115
      have E_w115_115c : Exa Z T115.heap w115 "[B" := P115_1
      have V_w115_115c : Arv Z T115.heap w115 kw115 .byte (16384 : Int32) [] (.int (0 : Int32)) := P115_2
      refine Goes.step (T2 := T115) (g2 := (mkF m 247 #[iv p1, iv p2, iv (p2 &&& (16383 : Int32)), rv b71, rv w75, rv w79, iv 1, iv 0, rv w75, .val .null, rv w75, .val .null, .val .null, .unset, .unset] [(.ref w115)])) (fun _ hr => st115.trans hr) ?_
      refine Goes.step (T2 := T115) (g2 := (mkF m 249 #[iv p1, iv p2, iv (p2 &&& (16383 : Int32)), rv b71, rv w75, rv w79, iv 1, iv 0, rv w75, .val .null, rv w75, .val .null, .val .null, rv w115, .unset] [])) (fun _ hr => XS.astore X115.here hx rfl (hb hby at_247) rfl rfl (l' := #[iv p1, iv p2, iv (p2 &&& (16383 : Int32)), rv b71, rv w75, rv w79, iv 1, iv 0, rv w75, .val .null, rv w75, .val .null, .val .null, rv w115, .unset]) rfl hr) ?_
      refine Goes.step (T2 := T115) (g2 := (mkF m 251 #[iv p1, iv p2, iv (p2 &&& (16383 : Int32)), rv b71, rv w75, rv w79, iv 1, iv 0, rv w75, .val .null, rv w75, .val .null, .val .null, rv w115, .unset] [.null])) (fun _ hr => XS.aload X115.here hx rfl (hb hby at_249) rfl rfl hr) ?_
      refine Goes.step (T2 := T115) (g2 := (mkF m 263 #[iv p1, iv p2, iv (p2 &&& (16383 : Int32)), rv b71, rv w75, rv w79, iv 1, iv 0, rv w75, .val .null, rv w75, .val .null, .val .null, rv w115, .unset] [])) (fun _ hr => XS.ifnullYes X115.here hx rfl (pc0 := 251) (pc' := 263) rfl (hb hby at_251) rfl (by decide) (by decide) hr) ?_
      refine Goes.step (T2 := T115) (g2 := (mkF m 265 #[iv p1, iv p2, iv (p2 &&& (16383 : Int32)), rv b71, rv w75, rv w79, iv 1, iv 0, rv w75, .val .null, rv w75, .val .null, .val .null, rv w115, .unset] [(.ref w115)])) (fun _ hr => XS.aload X115.here hx rfl (hb hby at_263) rfl rfl hr) ?_
      refine Goes.step (T2 := T115) (g2 := (mkF m 266 #[iv p1, iv p2, iv (p2 &&& (16383 : Int32)), rv b71, rv w75, rv w79, iv 1, iv 0, rv w75, .val .null, rv w75, .val .null, .val .null, rv w115, .unset] [(.int (p2 &&& (16383 : Int32))), (.ref w115)])) (fun _ hr => XS.iloadN X115.here hx rfl (hb hby at_265) rfl  hr) ?_
      refine Goes.step (T2 := T115) (g2 := (mkF m 268 #[iv p1, iv p2, iv (p2 &&& (16383 : Int32)), rv b71, rv w75, rv w79, iv 1, iv 0, rv w75, .val .null, rv w75, .val .null, .val .null, rv w115, .unset] [(.ref w75), (.int (p2 &&& (16383 : Int32))), (.ref w115)])) (fun _ hr => XS.aload X115.here hx rfl (hb hby at_266) rfl rfl hr) ?_
      refine Goes.step (T2 := T115) (g2 := (mkF m 270 #[iv p1, iv p2, iv (p2 &&& (16383 : Int32)), rv b71, rv w75, rv w79, iv 1, iv 0, rv w75, .val .null, rv w75, .val .null, .val .null, rv w115, .unset] [(.ref w79), (.ref w75), (.int (p2 &&& (16383 : Int32))), (.ref w115)])) (fun _ hr => XS.aload X115.here hx rfl (hb hby at_268) rfl rfl hr) ?_
      refine Goes.step (T2 := T115) (g2 := (mkF m 272 #[iv p1, iv p2, iv (p2 &&& (16383 : Int32)), rv b71, rv w75, rv w79, iv 1, iv 0, rv w75, .val .null, rv w75, .val .null, .val .null, rv w115, .unset] [(.ref w75), (.ref w79), (.ref w75), (.int (p2 &&& (16383 : Int32))), (.ref w115)])) (fun _ hr => XS.aload X115.here hx rfl (hb hby at_270) rfl rfl hr) ?_
      refine Goes.step (T2 := T115) (g2 := (mkF m 273 #[iv p1, iv p2, iv (p2 &&& (16383 : Int32)), rv b71, rv w75, rv w79, iv 1, iv 0, rv w75, .val .null, rv w75, .val .null, .val .null, rv w115, .unset] [.null, (.ref w75), (.ref w79), (.ref w75), (.int (p2 &&& (16383 : Int32))), (.ref w115)])) (fun _ hr => XS.aconstNull X115.here hx rfl (hb hby at_272) hr) ?_
      have Zs116 : n0 ≤ T115.heap.size := Nat.le_trans Z0 K115.1
      obtain ⟨_, _, ⟨T117, L117, k117, n117⟩, -, X117, ⟨Lc117, hQ117, l117, y117, z117⟩, st117⟩ := Jvm.LawKit.callS X115 hx (y := Y3) hown (mvT hZ (tw hw 21 rfl)) (mvT hZ (tw hw 22 rfl)) (mvT hZ (tw hw 23 rfl)) (mvT hZ (tw hw 24 rfl)) (by decide) (backOf (W := 0) (rm_fresh3 l Z a0 hw [] w115 (p2 &&& (16383 : Int32)) kw115 w75 w79 w75 T115.heap n0 Zs116 (Old.keep O0 K115 hws) V_w115_115c (Ne.symm (Nat.ne_of_lt (Nat.lt_of_lt_of_le E_w75_113.lt P115_0))) (Ne.symm (Nat.ne_of_lt (Nat.lt_of_lt_of_le E_w79_113.lt P115_0))) (Ne.symm (Nat.ne_of_lt (Nat.lt_of_lt_of_le E_w75_113.lt P115_0))) hinb) hZ (tw hw 24 rfl) (tw hw 23 rfl) (by decide) (by decide)) (g := (mkF m 273 #[iv p1, iv p2, iv (p2 &&& (16383 : Int32)), rv b71, rv w75, rv w79, iv 1, iv 0, rv w75, .val .null, rv w75, .val .null, .val .null, rv w115, .unset] [.null, (.ref w75), (.ref w79), (.ref w75), (.int (p2 &&& (16383 : Int32))), (.ref w115)])) rfl (by rw [hml]; rfl) (argsL := [(.ref w115), (.int (p2 &&& (16383 : Int32))), (.ref w75), (.ref w79), (.ref w75), .null]) (rest := []) (lenOf pd_2 rfl) rfl (by show 2 * 0 + _ ≤ _; exact Nat.le_of_eq rfl) (hb hby at_273) (fun _ _ => ⟨rfl, rfl, (by decide : 5 + 0 ≤ _), (by decide : 49218 + 0 ≤ _)⟩)
      dsimp only [Pt.U, Pt.locs, Pt.cells, Pt.slots] at X117 l117 y117 z117 st117 hQ117
      subst l117 y117 z117
      obtain ⟨rfl, N117q, e117⟩ := hQ117
      have N117 := Fr.app N115 N117q
      refine Goes.step (T2 := T117) (g2 := (mkF m 276 #[iv p1, iv p2, iv (p2 &&& (16383 : Int32)), rv b71, rv w75, rv w79, iv 1, iv 0, rv w75, .val .null, rv w75, .val .null, .val .null, rv w115, .unset] [(.int (1 : Int32))])) st117 ?_
      refine Goes.step (T2 := T117) (g2 := (mkF m 281 #[iv p1, iv p2, iv (p2 &&& (16383 : Int32)), rv b71, rv w75, rv w79, iv 1, iv 0, rv w75, .val .null, rv w75, .val .null, .val .null, rv w115, .unset] [])) (fun _ hr => XS.ifYes X117.here hx rfl (pc0 := 276) (pc' := 281) rfl (hb hby at_276) rfl ((if0 _ _).trans (feq (by decide : ¬ ((1 : Int32) = (0 : Int32)))).2) (by decide) (by decide) hr) ?_
      refine Goes.step (T2 := T117) (g2 := (mkF m 282 #[iv p1, iv p2, iv (p2 &&& (16383 : Int32)), rv b71, rv w75, rv w79, iv 1, iv 0, rv w75, .val .null, rv w75, .val .null, .val .null, rv w115, .unset] [(.ref b71)])) (fun _ hr => XS.aloadN X117.here hx rfl (hb hby at_281) rfl rfl hr) ?_
      have Zs118 : n0 ≤ T115.heap.size := Nat.le_trans Z0 K115.1
      obtain ⟨cq119, kq119, q119a, q119b, q119c⟩ := isOf hZ e117 E_b71_115
      obtain ⟨_, _, ⟨T119, L119, k119, n119⟩, -, X119, ⟨Lc119, hQ119, l119, y119, z119⟩, st119⟩ := X117.virtualBack hx (y := Y1) (z := Y1) hown (mvT hZ (tw hw 13 rfl)) (mvT hZ (tw hw 14 rfl)) (notFace_of_selects (args := #[]) (mvT hZ (tw hw 16 rfl))) (mvT hZ (tw hw 16 rfl)) (mvT hZ (tw hw 15 rfl)) (by decide) (backOf (W := 0) (rm_take0 l Z a0 hw [] b71 T115.heap n0 Zs118 (Old.keep O0 K115 hws) F_b71_spareCount_115) hZ (tw hw 17 rfl) (tw hw 2 rfl) (by decide) (by decide)) q119a q119c (g := (mkF m 282 #[iv p1, iv p2, iv (p2 &&& (16383 : Int32)), rv b71, rv w75, rv w79, iv 1, iv 0, rv w75, .val .null, rv w75, .val .null, .val .null, rv w115, .unset] [(.ref b71)])) rfl (by rw [hml]; rfl) (Steps.refl _) (argsL := []) (rest := []) (lenOf pd_1 rfl) rfl (by show 2 * 0 + _ ≤ _; exact Nat.le_of_eq rfl) (hb hby at_282) (fun _ _ => ⟨rfl, e117, (by decide : 5 + 1 ≤ _), (by decide : 49218 + 16384 ≤ _)⟩)
      dsimp only [Pt.U, Pt.locs, Pt.cells, Pt.slots] at X119 l119 y119 z119 st119 hQ119
      subst l119 y119 z119
      obtain ⟨w119, kw119, rfl, N119q, Kc119, P119_0, P119_1, P119_2⟩ := hQ119
      have N119 := Fr.app N117 N119q
      have E_b71_119 : Exa Z T119.heap b71 "com/example/api_policy_gateway/apipolicygateway/net/BufferPool" := E_b71_115.keep Kc119
      have E_w75_119 : Exa Z T119.heap w75 "[B" := E_w75_115.keep Kc119
      have E_w79_119 : Exa Z T119.heap w79 "[B" := E_w79_115.keep Kc119
      have L_w75_119 : LenB Z T119.heap w75 (16384 : Int32) := L_w75_115.keep Kc119 nin0
      have L_w79_119 : LenB Z T119.heap w79 (16384 : Int32) := L_w79_115.keep Kc119 nin0
      have F_b71_spare_119 : Fld Z T119.heap b71 "com/example/api_policy_gateway/apipolicygateway/net/BufferPool" "spare" "[[B" (.ref sp73) := F_b71_spare_115.keep Kc119 nin0
      have F_b71_spareCount_119 : Fld Z T119.heap b71 "com/example/api_policy_gateway/apipolicygateway/net/BufferPool" "spareCount" "I" (.int (0 : Int32)) := F_b71_spareCount_115.keep Kc119 nin0
      have V_sp73_119 : Arv Z T119.heap sp73 k73 (.array .byte) (64 : Int32) [.null, .null, .null] .null := V_sp73_115.keep Kc119 nin0
      have E_w115_119 : Exa Z T119.heap w115 "[B" := E_w115_115c.keep Kc119
      have V_w115_119 : Arv Z T119.heap w115 kw115 .byte (16384 : Int32) [] (.int (0 : Int32)) := V_w115_115c.keep Kc119 nin0
      have K119 : Keep h0 T119.heap [] := K115.trans Kc119 all0
      have sz_w119 : h0.size ≤ w119 := Nat.le_trans K115.1 P119_0
      have ge_w119 : n0 ≤ w119 := Nat.le_trans Z0 sz_w119
      have E_w119_119c : Exa Z T119.heap w119 "[B" := P119_1
      have V_w119_119c : Arv Z T119.heap w119 kw119 .byte (16384 : Int32) [] (.int (0 : Int32)) := P119_2
      refine Goes.step (T2 := T119) (g2 := (mkF m 285 #[iv p1, iv p2, iv (p2 &&& (16383 : Int32)), rv b71, rv w75, rv w79, iv 1, iv 0, rv w75, .val .null, rv w75, .val .null, .val .null, rv w115, .unset] [(.ref w119)])) (fun _ hr => st119.trans hr) ?_
      refine Goes.step (T2 := T119) (g2 := (mkF m 287 #[iv p1, iv p2, iv (p2 &&& (16383 : Int32)), rv b71, rv w75, rv w79, iv 1, iv 0, rv w75, .val .null, rv w75, .val .null, .val .null, rv w115, rv w119] [])) (fun _ hr => XS.astore X119.here hx rfl (hb hby at_285) rfl rfl (l' := #[iv p1, iv p2, iv (p2 &&& (16383 : Int32)), rv b71, rv w75, rv w79, iv 1, iv 0, rv w75, .val .null, rv w75, .val .null, .val .null, rv w115, rv w119]) rfl hr) ?_
      refine Goes.step (T2 := T119) (g2 := (mkF m 289 #[iv p1, iv p2, iv (p2 &&& (16383 : Int32)), rv b71, rv w75, rv w79, iv 1, iv 0, rv w75, .val .null, rv w75, .val .null, .val .null, rv w115, rv w119] [.null])) (fun _ hr => XS.aload X119.here hx rfl (hb hby at_287) rfl rfl hr) ?_
      refine Goes.step (T2 := T119) (g2 := (mkF m 301 #[iv p1, iv p2, iv (p2 &&& (16383 : Int32)), rv b71, rv w75, rv w79, iv 1, iv 0, rv w75, .val .null, rv w75, .val .null, .val .null, rv w115, rv w119] [])) (fun _ hr => XS.ifnullYes X119.here hx rfl (pc0 := 289) (pc' := 301) rfl (hb hby at_289) rfl (by decide) (by decide) hr) ?_
      refine Goes.step (T2 := T119) (g2 := (mkF m 303 #[iv p1, iv p2, iv (p2 &&& (16383 : Int32)), rv b71, rv w75, rv w79, iv 1, iv 0, rv w75, .val .null, rv w75, .val .null, .val .null, rv w115, rv w119] [(.ref w119)])) (fun _ hr => XS.aload X119.here hx rfl (hb hby at_301) rfl rfl hr) ?_
      refine Goes.step (T2 := T119) (g2 := (mkF m 304 #[iv p1, iv p2, iv (p2 &&& (16383 : Int32)), rv b71, rv w75, rv w79, iv 1, iv 0, rv w75, .val .null, rv w75, .val .null, .val .null, rv w115, rv w119] [(.int (p2 &&& (16383 : Int32))), (.ref w119)])) (fun _ hr => XS.iloadN X119.here hx rfl (hb hby at_303) rfl  hr) ?_
      refine Goes.step (T2 := T119) (g2 := (mkF m 306 #[iv p1, iv p2, iv (p2 &&& (16383 : Int32)), rv b71, rv w75, rv w79, iv 1, iv 0, rv w75, .val .null, rv w75, .val .null, .val .null, rv w115, rv w119] [(.ref w75), (.int (p2 &&& (16383 : Int32))), (.ref w119)])) (fun _ hr => XS.aload X119.here hx rfl (hb hby at_304) rfl rfl hr) ?_
      refine Goes.step (T2 := T119) (g2 := (mkF m 308 #[iv p1, iv p2, iv (p2 &&& (16383 : Int32)), rv b71, rv w75, rv w79, iv 1, iv 0, rv w75, .val .null, rv w75, .val .null, .val .null, rv w115, rv w119] [(.ref w79), (.ref w75), (.int (p2 &&& (16383 : Int32))), (.ref w119)])) (fun _ hr => XS.aload X119.here hx rfl (hb hby at_306) rfl rfl hr) ?_
      refine Goes.step (T2 := T119) (g2 := (mkF m 310 #[iv p1, iv p2, iv (p2 &&& (16383 : Int32)), rv b71, rv w75, rv w79, iv 1, iv 0, rv w75, .val .null, rv w75, .val .null, .val .null, rv w115, rv w119] [(.ref w75), (.ref w79), (.ref w75), (.int (p2 &&& (16383 : Int32))), (.ref w119)])) (fun _ hr => XS.aload X119.here hx rfl (hb hby at_308) rfl rfl hr) ?_
      refine Goes.step (T2 := T119) (g2 := (mkF m 312 #[iv p1, iv p2, iv (p2 &&& (16383 : Int32)), rv b71, rv w75, rv w79, iv 1, iv 0, rv w75, .val .null, rv w75, .val .null, .val .null, rv w115, rv w119] [(.ref w115), (.ref w75), (.ref w79), (.ref w75), (.int (p2 &&& (16383 : Int32))), (.ref w119)])) (fun _ hr => XS.aload X119.here hx rfl (hb hby at_310) rfl rfl hr) ?_
      have Zs120 : n0 ≤ T119.heap.size := Nat.le_trans Z0 K119.1
      obtain ⟨_, _, ⟨T121, L121, k121, n121⟩, -, X121, ⟨Lc121, hQ121, l121, y121, z121⟩, st121⟩ := Jvm.LawKit.callS X119 hx (y := Y3) hown (mvT hZ (tw hw 21 rfl)) (mvT hZ (tw hw 22 rfl)) (mvT hZ (tw hw 23 rfl)) (mvT hZ (tw hw 24 rfl)) (by decide) (backOf (W := 0) (rm_fresh4 l Z a0 hw [] w119 (p2 &&& (16383 : Int32)) kw119 w75 w79 w75 w115 T119.heap n0 Zs120 (Old.keep O0 K119 hws) V_w119_119c (Ne.symm (Nat.ne_of_lt (Nat.lt_of_lt_of_le E_w75_115.lt P119_0))) (Ne.symm (Nat.ne_of_lt (Nat.lt_of_lt_of_le E_w79_115.lt P119_0))) (Ne.symm (Nat.ne_of_lt (Nat.lt_of_lt_of_le E_w75_115.lt P119_0))) (Ne.symm (Nat.ne_of_lt (Nat.lt_of_lt_of_le E_w115_115c.lt P119_0))) hinb) hZ (tw hw 24 rfl) (tw hw 23 rfl) (by decide) (by decide)) (g := (mkF m 312 #[iv p1, iv p2, iv (p2 &&& (16383 : Int32)), rv b71, rv w75, rv w79, iv 1, iv 0, rv w75, .val .null, rv w75, .val .null, .val .null, rv w115, rv w119] [(.ref w115), (.ref w75), (.ref w79), (.ref w75), (.int (p2 &&& (16383 : Int32))), (.ref w119)])) rfl (by rw [hml]; rfl) (argsL := [(.ref w119), (.int (p2 &&& (16383 : Int32))), (.ref w75), (.ref w79), (.ref w75), (.ref w115)]) (rest := []) (lenOf pd_2 rfl) rfl (by show 2 * 0 + _ ≤ _; exact Nat.le_of_eq rfl) (hb hby at_312) (fun _ _ => ⟨rfl, rfl, (by decide : 6 + 0 ≤ _), (by decide : 65602 + 0 ≤ _)⟩)
      dsimp only [Pt.U, Pt.locs, Pt.cells, Pt.slots] at X121 l121 y121 z121 st121 hQ121
      subst l121 y121 z121
      obtain ⟨rfl, N121q, e121⟩ := hQ121
      have N121 := Fr.app N119 N121q
      refine Goes.step (T2 := T121) (g2 := (mkF m 315 #[iv p1, iv p2, iv (p2 &&& (16383 : Int32)), rv b71, rv w75, rv w79, iv 1, iv 0, rv w75, .val .null, rv w75, .val .null, .val .null, rv w115, rv w119] [(.int (1 : Int32))])) st121 ?_
      refine Goes.step (T2 := T121) (g2 := (mkF m 320 #[iv p1, iv p2, iv (p2 &&& (16383 : Int32)), rv b71, rv w75, rv w79, iv 1, iv 0, rv w75, .val .null, rv w75, .val .null, .val .null, rv w115, rv w119] [])) (fun _ hr => XS.ifYes X121.here hx rfl (pc0 := 315) (pc' := 320) rfl (hb hby at_315) rfl ((if0 _ _).trans (feq (by decide : ¬ ((1 : Int32) = (0 : Int32)))).2) (by decide) (by decide) hr) ?_
      refine Goes.step (T2 := T121) (g2 := (mkF m 321 #[iv p1, iv p2, iv (p2 &&& (16383 : Int32)), rv b71, rv w75, rv w79, iv 1, iv 0, rv w75, .val .null, rv w75, .val .null, .val .null, rv w115, rv w119] [(.int (1 : Int32))])) (fun _ hr => XS.iconst X121.here hx rfl (hb hby at_320) hr) ?_
      exact Goes.ret (v := some (.int (1 : Int32))) X121 (by decide) (by decide) (fun h => by rw [Bd.returns] at h; cases h) ⟨rfl, N121⟩ (fun fs hr => retN X121 hx (t := .boolean) Bd.returns (by simp) (hb hby at_321) hr)
    · refine Goes.step (T2 := T83) (g2 := (mkF m 90 #[iv p1, iv p2, iv (p2 &&& (16383 : Int32)), rv b71, rv w75, rv w79, iv 1, .unset, .unset, .unset, .unset, .unset, .unset, .unset, .unset] [])) (fun _ hr => XS.ifNo X83.here hx rfl (hb hby at_87) rfl ((if0 _ _).trans (feq hc87_109).1) hr) ?_
      refine Goes.step (T2 := T83) (g2 := (mkF m 91 #[iv p1, iv p2, iv (p2 &&& (16383 : Int32)), rv b71, rv w75, rv w79, iv 1, .unset, .unset, .unset, .unset, .unset, .unset, .unset, .unset] [(.int (1 : Int32))])) (fun _ hr => XS.iconst X83.here hx rfl (hb hby at_90) hr) ?_
      refine Goes.step (T2 := T83) (g2 := (mkF m 95 #[iv p1, iv p2, iv (p2 &&& (16383 : Int32)), rv b71, rv w75, rv w79, iv 1, .unset, .unset, .unset, .unset, .unset, .unset, .unset, .unset] [(.int (1 : Int32))])) (fun _ hr => XS.goto X83.here hx rfl (pc0 := 91) (pc' := 95) rfl (hb hby at_91) (by decide) (by decide) hr) ?_
      refine Goes.step (T2 := T83) (g2 := (mkF m 97 #[iv p1, iv p2, iv (p2 &&& (16383 : Int32)), rv b71, rv w75, rv w79, iv 1, iv 1, .unset, .unset, .unset, .unset, .unset, .unset, .unset] [])) (fun _ hr => XS.istore X83.here hx rfl (hb hby at_95) rfl (l' := #[iv p1, iv p2, iv (p2 &&& (16383 : Int32)), rv b71, rv w75, rv w79, iv 1, iv 1, .unset, .unset, .unset, .unset, .unset, .unset, .unset]) rfl hr) ?_
      refine Goes.step (T2 := T83) (g2 := (mkF m 98 #[iv p1, iv p2, iv (p2 &&& (16383 : Int32)), rv b71, rv w75, rv w79, iv 1, iv 1, .unset, .unset, .unset, .unset, .unset, .unset, .unset] [.null])) (fun _ hr => XS.aconstNull X83.here hx rfl (hb hby at_97) hr) ?_
      refine Goes.step (T2 := T83) (g2 := (mkF m 100 #[iv p1, iv p2, iv (p2 &&& (16383 : Int32)), rv b71, rv w75, rv w79, iv 1, iv 1, .val .null, .unset, .unset, .unset, .unset, .unset, .unset] [])) (fun _ hr => XS.astore X83.here hx rfl (hb hby at_98) rfl rfl (l' := #[iv p1, iv p2, iv (p2 &&& (16383 : Int32)), rv b71, rv w75, rv w79, iv 1, iv 1, .val .null, .unset, .unset, .unset, .unset, .unset, .unset]) rfl hr) ?_
      refine Goes.step (T2 := T83) (g2 := (mkF m 101 #[iv p1, iv p2, iv (p2 &&& (16383 : Int32)), rv b71, rv w75, rv w79, iv 1, iv 1, .val .null, .unset, .unset, .unset, .unset, .unset, .unset] [.null])) (fun _ hr => XS.aconstNull X83.here hx rfl (hb hby at_100) hr) ?_
      refine Goes.step (T2 := T83) (g2 := (mkF m 103 #[iv p1, iv p2, iv (p2 &&& (16383 : Int32)), rv b71, rv w75, rv w79, iv 1, iv 1, .val .null, .val .null, .unset, .unset, .unset, .unset, .unset] [])) (fun _ hr => XS.astore X83.here hx rfl (hb hby at_101) rfl rfl (l' := #[iv p1, iv p2, iv (p2 &&& (16383 : Int32)), rv b71, rv w75, rv w79, iv 1, iv 1, .val .null, .val .null, .unset, .unset, .unset, .unset, .unset]) rfl hr) ?_
      refine Goes.step (T2 := T83) (g2 := (mkF m 105 #[iv p1, iv p2, iv (p2 &&& (16383 : Int32)), rv b71, rv w75, rv w79, iv 1, iv 1, .val .null, .val .null, .unset, .unset, .unset, .unset, .unset] [(.int (1 : Int32))])) (fun _ hr => XS.iload X83.here hx rfl (hb hby at_103) rfl  hr) ?_
      refine Goes.step (T2 := T83) (g2 := (mkF m 106 #[iv p1, iv p2, iv (p2 &&& (16383 : Int32)), rv b71, rv w75, rv w79, iv 1, iv 1, .val .null, .val .null, .unset, .unset, .unset, .unset, .unset] [(.int (1 : Int32)), (.int (1 : Int32))])) (fun _ hr => XS.iconst X83.here hx rfl (hb hby at_105) hr) ?_
      refine Goes.step (T2 := T83) (g2 := (mkF m 109 #[iv p1, iv p2, iv (p2 &&& (16383 : Int32)), rv b71, rv w75, rv w79, iv 1, iv 1, .val .null, .val .null, .unset, .unset, .unset, .unset, .unset] [])) (fun _ hr => XS.icmpNo X83.here hx rfl (hb hby at_106) rfl (teq (by decide : (1 : Int32) = (1 : Int32))).2 hr) ?_
      refine Goes.step (T2 := T83) (g2 := (mkF m 110 #[iv p1, iv p2, iv (p2 &&& (16383 : Int32)), rv b71, rv w75, rv w79, iv 1, iv 1, .val .null, .val .null, .unset, .unset, .unset, .unset, .unset] [(.ref b71)])) (fun _ hr => XS.aloadN X83.here hx rfl (hb hby at_109) rfl rfl hr) ?_
      refine Goes.step (T2 := T83) (g2 := (mkF m 112 #[iv p1, iv p2, iv (p2 &&& (16383 : Int32)), rv b71, rv w75, rv w79, iv 1, iv 1, .val .null, .val .null, .unset, .unset, .unset, .unset, .unset] [(.ref w75), (.ref b71)])) (fun _ hr => XS.aload X83.here hx rfl (hb hby at_110) rfl rfl hr) ?_
      have Zs122 : n0 ≤ h83.size := Nat.le_trans Z0 K83.1
      obtain ⟨cq123, kq123, q123a, q123b, q123c⟩ := isOf hZ e83 E_b71_83
      obtain ⟨_, _, ⟨T123, L123, k123, n123⟩, -, X123, ⟨Lc123, hQ123, l123, y123, z123⟩, st123⟩ := X83.virtualBack hx (y := Y2) (z := Y2) hown (mvT hZ (tw hw 25 rfl)) (mvT hZ (tw hw 26 rfl)) (notFace_of_selects (args := #[]) (mvT hZ (tw hw 28 rfl))) (mvT hZ (tw hw 28 rfl)) (mvT hZ (tw hw 27 rfl)) (by decide) (backOf (W := 0) (rm_give0 l Z a0 hw [] b71 sp73 k73 .null .null .null w75 h83 n0 Zs122 (Old.keep O0 K83 hws) E_b71_83 F_b71_spare_83 F_b71_spareCount_83 V_sp73_83 E_w75_83 L_w75_83 ge_b71 ge_sp73 (Nat.ne_of_lt (Nat.lt_of_lt_of_le A71.lt P73_0)) (Ne.symm (Nat.ne_of_lt (Nat.lt_of_lt_of_le E_b71_73.lt P75_0))) (Ne.symm (Nat.ne_of_lt (Nat.lt_of_lt_of_le V_sp73_73c.lt P75_0))) P73_4) hZ (tw hw 29 rfl) (tw hw 2 rfl) (by decide) (by decide)) q123a q123c (g := (mkF m 112 #[iv p1, iv p2, iv (p2 &&& (16383 : Int32)), rv b71, rv w75, rv w79, iv 1, iv 1, .val .null, .val .null, .unset, .unset, .unset, .unset, .unset] [(.ref w75), (.ref b71)])) rfl (by rw [hml]; rfl) (Steps.refl _) (argsL := [(.ref w75)]) (rest := []) (lenOf pd_3 rfl) rfl (by show 2 * 0 + _ ≤ _; exact Nat.le_of_eq rfl) (hb hby at_112) (fun _ _ => ⟨rfl, e83, (by decide : 4 + 0 ≤ _), (by decide : 32834 + 0 ≤ _)⟩)
      dsimp only [Pt.U, Pt.locs, Pt.cells, Pt.slots] at X123 l123 y123 z123 st123 hQ123
      subst l123 y123 z123
      obtain ⟨rfl, N123q, Kc123, P123_0, P123_1, P123_2⟩ := hQ123
      have N123 := Fr.app N83 N123q
      have E_b71_123 : Exa Z T123.heap b71 "com/example/api_policy_gateway/apipolicygateway/net/BufferPool" := E_b71_83.keep Kc123
      have E_w75_123 : Exa Z T123.heap w75 "[B" := E_w75_83.keep Kc123
      have E_w79_123 : Exa Z T123.heap w79 "[B" := E_w79_83.keep Kc123
      have L_w75_123 : LenB Z T123.heap w75 (16384 : Int32) := L_w75_83.keep Kc123 (ninS (Ne.symm (Nat.ne_of_lt (Nat.lt_of_lt_of_le E_b71_73.lt P75_0))) (ninS (Ne.symm (Nat.ne_of_lt (Nat.lt_of_lt_of_le V_sp73_73c.lt P75_0))) nin0))
      have L_w79_123 : LenB Z T123.heap w79 (16384 : Int32) := L_w79_83.keep Kc123 (ninS (Ne.symm (Nat.ne_of_lt (Nat.lt_of_lt_of_le E_b71_75.lt P79_0))) (ninS (Ne.symm (Nat.ne_of_lt (Nat.lt_of_lt_of_le V_sp73_75.lt P79_0))) nin0))
      have K123 : Keep h0 T123.heap [] := K83.trans Kc123 (allS (Or.inr sz_b71) (allS (Or.inr sz_sp73) all0))
      have F_b71_spare_123c : Fld Z T123.heap b71 "com/example/api_policy_gateway/apipolicygateway/net/BufferPool" "spare" "[[B" (.ref sp73) := P123_0
      have F_b71_spareCount_123c : Fld Z T123.heap b71 "com/example/api_policy_gateway/apipolicygateway/net/BufferPool" "spareCount" "I" (.int (1 : Int32)) := P123_1
      have V_sp73_123c : Arv Z T123.heap sp73 k73 (.array .byte) (64 : Int32) [(.ref w75), .null, .null] .null := P123_2
      refine Goes.step (T2 := T123) (g2 := (mkF m 115 #[iv p1, iv p2, iv (p2 &&& (16383 : Int32)), rv b71, rv w75, rv w79, iv 1, iv 1, .val .null, .val .null, .unset, .unset, .unset, .unset, .unset] [])) (fun _ hr => st123.trans hr) ?_
      refine Goes.step (T2 := T123) (g2 := (mkF m 117 #[iv p1, iv p2, iv (p2 &&& (16383 : Int32)), rv b71, rv w75, rv w79, iv 1, iv 1, .val .null, .val .null, .unset, .unset, .unset, .unset, .unset] [(.ref w75)])) (fun _ hr => XS.aload X123.here hx rfl (hb hby at_115) rfl rfl hr) ?_
      refine Goes.step (T2 := T123) (g2 := (mkF m 119 #[iv p1, iv p2, iv (p2 &&& (16383 : Int32)), rv b71, rv w75, rv w79, iv 1, iv 1, rv w75, .val .null, .unset, .unset, .unset, .unset, .unset] [])) (fun _ hr => XS.astore X123.here hx rfl (hb hby at_117) rfl rfl (l' := #[iv p1, iv p2, iv (p2 &&& (16383 : Int32)), rv b71, rv w75, rv w79, iv 1, iv 1, rv w75, .val .null, .unset, .unset, .unset, .unset, .unset]) rfl hr) ?_
      refine Goes.step (T2 := T123) (g2 := (mkF m 177 #[iv p1, iv p2, iv (p2 &&& (16383 : Int32)), rv b71, rv w75, rv w79, iv 1, iv 1, rv w75, .val .null, .unset, .unset, .unset, .unset, .unset] [])) (fun _ hr => XS.goto X123.here hx rfl (pc0 := 119) (pc' := 177) rfl (hb hby at_119) (by decide) (by decide) hr) ?_
      refine Goes.step (T2 := T123) (g2 := (mkF m 178 #[iv p1, iv p2, iv (p2 &&& (16383 : Int32)), rv b71, rv w75, rv w79, iv 1, iv 1, rv w75, .val .null, .unset, .unset, .unset, .unset, .unset] [(.ref b71)])) (fun _ hr => XS.aloadN X123.here hx rfl (hb hby at_177) rfl rfl hr) ?_
      have Zs124 : n0 ≤ T123.heap.size := Nat.le_trans Z0 K123.1
      obtain ⟨cq125, kq125, q125a, q125b, q125c⟩ := isOf hZ rfl E_b71_123
      obtain ⟨_, _, ⟨T125, L125, k125, n125⟩, -, X125, ⟨Lc125, hQ125, l125, y125, z125⟩, st125⟩ := X123.virtualBack hx (y := Y1) (z := Y1) hown (mvT hZ (tw hw 13 rfl)) (mvT hZ (tw hw 14 rfl)) (notFace_of_selects (args := #[]) (mvT hZ (tw hw 16 rfl))) (mvT hZ (tw hw 16 rfl)) (mvT hZ (tw hw 15 rfl)) (by decide) (backOf (W := 0) (rm_take1 l Z a0 hw [] b71 sp73 k73 .null .null w75 T123.heap n0 Zs124 (Old.keep O0 K123 hws) E_b71_123 F_b71_spare_123c F_b71_spareCount_123c V_sp73_123c ge_b71 ge_sp73 (Nat.ne_of_lt (Nat.lt_of_lt_of_le A71.lt P73_0))) hZ (tw hw 17 rfl) (tw hw 2 rfl) (by decide) (by decide)) q125a q125c (g := (mkF m 178 #[iv p1, iv p2, iv (p2 &&& (16383 : Int32)), rv b71, rv w75, rv w79, iv 1, iv 1, rv w75, .val .null, .unset, .unset, .unset, .unset, .unset] [(.ref b71)])) rfl (by rw [hml]; rfl) (Steps.refl _) (argsL := []) (rest := []) (lenOf pd_1 rfl) rfl (by show 2 * 0 + _ ≤ _; exact Nat.le_of_eq rfl) (hb hby at_178) (fun _ _ => ⟨rfl, rfl, (by decide : 4 + 0 ≤ _), (by decide : 32834 + 0 ≤ _)⟩)
      dsimp only [Pt.U, Pt.locs, Pt.cells, Pt.slots] at X125 l125 y125 z125 st125 hQ125
      subst l125 y125 z125
      obtain ⟨rfl, N125q, Kc125, P125_0, P125_1, P125_2⟩ := hQ125
      have N125 := Fr.app N123 N125q
      have E_b71_125 : Exa Z T125.heap b71 "com/example/api_policy_gateway/apipolicygateway/net/BufferPool" := E_b71_123.keep Kc125
      have E_w75_125 : Exa Z T125.heap w75 "[B" := E_w75_123.keep Kc125
      have E_w79_125 : Exa Z T125.heap w79 "[B" := E_w79_123.keep Kc125
      have L_w75_125 : LenB Z T125.heap w75 (16384 : Int32) := L_w75_123.keep Kc125 (ninS (Ne.symm (Nat.ne_of_lt (Nat.lt_of_lt_of_le E_b71_73.lt P75_0))) (ninS (Ne.symm (Nat.ne_of_lt (Nat.lt_of_lt_of_le V_sp73_73c.lt P75_0))) nin0))
      have L_w79_125 : LenB Z T125.heap w79 (16384 : Int32) := L_w79_123.keep Kc125 (ninS (Ne.symm (Nat.ne_of_lt (Nat.lt_of_lt_of_le E_b71_75.lt P79_0))) (ninS (Ne.symm (Nat.ne_of_lt (Nat.lt_of_lt_of_le V_sp73_75.lt P79_0))) nin0))
      have K125 : Keep h0 T125.heap [] := K123.trans Kc125 (allS (Or.inr sz_b71) (allS (Or.inr sz_sp73) all0))
      have F_b71_spare_125c : Fld Z T125.heap b71 "com/example/api_policy_gateway/apipolicygateway/net/BufferPool" "spare" "[[B" (.ref sp73) := P125_0
      have F_b71_spareCount_125c : Fld Z T125.heap b71 "com/example/api_policy_gateway/apipolicygateway/net/BufferPool" "spareCount" "I" (.int (0 : Int32)) := P125_1
      have V_sp73_125c : Arv Z T125.heap sp73 k73 (.array .byte) (64 : Int32) [.null, .null, .null] .null := P125_2
      refine Goes.step (T2 := T125) (g2 := (mkF m 181 #[iv p1, iv p2, iv (p2 &&& (16383 : Int32)), rv b71, rv w75, rv w79, iv 1, iv 1, rv w75, .val .null, .unset, .unset, .unset, .unset, .unset] [(.ref w75)])) (fun _ hr => st125.trans hr) ?_
      refine Goes.step (T2 := T125) (g2 := (mkF m 183 #[iv p1, iv p2, iv (p2 &&& (16383 : Int32)), rv b71, rv w75, rv w79, iv 1, iv 1, rv w75, .val .null, rv w75, .unset, .unset, .unset, .unset] [])) (fun _ hr => XS.astore X125.here hx rfl (hb hby at_181) rfl rfl (l' := #[iv p1, iv p2, iv (p2 &&& (16383 : Int32)), rv b71, rv w75, rv w79, iv 1, iv 1, rv w75, .val .null, rv w75, .unset, .unset, .unset, .unset]) rfl hr) ?_
      refine Goes.step (T2 := T125) (g2 := (mkF m 185 #[iv p1, iv p2, iv (p2 &&& (16383 : Int32)), rv b71, rv w75, rv w79, iv 1, iv 1, rv w75, .val .null, rv w75, .unset, .unset, .unset, .unset] [(.ref w75)])) (fun _ hr => XS.aload X125.here hx rfl (hb hby at_183) rfl rfl hr) ?_
      refine Goes.step (T2 := T125) (g2 := (mkF m 188 #[iv p1, iv p2, iv (p2 &&& (16383 : Int32)), rv b71, rv w75, rv w79, iv 1, iv 1, rv w75, .val .null, rv w75, .unset, .unset, .unset, .unset] [])) (fun _ hr => XS.ifnullNo X125.here hx rfl (hb hby at_185) rfl hr) ?_
      refine Goes.step (T2 := T125) (g2 := (mkF m 190 #[iv p1, iv p2, iv (p2 &&& (16383 : Int32)), rv b71, rv w75, rv w79, iv 1, iv 1, rv w75, .val .null, rv w75, .unset, .unset, .unset, .unset] [(.ref w75)])) (fun _ hr => XS.aload X125.here hx rfl (hb hby at_188) rfl rfl hr) ?_
      refine Goes.step (T2 := T125) (g2 := (mkF m 192 #[iv p1, iv p2, iv (p2 &&& (16383 : Int32)), rv b71, rv w75, rv w79, iv 1, iv 1, rv w75, .val .null, rv w75, .unset, .unset, .unset, .unset] [(.ref w75), (.ref w75)])) (fun _ hr => XS.aload X125.here hx rfl (hb hby at_190) rfl rfl hr) ?_
      refine Goes.step (T2 := T125) (g2 := (mkF m 214 #[iv p1, iv p2, iv (p2 &&& (16383 : Int32)), rv b71, rv w75, rv w79, iv 1, iv 1, rv w75, .val .null, rv w75, .unset, .unset, .unset, .unset] [])) (fun _ hr => Jvm.RoadKit.acmp (g := (mkF m 192 #[iv p1, iv p2, iv (p2 &&& (16383 : Int32)), rv b71, rv w75, rv w79, iv 1, iv 1, rv w75, .val .null, rv w75, .unset, .unset, .unset, .unset] [(.ref w75), (.ref w75)])) X125 hx rfl rfl rfl (pc0 := 192) (pc' := 214) (same := true) rfl (hb hby at_192) rfl (decide_eq_true rfl) (by decide) (by decide) hr) ?_
      refine Goes.step (T2 := T125) (g2 := (mkF m 216 #[iv p1, iv p2, iv (p2 &&& (16383 : Int32)), rv b71, rv w75, rv w79, iv 1, iv 1, rv w75, .val .null, rv w75, .unset, .unset, .unset, .unset] [(.int (1 : Int32))])) (fun _ hr => XS.iload X125.here hx rfl (hb hby at_214) rfl  hr) ?_
      refine Goes.step (T2 := T125) (g2 := (mkF m 219 #[iv p1, iv p2, iv (p2 &&& (16383 : Int32)), rv b71, rv w75, rv w79, iv 1, iv 1, rv w75, .val .null, rv w75, .unset, .unset, .unset, .unset] [])) (fun _ hr => XS.ifNo X125.here hx rfl (hb hby at_216) rfl ((if0 _ _).trans (feq (by decide : ¬ ((1 : Int32) = (0 : Int32)))).1) hr) ?_
      refine Goes.step (T2 := T125) (g2 := (mkF m 220 #[iv p1, iv p2, iv (p2 &&& (16383 : Int32)), rv b71, rv w75, rv w79, iv 1, iv 1, rv w75, .val .null, rv w75, .unset, .unset, .unset, .unset] [(.ref b71)])) (fun _ hr => XS.aloadN X125.here hx rfl (hb hby at_219) rfl rfl hr) ?_
      refine Goes.step (T2 := T125) (g2 := (mkF m 222 #[iv p1, iv p2, iv (p2 &&& (16383 : Int32)), rv b71, rv w75, rv w79, iv 1, iv 1, rv w75, .val .null, rv w75, .unset, .unset, .unset, .unset] [(.ref w75), (.ref b71)])) (fun _ hr => XS.aload X125.here hx rfl (hb hby at_220) rfl rfl hr) ?_
      have Zs126 : n0 ≤ T125.heap.size := Nat.le_trans Z0 K125.1
      obtain ⟨cq127, kq127, q127a, q127b, q127c⟩ := isOf hZ rfl E_b71_125
      obtain ⟨_, _, ⟨T127, L127, k127, n127⟩, -, X127, ⟨Lc127, hQ127, l127, y127, z127⟩, st127⟩ := X125.virtualBack hx (y := Y2) (z := Y2) hown (mvT hZ (tw hw 25 rfl)) (mvT hZ (tw hw 26 rfl)) (notFace_of_selects (args := #[]) (mvT hZ (tw hw 28 rfl))) (mvT hZ (tw hw 28 rfl)) (mvT hZ (tw hw 27 rfl)) (by decide) (backOf (W := 0) (rm_give0 l Z a0 hw [] b71 sp73 k73 .null .null .null w75 T125.heap n0 Zs126 (Old.keep O0 K125 hws) E_b71_125 F_b71_spare_125c F_b71_spareCount_125c V_sp73_125c E_w75_125 L_w75_125 ge_b71 ge_sp73 (Nat.ne_of_lt (Nat.lt_of_lt_of_le A71.lt P73_0)) (Ne.symm (Nat.ne_of_lt (Nat.lt_of_lt_of_le E_b71_73.lt P75_0))) (Ne.symm (Nat.ne_of_lt (Nat.lt_of_lt_of_le V_sp73_73c.lt P75_0))) P73_4) hZ (tw hw 29 rfl) (tw hw 2 rfl) (by decide) (by decide)) q127a q127c (g := (mkF m 222 #[iv p1, iv p2, iv (p2 &&& (16383 : Int32)), rv b71, rv w75, rv w79, iv 1, iv 1, rv w75, .val .null, rv w75, .unset, .unset, .unset, .unset] [(.ref w75), (.ref b71)])) rfl (by rw [hml]; rfl) (Steps.refl _) (argsL := [(.ref w75)]) (rest := []) (lenOf pd_3 rfl) rfl (by show 2 * 0 + _ ≤ _; exact Nat.le_of_eq rfl) (hb hby at_222) (fun _ _ => ⟨rfl, rfl, (by decide : 4 + 0 ≤ _), (by decide : 32834 + 0 ≤ _)⟩)
      dsimp only [Pt.U, Pt.locs, Pt.cells, Pt.slots] at X127 l127 y127 z127 st127 hQ127
      subst l127 y127 z127
      obtain ⟨rfl, N127q, Kc127, P127_0, P127_1, P127_2⟩ := hQ127
      have N127 := Fr.app N125 N127q
      have E_b71_127 : Exa Z T127.heap b71 "com/example/api_policy_gateway/apipolicygateway/net/BufferPool" := E_b71_125.keep Kc127
      have E_w75_127 : Exa Z T127.heap w75 "[B" := E_w75_125.keep Kc127
      have E_w79_127 : Exa Z T127.heap w79 "[B" := E_w79_125.keep Kc127
      have L_w75_127 : LenB Z T127.heap w75 (16384 : Int32) := L_w75_125.keep Kc127 (ninS (Ne.symm (Nat.ne_of_lt (Nat.lt_of_lt_of_le E_b71_73.lt P75_0))) (ninS (Ne.symm (Nat.ne_of_lt (Nat.lt_of_lt_of_le V_sp73_73c.lt P75_0))) nin0))
      have L_w79_127 : LenB Z T127.heap w79 (16384 : Int32) := L_w79_125.keep Kc127 (ninS (Ne.symm (Nat.ne_of_lt (Nat.lt_of_lt_of_le E_b71_75.lt P79_0))) (ninS (Ne.symm (Nat.ne_of_lt (Nat.lt_of_lt_of_le V_sp73_75.lt P79_0))) nin0))
      have K127 : Keep h0 T127.heap [] := K125.trans Kc127 (allS (Or.inr sz_b71) (allS (Or.inr sz_sp73) all0))
      have F_b71_spare_127c : Fld Z T127.heap b71 "com/example/api_policy_gateway/apipolicygateway/net/BufferPool" "spare" "[[B" (.ref sp73) := P127_0
      have F_b71_spareCount_127c : Fld Z T127.heap b71 "com/example/api_policy_gateway/apipolicygateway/net/BufferPool" "spareCount" "I" (.int (1 : Int32)) := P127_1
      have V_sp73_127c : Arv Z T127.heap sp73 k73 (.array .byte) (64 : Int32) [(.ref w75), .null, .null] .null := P127_2
      refine Goes.step (T2 := T127) (g2 := (mkF m 225 #[iv p1, iv p2, iv (p2 &&& (16383 : Int32)), rv b71, rv w75, rv w79, iv 1, iv 1, rv w75, .val .null, rv w75, .unset, .unset, .unset, .unset] [])) (fun _ hr => st127.trans hr) ?_
      refine Goes.step (T2 := T127) (g2 := (mkF m 227 #[iv p1, iv p2, iv (p2 &&& (16383 : Int32)), rv b71, rv w75, rv w79, iv 1, iv 1, rv w75, .val .null, rv w75, .unset, .unset, .unset, .unset] [(.ref w75)])) (fun _ hr => XS.aload X127.here hx rfl (hb hby at_225) rfl rfl hr) ?_
      refine Goes.step (T2 := T127) (g2 := (mkF m 229 #[iv p1, iv p2, iv (p2 &&& (16383 : Int32)), rv b71, rv w75, rv w79, iv 1, iv 1, rv w75, .val .null, rv w75, rv w75, .unset, .unset, .unset] [])) (fun _ hr => XS.astore X127.here hx rfl (hb hby at_227) rfl rfl (l' := #[iv p1, iv p2, iv (p2 &&& (16383 : Int32)), rv b71, rv w75, rv w79, iv 1, iv 1, rv w75, .val .null, rv w75, rv w75, .unset, .unset, .unset]) rfl hr) ?_
      refine Goes.step (T2 := T127) (g2 := (mkF m 231 #[iv p1, iv p2, iv (p2 &&& (16383 : Int32)), rv b71, rv w75, rv w79, iv 1, iv 1, rv w75, .val .null, rv w75, rv w75, .unset, .unset, .unset] [.null])) (fun _ hr => XS.aload X127.here hx rfl (hb hby at_229) rfl rfl hr) ?_
      refine Goes.step (T2 := T127) (g2 := (mkF m 233 #[iv p1, iv p2, iv (p2 &&& (16383 : Int32)), rv b71, rv w75, rv w79, iv 1, iv 1, rv w75, .val .null, rv w75, rv w75, .val .null, .unset, .unset] [])) (fun _ hr => XS.astore X127.here hx rfl (hb hby at_231) rfl rfl (l' := #[iv p1, iv p2, iv (p2 &&& (16383 : Int32)), rv b71, rv w75, rv w79, iv 1, iv 1, rv w75, .val .null, rv w75, rv w75, .val .null, .unset, .unset]) rfl hr) ?_
      refine Goes.step (T2 := T127) (g2 := (mkF m 243 #[iv p1, iv p2, iv (p2 &&& (16383 : Int32)), rv b71, rv w75, rv w79, iv 1, iv 1, rv w75, .val .null, rv w75, rv w75, .val .null, .unset, .unset] [])) (fun _ hr => XS.goto X127.here hx rfl (pc0 := 233) (pc' := 243) rfl (hb hby at_233) (by decide) (by decide) hr) ?_
      refine Goes.step (T2 := T127) (g2 := (mkF m 244 #[iv p1, iv p2, iv (p2 &&& (16383 : Int32)), rv b71, rv w75, rv w79, iv 1, iv 1, rv w75, .val .null, rv w75, rv w75, .val .null, .unset, .unset] [(.ref b71)])) (fun _ hr => XS.aloadN X127.here hx rfl (hb hby at_243) rfl rfl hr) ?_
      have Zs128 : n0 ≤ T127.heap.size := Nat.le_trans Z0 K127.1
      obtain ⟨cq129, kq129, q129a, q129b, q129c⟩ := isOf hZ rfl E_b71_127
      obtain ⟨_, _, ⟨T129, L129, k129, n129⟩, -, X129, ⟨Lc129, hQ129, l129, y129, z129⟩, st129⟩ := X127.virtualBack hx (y := Y1) (z := Y1) hown (mvT hZ (tw hw 13 rfl)) (mvT hZ (tw hw 14 rfl)) (notFace_of_selects (args := #[]) (mvT hZ (tw hw 16 rfl))) (mvT hZ (tw hw 16 rfl)) (mvT hZ (tw hw 15 rfl)) (by decide) (backOf (W := 0) (rm_take1 l Z a0 hw [] b71 sp73 k73 .null .null w75 T127.heap n0 Zs128 (Old.keep O0 K127 hws) E_b71_127 F_b71_spare_127c F_b71_spareCount_127c V_sp73_127c ge_b71 ge_sp73 (Nat.ne_of_lt (Nat.lt_of_lt_of_le A71.lt P73_0))) hZ (tw hw 17 rfl) (tw hw 2 rfl) (by decide) (by decide)) q129a q129c (g := (mkF m 244 #[iv p1, iv p2, iv (p2 &&& (16383 : Int32)), rv b71, rv w75, rv w79, iv 1, iv 1, rv w75, .val .null, rv w75, rv w75, .val .null, .unset, .unset] [(.ref b71)])) rfl (by rw [hml]; rfl) (Steps.refl _) (argsL := []) (rest := []) (lenOf pd_1 rfl) rfl (by show 2 * 0 + _ ≤ _; exact Nat.le_of_eq rfl) (hb hby at_244) (fun _ _ => ⟨rfl, rfl, (by decide : 4 + 0 ≤ _), (by decide : 32834 + 0 ≤ _)⟩)
      dsimp only [Pt.U, Pt.locs, Pt.cells, Pt.slots] at X129 l129 y129 z129 st129 hQ129
      subst l129 y129 z129
      obtain ⟨rfl, N129q, Kc129, P129_0, P129_1, P129_2⟩ := hQ129
      have N129 := Fr.app N127 N129q
      have E_b71_129 : Exa Z T129.heap b71 "com/example/api_policy_gateway/apipolicygateway/net/BufferPool" := E_b71_127.keep Kc129
      have E_w75_129 : Exa Z T129.heap w75 "[B" := E_w75_127.keep Kc129
      have E_w79_129 : Exa Z T129.heap w79 "[B" := E_w79_127.keep Kc129
      have L_w75_129 : LenB Z T129.heap w75 (16384 : Int32) := L_w75_127.keep Kc129 (ninS (Ne.symm (Nat.ne_of_lt (Nat.lt_of_lt_of_le E_b71_73.lt P75_0))) (ninS (Ne.symm (Nat.ne_of_lt (Nat.lt_of_lt_of_le V_sp73_73c.lt P75_0))) nin0))
      have L_w79_129 : LenB Z T129.heap w79 (16384 : Int32) := L_w79_127.keep Kc129 (ninS (Ne.symm (Nat.ne_of_lt (Nat.lt_of_lt_of_le E_b71_75.lt P79_0))) (ninS (Ne.symm (Nat.ne_of_lt (Nat.lt_of_lt_of_le V_sp73_75.lt P79_0))) nin0))
      have K129 : Keep h0 T129.heap [] := K127.trans Kc129 (allS (Or.inr sz_b71) (allS (Or.inr sz_sp73) all0))
      have F_b71_spare_129c : Fld Z T129.heap b71 "com/example/api_policy_gateway/apipolicygateway/net/BufferPool" "spare" "[[B" (.ref sp73) := P129_0
      have F_b71_spareCount_129c : Fld Z T129.heap b71 "com/example/api_policy_gateway/apipolicygateway/net/BufferPool" "spareCount" "I" (.int (0 : Int32)) := P129_1
      have V_sp73_129c : Arv Z T129.heap sp73 k73 (.array .byte) (64 : Int32) [.null, .null, .null] .null := P129_2
      refine Goes.step (T2 := T129) (g2 := (mkF m 247 #[iv p1, iv p2, iv (p2 &&& (16383 : Int32)), rv b71, rv w75, rv w79, iv 1, iv 1, rv w75, .val .null, rv w75, rv w75, .val .null, .unset, .unset] [(.ref w75)])) (fun _ hr => st129.trans hr) ?_
      refine Goes.step (T2 := T129) (g2 := (mkF m 249 #[iv p1, iv p2, iv (p2 &&& (16383 : Int32)), rv b71, rv w75, rv w79, iv 1, iv 1, rv w75, .val .null, rv w75, rv w75, .val .null, rv w75, .unset] [])) (fun _ hr => XS.astore X129.here hx rfl (hb hby at_247) rfl rfl (l' := #[iv p1, iv p2, iv (p2 &&& (16383 : Int32)), rv b71, rv w75, rv w79, iv 1, iv 1, rv w75, .val .null, rv w75, rv w75, .val .null, rv w75, .unset]) rfl hr) ?_
      refine Goes.step (T2 := T129) (g2 := (mkF m 251 #[iv p1, iv p2, iv (p2 &&& (16383 : Int32)), rv b71, rv w75, rv w79, iv 1, iv 1, rv w75, .val .null, rv w75, rv w75, .val .null, rv w75, .unset] [(.ref w75)])) (fun _ hr => XS.aload X129.here hx rfl (hb hby at_249) rfl rfl hr) ?_
      refine Goes.step (T2 := T129) (g2 := (mkF m 254 #[iv p1, iv p2, iv (p2 &&& (16383 : Int32)), rv b71, rv w75, rv w79, iv 1, iv 1, rv w75, .val .null, rv w75, rv w75, .val .null, rv w75, .unset] [])) (fun _ hr => XS.ifnullNo X129.here hx rfl (hb hby at_251) rfl hr) ?_
      refine Goes.step (T2 := T129) (g2 := (mkF m 256 #[iv p1, iv p2, iv (p2 &&& (16383 : Int32)), rv b71, rv w75, rv w79, iv 1, iv 1, rv w75, .val .null, rv w75, rv w75, .val .null, rv w75, .unset] [(.ref w75)])) (fun _ hr => XS.aload X129.here hx rfl (hb hby at_254) rfl rfl hr) ?_
      refine Goes.step (T2 := T129) (g2 := (mkF m 258 #[iv p1, iv p2, iv (p2 &&& (16383 : Int32)), rv b71, rv w75, rv w79, iv 1, iv 1, rv w75, .val .null, rv w75, rv w75, .val .null, rv w75, .unset] [(.ref w75), (.ref w75)])) (fun _ hr => XS.aload X129.here hx rfl (hb hby at_256) rfl rfl hr) ?_
      refine Goes.step (T2 := T129) (g2 := (mkF m 281 #[iv p1, iv p2, iv (p2 &&& (16383 : Int32)), rv b71, rv w75, rv w79, iv 1, iv 1, rv w75, .val .null, rv w75, rv w75, .val .null, rv w75, .unset] [])) (fun _ hr => Jvm.RoadKit.acmp (g := (mkF m 258 #[iv p1, iv p2, iv (p2 &&& (16383 : Int32)), rv b71, rv w75, rv w79, iv 1, iv 1, rv w75, .val .null, rv w75, rv w75, .val .null, rv w75, .unset] [(.ref w75), (.ref w75)])) X129 hx rfl rfl rfl (pc0 := 258) (pc' := 281) (same := true) rfl (hb hby at_258) rfl (decide_eq_true rfl) (by decide) (by decide) hr) ?_
      refine Goes.step (T2 := T129) (g2 := (mkF m 282 #[iv p1, iv p2, iv (p2 &&& (16383 : Int32)), rv b71, rv w75, rv w79, iv 1, iv 1, rv w75, .val .null, rv w75, rv w75, .val .null, rv w75, .unset] [(.ref b71)])) (fun _ hr => XS.aloadN X129.here hx rfl (hb hby at_281) rfl rfl hr) ?_
      have Zs130 : n0 ≤ T129.heap.size := Nat.le_trans Z0 K129.1
      obtain ⟨cq131, kq131, q131a, q131b, q131c⟩ := isOf hZ rfl E_b71_129
      obtain ⟨_, _, ⟨T131, L131, k131, n131⟩, -, X131, ⟨Lc131, hQ131, l131, y131, z131⟩, st131⟩ := X129.virtualBack hx (y := Y1) (z := Y1) hown (mvT hZ (tw hw 13 rfl)) (mvT hZ (tw hw 14 rfl)) (notFace_of_selects (args := #[]) (mvT hZ (tw hw 16 rfl))) (mvT hZ (tw hw 16 rfl)) (mvT hZ (tw hw 15 rfl)) (by decide) (backOf (W := 0) (rm_take0 l Z a0 hw [] b71 T129.heap n0 Zs130 (Old.keep O0 K129 hws) F_b71_spareCount_129c) hZ (tw hw 17 rfl) (tw hw 2 rfl) (by decide) (by decide)) q131a q131c (g := (mkF m 282 #[iv p1, iv p2, iv (p2 &&& (16383 : Int32)), rv b71, rv w75, rv w79, iv 1, iv 1, rv w75, .val .null, rv w75, rv w75, .val .null, rv w75, .unset] [(.ref b71)])) rfl (by rw [hml]; rfl) (Steps.refl _) (argsL := []) (rest := []) (lenOf pd_1 rfl) rfl (by show 2 * 0 + _ ≤ _; exact Nat.le_of_eq rfl) (hb hby at_282) (fun _ _ => ⟨rfl, rfl, (by decide : 4 + 1 ≤ _), (by decide : 32834 + 16384 ≤ _)⟩)
      dsimp only [Pt.U, Pt.locs, Pt.cells, Pt.slots] at X131 l131 y131 z131 st131 hQ131
      subst l131 y131 z131
      obtain ⟨w131, kw131, rfl, N131q, Kc131, P131_0, P131_1, P131_2⟩ := hQ131
      have N131 := Fr.app N129 N131q
      have E_b71_131 : Exa Z T131.heap b71 "com/example/api_policy_gateway/apipolicygateway/net/BufferPool" := E_b71_129.keep Kc131
      have E_w75_131 : Exa Z T131.heap w75 "[B" := E_w75_129.keep Kc131
      have E_w79_131 : Exa Z T131.heap w79 "[B" := E_w79_129.keep Kc131
      have L_w75_131 : LenB Z T131.heap w75 (16384 : Int32) := L_w75_129.keep Kc131 nin0
      have L_w79_131 : LenB Z T131.heap w79 (16384 : Int32) := L_w79_129.keep Kc131 nin0
      have F_b71_spare_131 : Fld Z T131.heap b71 "com/example/api_policy_gateway/apipolicygateway/net/BufferPool" "spare" "[[B" (.ref sp73) := F_b71_spare_129c.keep Kc131 nin0
      have F_b71_spareCount_131 : Fld Z T131.heap b71 "com/example/api_policy_gateway/apipolicygateway/net/BufferPool" "spareCount" "I" (.int (0 : Int32)) := F_b71_spareCount_129c.keep Kc131 nin0
      have V_sp73_131 : Arv Z T131.heap sp73 k73 (.array .byte) (64 : Int32) [.null, .null, .null] .null := V_sp73_129c.keep Kc131 nin0
      have K131 : Keep h0 T131.heap [] := K129.trans Kc131 all0
      have sz_w131 : h0.size ≤ w131 := Nat.le_trans K129.1 P131_0
      have ge_w131 : n0 ≤ w131 := Nat.le_trans Z0 sz_w131
      have E_w131_131c : Exa Z T131.heap w131 "[B" := P131_1
      have V_w131_131c : Arv Z T131.heap w131 kw131 .byte (16384 : Int32) [] (.int (0 : Int32)) := P131_2
      refine Goes.step (T2 := T131) (g2 := (mkF m 285 #[iv p1, iv p2, iv (p2 &&& (16383 : Int32)), rv b71, rv w75, rv w79, iv 1, iv 1, rv w75, .val .null, rv w75, rv w75, .val .null, rv w75, .unset] [(.ref w131)])) (fun _ hr => st131.trans hr) ?_
      refine Goes.step (T2 := T131) (g2 := (mkF m 287 #[iv p1, iv p2, iv (p2 &&& (16383 : Int32)), rv b71, rv w75, rv w79, iv 1, iv 1, rv w75, .val .null, rv w75, rv w75, .val .null, rv w75, rv w131] [])) (fun _ hr => XS.astore X131.here hx rfl (hb hby at_285) rfl rfl (l' := #[iv p1, iv p2, iv (p2 &&& (16383 : Int32)), rv b71, rv w75, rv w79, iv 1, iv 1, rv w75, .val .null, rv w75, rv w75, .val .null, rv w75, rv w131]) rfl hr) ?_
      refine Goes.step (T2 := T131) (g2 := (mkF m 289 #[iv p1, iv p2, iv (p2 &&& (16383 : Int32)), rv b71, rv w75, rv w79, iv 1, iv 1, rv w75, .val .null, rv w75, rv w75, .val .null, rv w75, rv w131] [.null])) (fun _ hr => XS.aload X131.here hx rfl (hb hby at_287) rfl rfl hr) ?_
      refine Goes.step (T2 := T131) (g2 := (mkF m 301 #[iv p1, iv p2, iv (p2 &&& (16383 : Int32)), rv b71, rv w75, rv w79, iv 1, iv 1, rv w75, .val .null, rv w75, rv w75, .val .null, rv w75, rv w131] [])) (fun _ hr => XS.ifnullYes X131.here hx rfl (pc0 := 289) (pc' := 301) rfl (hb hby at_289) rfl (by decide) (by decide) hr) ?_
      refine Goes.step (T2 := T131) (g2 := (mkF m 303 #[iv p1, iv p2, iv (p2 &&& (16383 : Int32)), rv b71, rv w75, rv w79, iv 1, iv 1, rv w75, .val .null, rv w75, rv w75, .val .null, rv w75, rv w131] [(.ref w131)])) (fun _ hr => XS.aload X131.here hx rfl (hb hby at_301) rfl rfl hr) ?_
      refine Goes.step (T2 := T131) (g2 := (mkF m 304 #[iv p1, iv p2, iv (p2 &&& (16383 : Int32)), rv b71, rv w75, rv w79, iv 1, iv 1, rv w75, .val .null, rv w75, rv w75, .val .null, rv w75, rv w131] [(.int (p2 &&& (16383 : Int32))), (.ref w131)])) (fun _ hr => XS.iloadN X131.here hx rfl (hb hby at_303) rfl  hr) ?_
      refine Goes.step (T2 := T131) (g2 := (mkF m 306 #[iv p1, iv p2, iv (p2 &&& (16383 : Int32)), rv b71, rv w75, rv w79, iv 1, iv 1, rv w75, .val .null, rv w75, rv w75, .val .null, rv w75, rv w131] [(.ref w75), (.int (p2 &&& (16383 : Int32))), (.ref w131)])) (fun _ hr => XS.aload X131.here hx rfl (hb hby at_304) rfl rfl hr) ?_
      refine Goes.step (T2 := T131) (g2 := (mkF m 308 #[iv p1, iv p2, iv (p2 &&& (16383 : Int32)), rv b71, rv w75, rv w79, iv 1, iv 1, rv w75, .val .null, rv w75, rv w75, .val .null, rv w75, rv w131] [(.ref w79), (.ref w75), (.int (p2 &&& (16383 : Int32))), (.ref w131)])) (fun _ hr => XS.aload X131.here hx rfl (hb hby at_306) rfl rfl hr) ?_
      refine Goes.step (T2 := T131) (g2 := (mkF m 310 #[iv p1, iv p2, iv (p2 &&& (16383 : Int32)), rv b71, rv w75, rv w79, iv 1, iv 1, rv w75, .val .null, rv w75, rv w75, .val .null, rv w75, rv w131] [(.ref w75), (.ref w79), (.ref w75), (.int (p2 &&& (16383 : Int32))), (.ref w131)])) (fun _ hr => XS.aload X131.here hx rfl (hb hby at_308) rfl rfl hr) ?_
      refine Goes.step (T2 := T131) (g2 := (mkF m 312 #[iv p1, iv p2, iv (p2 &&& (16383 : Int32)), rv b71, rv w75, rv w79, iv 1, iv 1, rv w75, .val .null, rv w75, rv w75, .val .null, rv w75, rv w131] [(.ref w75), (.ref w75), (.ref w79), (.ref w75), (.int (p2 &&& (16383 : Int32))), (.ref w131)])) (fun _ hr => XS.aload X131.here hx rfl (hb hby at_310) rfl rfl hr) ?_
      have Zs132 : n0 ≤ T131.heap.size := Nat.le_trans Z0 K131.1
      obtain ⟨_, _, ⟨T133, L133, k133, n133⟩, -, X133, ⟨Lc133, hQ133, l133, y133, z133⟩, st133⟩ := Jvm.LawKit.callS X131 hx (y := Y3) hown (mvT hZ (tw hw 21 rfl)) (mvT hZ (tw hw 22 rfl)) (mvT hZ (tw hw 23 rfl)) (mvT hZ (tw hw 24 rfl)) (by decide) (backOf (W := 0) (rm_fresh4 l Z a0 hw [] w131 (p2 &&& (16383 : Int32)) kw131 w75 w79 w75 w75 T131.heap n0 Zs132 (Old.keep O0 K131 hws) V_w131_131c (Ne.symm (Nat.ne_of_lt (Nat.lt_of_lt_of_le E_w75_129.lt P131_0))) (Ne.symm (Nat.ne_of_lt (Nat.lt_of_lt_of_le E_w79_129.lt P131_0))) (Ne.symm (Nat.ne_of_lt (Nat.lt_of_lt_of_le E_w75_129.lt P131_0))) (Ne.symm (Nat.ne_of_lt (Nat.lt_of_lt_of_le E_w75_129.lt P131_0))) hinb) hZ (tw hw 24 rfl) (tw hw 23 rfl) (by decide) (by decide)) (g := (mkF m 312 #[iv p1, iv p2, iv (p2 &&& (16383 : Int32)), rv b71, rv w75, rv w79, iv 1, iv 1, rv w75, .val .null, rv w75, rv w75, .val .null, rv w75, rv w131] [(.ref w75), (.ref w75), (.ref w79), (.ref w75), (.int (p2 &&& (16383 : Int32))), (.ref w131)])) rfl (by rw [hml]; rfl) (argsL := [(.ref w131), (.int (p2 &&& (16383 : Int32))), (.ref w75), (.ref w79), (.ref w75), (.ref w75)]) (rest := []) (lenOf pd_2 rfl) rfl (by show 2 * 0 + _ ≤ _; exact Nat.le_of_eq rfl) (hb hby at_312) (fun _ _ => ⟨rfl, rfl, (by decide : 5 + 0 ≤ _), (by decide : 49218 + 0 ≤ _)⟩)
      dsimp only [Pt.U, Pt.locs, Pt.cells, Pt.slots] at X133 l133 y133 z133 st133 hQ133
      subst l133 y133 z133
      obtain ⟨rfl, N133q, e133⟩ := hQ133
      have N133 := Fr.app N131 N133q
      refine Goes.step (T2 := T133) (g2 := (mkF m 315 #[iv p1, iv p2, iv (p2 &&& (16383 : Int32)), rv b71, rv w75, rv w79, iv 1, iv 1, rv w75, .val .null, rv w75, rv w75, .val .null, rv w75, rv w131] [(.int (1 : Int32))])) st133 ?_
      refine Goes.step (T2 := T133) (g2 := (mkF m 320 #[iv p1, iv p2, iv (p2 &&& (16383 : Int32)), rv b71, rv w75, rv w79, iv 1, iv 1, rv w75, .val .null, rv w75, rv w75, .val .null, rv w75, rv w131] [])) (fun _ hr => XS.ifYes X133.here hx rfl (pc0 := 315) (pc' := 320) rfl (hb hby at_315) rfl ((if0 _ _).trans (feq (by decide : ¬ ((1 : Int32) = (0 : Int32)))).2) (by decide) (by decide) hr) ?_
      refine Goes.step (T2 := T133) (g2 := (mkF m 321 #[iv p1, iv p2, iv (p2 &&& (16383 : Int32)), rv b71, rv w75, rv w79, iv 1, iv 1, rv w75, .val .null, rv w75, rv w75, .val .null, rv w75, rv w131] [(.int (1 : Int32))])) (fun _ hr => XS.iconst X133.here hx rfl (hb hby at_320) hr) ?_
      exact Goes.ret (v := some (.int (1 : Int32))) X133 (by decide) (by decide) (fun h => by rw [Bd.returns] at h; cases h) ⟨rfl, N133⟩ (fun fs hr => retN X133 hx (t := .boolean) Bd.returns (by simp) (hb hby at_321) hr)
  · rw [hk]
    refine Goes.step (T2 := T83) (g2 := (mkF m 84 #[iv p1, iv p2, iv (p2 &&& (16383 : Int32)), rv b71, rv w75, rv w79, iv 2, .unset, .unset, .unset, .unset, .unset, .unset, .unset, .unset] [])) (fun _ hr => XS.istore X83.here hx rfl (hb hby at_82) rfl (l' := #[iv p1, iv p2, iv (p2 &&& (16383 : Int32)), rv b71, rv w75, rv w79, iv 2, .unset, .unset, .unset, .unset, .unset, .unset, .unset, .unset]) rfl hr) ?_
    refine Goes.step (T2 := T83) (g2 := (mkF m 85 #[iv p1, iv p2, iv (p2 &&& (16383 : Int32)), rv b71, rv w75, rv w79, iv 2, .unset, .unset, .unset, .unset, .unset, .unset, .unset, .unset] [(.int p1)])) (fun _ hr => XS.iloadN X83.here hx rfl (hb hby at_84) rfl  hr) ?_
    refine Goes.step (T2 := T83) (g2 := (mkF m 86 #[iv p1, iv p2, iv (p2 &&& (16383 : Int32)), rv b71, rv w75, rv w79, iv 2, .unset, .unset, .unset, .unset, .unset, .unset, .unset, .unset] [(.int (4 : Int32)), (.int p1)])) (fun _ hr => XS.iconst X83.here hx rfl (hb hby at_85) hr) ?_
    refine Goes.step (T2 := T83) (g2 := (mkF m 87 #[iv p1, iv p2, iv (p2 &&& (16383 : Int32)), rv b71, rv w75, rv w79, iv 2, .unset, .unset, .unset, .unset, .unset, .unset, .unset, .unset] [(.int (p1 &&& (4 : Int32)))])) (fun _ hr => XS.iand X83.here hx rfl (hb hby at_86) rfl hr) ?_
    by_cases hc87_134 : (p1 &&& (4 : Int32)) = (0 : Int32)
    · refine Goes.step (T2 := T83) (g2 := (mkF m 94 #[iv p1, iv p2, iv (p2 &&& (16383 : Int32)), rv b71, rv w75, rv w79, iv 2, .unset, .unset, .unset, .unset, .unset, .unset, .unset, .unset] [])) (fun _ hr => XS.ifYes X83.here hx rfl (pc0 := 87) (pc' := 94) rfl (hb hby at_87) rfl ((if0 _ _).trans (teq hc87_134).1) (by decide) (by decide) hr) ?_
      refine Goes.step (T2 := T83) (g2 := (mkF m 95 #[iv p1, iv p2, iv (p2 &&& (16383 : Int32)), rv b71, rv w75, rv w79, iv 2, .unset, .unset, .unset, .unset, .unset, .unset, .unset, .unset] [(.int (0 : Int32))])) (fun _ hr => XS.iconst X83.here hx rfl (hb hby at_94) hr) ?_
      refine Goes.step (T2 := T83) (g2 := (mkF m 97 #[iv p1, iv p2, iv (p2 &&& (16383 : Int32)), rv b71, rv w75, rv w79, iv 2, iv 0, .unset, .unset, .unset, .unset, .unset, .unset, .unset] [])) (fun _ hr => XS.istore X83.here hx rfl (hb hby at_95) rfl (l' := #[iv p1, iv p2, iv (p2 &&& (16383 : Int32)), rv b71, rv w75, rv w79, iv 2, iv 0, .unset, .unset, .unset, .unset, .unset, .unset, .unset]) rfl hr) ?_
      refine Goes.step (T2 := T83) (g2 := (mkF m 98 #[iv p1, iv p2, iv (p2 &&& (16383 : Int32)), rv b71, rv w75, rv w79, iv 2, iv 0, .unset, .unset, .unset, .unset, .unset, .unset, .unset] [.null])) (fun _ hr => XS.aconstNull X83.here hx rfl (hb hby at_97) hr) ?_
      refine Goes.step (T2 := T83) (g2 := (mkF m 100 #[iv p1, iv p2, iv (p2 &&& (16383 : Int32)), rv b71, rv w75, rv w79, iv 2, iv 0, .val .null, .unset, .unset, .unset, .unset, .unset, .unset] [])) (fun _ hr => XS.astore X83.here hx rfl (hb hby at_98) rfl rfl (l' := #[iv p1, iv p2, iv (p2 &&& (16383 : Int32)), rv b71, rv w75, rv w79, iv 2, iv 0, .val .null, .unset, .unset, .unset, .unset, .unset, .unset]) rfl hr) ?_
      refine Goes.step (T2 := T83) (g2 := (mkF m 101 #[iv p1, iv p2, iv (p2 &&& (16383 : Int32)), rv b71, rv w75, rv w79, iv 2, iv 0, .val .null, .unset, .unset, .unset, .unset, .unset, .unset] [.null])) (fun _ hr => XS.aconstNull X83.here hx rfl (hb hby at_100) hr) ?_
      refine Goes.step (T2 := T83) (g2 := (mkF m 103 #[iv p1, iv p2, iv (p2 &&& (16383 : Int32)), rv b71, rv w75, rv w79, iv 2, iv 0, .val .null, .val .null, .unset, .unset, .unset, .unset, .unset] [])) (fun _ hr => XS.astore X83.here hx rfl (hb hby at_101) rfl rfl (l' := #[iv p1, iv p2, iv (p2 &&& (16383 : Int32)), rv b71, rv w75, rv w79, iv 2, iv 0, .val .null, .val .null, .unset, .unset, .unset, .unset, .unset]) rfl hr) ?_
      refine Goes.step (T2 := T83) (g2 := (mkF m 105 #[iv p1, iv p2, iv (p2 &&& (16383 : Int32)), rv b71, rv w75, rv w79, iv 2, iv 0, .val .null, .val .null, .unset, .unset, .unset, .unset, .unset] [(.int (2 : Int32))])) (fun _ hr => XS.iload X83.here hx rfl (hb hby at_103) rfl  hr) ?_
      refine Goes.step (T2 := T83) (g2 := (mkF m 106 #[iv p1, iv p2, iv (p2 &&& (16383 : Int32)), rv b71, rv w75, rv w79, iv 2, iv 0, .val .null, .val .null, .unset, .unset, .unset, .unset, .unset] [(.int (1 : Int32)), (.int (2 : Int32))])) (fun _ hr => XS.iconst X83.here hx rfl (hb hby at_105) hr) ?_
      refine Goes.step (T2 := T83) (g2 := (mkF m 122 #[iv p1, iv p2, iv (p2 &&& (16383 : Int32)), rv b71, rv w75, rv w79, iv 2, iv 0, .val .null, .val .null, .unset, .unset, .unset, .unset, .unset] [])) (fun _ hr => XS.icmpYes X83.here hx rfl (pc0 := 106) (pc' := 122) rfl (hb hby at_106) rfl (feq (by decide : ¬ ((2 : Int32) = (1 : Int32)))).2 (by decide) (by decide) hr) ?_
      refine Goes.step (T2 := T83) (g2 := (mkF m 124 #[iv p1, iv p2, iv (p2 &&& (16383 : Int32)), rv b71, rv w75, rv w79, iv 2, iv 0, .val .null, .val .null, .unset, .unset, .unset, .unset, .unset] [(.int (2 : Int32))])) (fun _ hr => XS.iload X83.here hx rfl (hb hby at_122) rfl  hr) ?_
      refine Goes.step (T2 := T83) (g2 := (mkF m 125 #[iv p1, iv p2, iv (p2 &&& (16383 : Int32)), rv b71, rv w75, rv w79, iv 2, iv 0, .val .null, .val .null, .unset, .unset, .unset, .unset, .unset] [(.int (2 : Int32)), (.int (2 : Int32))])) (fun _ hr => XS.iconst X83.here hx rfl (hb hby at_124) hr) ?_
      refine Goes.step (T2 := T83) (g2 := (mkF m 128 #[iv p1, iv p2, iv (p2 &&& (16383 : Int32)), rv b71, rv w75, rv w79, iv 2, iv 0, .val .null, .val .null, .unset, .unset, .unset, .unset, .unset] [])) (fun _ hr => XS.icmpNo X83.here hx rfl (hb hby at_125) rfl (teq (by decide : (2 : Int32) = (2 : Int32))).2 hr) ?_
      refine Goes.step (T2 := T83) (g2 := (mkF m 129 #[iv p1, iv p2, iv (p2 &&& (16383 : Int32)), rv b71, rv w75, rv w79, iv 2, iv 0, .val .null, .val .null, .unset, .unset, .unset, .unset, .unset] [(.ref b71)])) (fun _ hr => XS.aloadN X83.here hx rfl (hb hby at_128) rfl rfl hr) ?_
      refine Goes.step (T2 := T83) (g2 := (mkF m 131 #[iv p1, iv p2, iv (p2 &&& (16383 : Int32)), rv b71, rv w75, rv w79, iv 2, iv 0, .val .null, .val .null, .unset, .unset, .unset, .unset, .unset] [(.ref w75), (.ref b71)])) (fun _ hr => XS.aload X83.here hx rfl (hb hby at_129) rfl rfl hr) ?_
      have Zs135 : n0 ≤ h83.size := Nat.le_trans Z0 K83.1
      obtain ⟨cq136, kq136, q136a, q136b, q136c⟩ := isOf hZ e83 E_b71_83
      obtain ⟨_, _, ⟨T136, L136, k136, n136⟩, -, X136, ⟨Lc136, hQ136, l136, y136, z136⟩, st136⟩ := X83.virtualBack hx (y := Y2) (z := Y2) hown (mvT hZ (tw hw 25 rfl)) (mvT hZ (tw hw 26 rfl)) (notFace_of_selects (args := #[]) (mvT hZ (tw hw 28 rfl))) (mvT hZ (tw hw 28 rfl)) (mvT hZ (tw hw 27 rfl)) (by decide) (backOf (W := 0) (rm_give0 l Z a0 hw [] b71 sp73 k73 .null .null .null w75 h83 n0 Zs135 (Old.keep O0 K83 hws) E_b71_83 F_b71_spare_83 F_b71_spareCount_83 V_sp73_83 E_w75_83 L_w75_83 ge_b71 ge_sp73 (Nat.ne_of_lt (Nat.lt_of_lt_of_le A71.lt P73_0)) (Ne.symm (Nat.ne_of_lt (Nat.lt_of_lt_of_le E_b71_73.lt P75_0))) (Ne.symm (Nat.ne_of_lt (Nat.lt_of_lt_of_le V_sp73_73c.lt P75_0))) P73_4) hZ (tw hw 29 rfl) (tw hw 2 rfl) (by decide) (by decide)) q136a q136c (g := (mkF m 131 #[iv p1, iv p2, iv (p2 &&& (16383 : Int32)), rv b71, rv w75, rv w79, iv 2, iv 0, .val .null, .val .null, .unset, .unset, .unset, .unset, .unset] [(.ref w75), (.ref b71)])) rfl (by rw [hml]; rfl) (Steps.refl _) (argsL := [(.ref w75)]) (rest := []) (lenOf pd_3 rfl) rfl (by show 2 * 0 + _ ≤ _; exact Nat.le_of_eq rfl) (hb hby at_131) (fun _ _ => ⟨rfl, e83, (by decide : 4 + 0 ≤ _), (by decide : 32834 + 0 ≤ _)⟩)
      dsimp only [Pt.U, Pt.locs, Pt.cells, Pt.slots] at X136 l136 y136 z136 st136 hQ136
      subst l136 y136 z136
      obtain ⟨rfl, N136q, Kc136, P136_0, P136_1, P136_2⟩ := hQ136
      have N136 := Fr.app N83 N136q
      have E_b71_136 : Exa Z T136.heap b71 "com/example/api_policy_gateway/apipolicygateway/net/BufferPool" := E_b71_83.keep Kc136
      have E_w75_136 : Exa Z T136.heap w75 "[B" := E_w75_83.keep Kc136
      have E_w79_136 : Exa Z T136.heap w79 "[B" := E_w79_83.keep Kc136
      have L_w75_136 : LenB Z T136.heap w75 (16384 : Int32) := L_w75_83.keep Kc136 (ninS (Ne.symm (Nat.ne_of_lt (Nat.lt_of_lt_of_le E_b71_73.lt P75_0))) (ninS (Ne.symm (Nat.ne_of_lt (Nat.lt_of_lt_of_le V_sp73_73c.lt P75_0))) nin0))
      have L_w79_136 : LenB Z T136.heap w79 (16384 : Int32) := L_w79_83.keep Kc136 (ninS (Ne.symm (Nat.ne_of_lt (Nat.lt_of_lt_of_le E_b71_75.lt P79_0))) (ninS (Ne.symm (Nat.ne_of_lt (Nat.lt_of_lt_of_le V_sp73_75.lt P79_0))) nin0))
      have K136 : Keep h0 T136.heap [] := K83.trans Kc136 (allS (Or.inr sz_b71) (allS (Or.inr sz_sp73) all0))
      have F_b71_spare_136c : Fld Z T136.heap b71 "com/example/api_policy_gateway/apipolicygateway/net/BufferPool" "spare" "[[B" (.ref sp73) := P136_0
      have F_b71_spareCount_136c : Fld Z T136.heap b71 "com/example/api_policy_gateway/apipolicygateway/net/BufferPool" "spareCount" "I" (.int (1 : Int32)) := P136_1
      have V_sp73_136c : Arv Z T136.heap sp73 k73 (.array .byte) (64 : Int32) [(.ref w75), .null, .null] .null := P136_2
      refine Goes.step (T2 := T136) (g2 := (mkF m 134 #[iv p1, iv p2, iv (p2 &&& (16383 : Int32)), rv b71, rv w75, rv w79, iv 2, iv 0, .val .null, .val .null, .unset, .unset, .unset, .unset, .unset] [])) (fun _ hr => st136.trans hr) ?_
      refine Goes.step (T2 := T136) (g2 := (mkF m 135 #[iv p1, iv p2, iv (p2 &&& (16383 : Int32)), rv b71, rv w75, rv w79, iv 2, iv 0, .val .null, .val .null, .unset, .unset, .unset, .unset, .unset] [(.ref b71)])) (fun _ hr => XS.aloadN X136.here hx rfl (hb hby at_134) rfl rfl hr) ?_
      refine Goes.step (T2 := T136) (g2 := (mkF m 137 #[iv p1, iv p2, iv (p2 &&& (16383 : Int32)), rv b71, rv w75, rv w79, iv 2, iv 0, .val .null, .val .null, .unset, .unset, .unset, .unset, .unset] [(.ref w79), (.ref b71)])) (fun _ hr => XS.aload X136.here hx rfl (hb hby at_135) rfl rfl hr) ?_
      have Zs137 : n0 ≤ T136.heap.size := Nat.le_trans Z0 K136.1
      obtain ⟨cq138, kq138, q138a, q138b, q138c⟩ := isOf hZ rfl E_b71_136
      obtain ⟨_, _, ⟨T138, L138, k138, n138⟩, -, X138, ⟨Lc138, hQ138, l138, y138, z138⟩, st138⟩ := X136.virtualBack hx (y := Y2) (z := Y2) hown (mvT hZ (tw hw 25 rfl)) (mvT hZ (tw hw 26 rfl)) (notFace_of_selects (args := #[]) (mvT hZ (tw hw 28 rfl))) (mvT hZ (tw hw 28 rfl)) (mvT hZ (tw hw 27 rfl)) (by decide) (backOf (W := 0) (rm_give1 l Z a0 hw [] b71 sp73 k73 (.ref w75) .null .null w79 T136.heap n0 Zs137 (Old.keep O0 K136 hws) E_b71_136 F_b71_spare_136c F_b71_spareCount_136c V_sp73_136c E_w79_136 L_w79_136 ge_b71 ge_sp73 (Nat.ne_of_lt (Nat.lt_of_lt_of_le A71.lt P73_0)) (Ne.symm (Nat.ne_of_lt (Nat.lt_of_lt_of_le E_b71_75.lt P79_0))) (Ne.symm (Nat.ne_of_lt (Nat.lt_of_lt_of_le V_sp73_75.lt P79_0))) P73_4) hZ (tw hw 29 rfl) (tw hw 2 rfl) (by decide) (by decide)) q138a q138c (g := (mkF m 137 #[iv p1, iv p2, iv (p2 &&& (16383 : Int32)), rv b71, rv w75, rv w79, iv 2, iv 0, .val .null, .val .null, .unset, .unset, .unset, .unset, .unset] [(.ref w79), (.ref b71)])) rfl (by rw [hml]; rfl) (Steps.refl _) (argsL := [(.ref w79)]) (rest := []) (lenOf pd_3 rfl) rfl (by show 2 * 0 + _ ≤ _; exact Nat.le_of_eq rfl) (hb hby at_137) (fun _ _ => ⟨rfl, rfl, (by decide : 4 + 0 ≤ _), (by decide : 32834 + 0 ≤ _)⟩)
      dsimp only [Pt.U, Pt.locs, Pt.cells, Pt.slots] at X138 l138 y138 z138 st138 hQ138
      subst l138 y138 z138
      obtain ⟨rfl, N138q, Kc138, P138_0, P138_1, P138_2⟩ := hQ138
      have N138 := Fr.app N136 N138q
      have E_b71_138 : Exa Z T138.heap b71 "com/example/api_policy_gateway/apipolicygateway/net/BufferPool" := E_b71_136.keep Kc138
      have E_w75_138 : Exa Z T138.heap w75 "[B" := E_w75_136.keep Kc138
      have E_w79_138 : Exa Z T138.heap w79 "[B" := E_w79_136.keep Kc138
      have L_w75_138 : LenB Z T138.heap w75 (16384 : Int32) := L_w75_136.keep Kc138 (ninS (Ne.symm (Nat.ne_of_lt (Nat.lt_of_lt_of_le E_b71_73.lt P75_0))) (ninS (Ne.symm (Nat.ne_of_lt (Nat.lt_of_lt_of_le V_sp73_73c.lt P75_0))) nin0))
      have L_w79_138 : LenB Z T138.heap w79 (16384 : Int32) := L_w79_136.keep Kc138 (ninS (Ne.symm (Nat.ne_of_lt (Nat.lt_of_lt_of_le E_b71_75.lt P79_0))) (ninS (Ne.symm (Nat.ne_of_lt (Nat.lt_of_lt_of_le V_sp73_75.lt P79_0))) nin0))
      have K138 : Keep h0 T138.heap [] := K136.trans Kc138 (allS (Or.inr sz_b71) (allS (Or.inr sz_sp73) all0))
      have F_b71_spare_138c : Fld Z T138.heap b71 "com/example/api_policy_gateway/apipolicygateway/net/BufferPool" "spare" "[[B" (.ref sp73) := P138_0
      have F_b71_spareCount_138c : Fld Z T138.heap b71 "com/example/api_policy_gateway/apipolicygateway/net/BufferPool" "spareCount" "I" (.int (2 : Int32)) := P138_1
      have V_sp73_138c : Arv Z T138.heap sp73 k73 (.array .byte) (64 : Int32) [(.ref w75), (.ref w79), .null] .null := P138_2
      refine Goes.step (T2 := T138) (g2 := (mkF m 140 #[iv p1, iv p2, iv (p2 &&& (16383 : Int32)), rv b71, rv w75, rv w79, iv 2, iv 0, .val .null, .val .null, .unset, .unset, .unset, .unset, .unset] [])) (fun _ hr => st138.trans hr) ?_
      refine Goes.step (T2 := T138) (g2 := (mkF m 142 #[iv p1, iv p2, iv (p2 &&& (16383 : Int32)), rv b71, rv w75, rv w79, iv 2, iv 0, .val .null, .val .null, .unset, .unset, .unset, .unset, .unset] [(.ref w79)])) (fun _ hr => XS.aload X138.here hx rfl (hb hby at_140) rfl rfl hr) ?_
      refine Goes.step (T2 := T138) (g2 := (mkF m 144 #[iv p1, iv p2, iv (p2 &&& (16383 : Int32)), rv b71, rv w75, rv w79, iv 2, iv 0, rv w79, .val .null, .unset, .unset, .unset, .unset, .unset] [])) (fun _ hr => XS.astore X138.here hx rfl (hb hby at_142) rfl rfl (l' := #[iv p1, iv p2, iv (p2 &&& (16383 : Int32)), rv b71, rv w75, rv w79, iv 2, iv 0, rv w79, .val .null, .unset, .unset, .unset, .unset, .unset]) rfl hr) ?_
      refine Goes.step (T2 := T138) (g2 := (mkF m 146 #[iv p1, iv p2, iv (p2 &&& (16383 : Int32)), rv b71, rv w75, rv w79, iv 2, iv 0, rv w79, .val .null, .unset, .unset, .unset, .unset, .unset] [(.ref w75)])) (fun _ hr => XS.aload X138.here hx rfl (hb hby at_144) rfl rfl hr) ?_
      refine Goes.step (T2 := T138) (g2 := (mkF m 148 #[iv p1, iv p2, iv (p2 &&& (16383 : Int32)), rv b71, rv w75, rv w79, iv 2, iv 0, rv w79, rv w75, .unset, .unset, .unset, .unset, .unset] [])) (fun _ hr => XS.astore X138.here hx rfl (hb hby at_146) rfl rfl (l' := #[iv p1, iv p2, iv (p2 &&& (16383 : Int32)), rv b71, rv w75, rv w79, iv 2, iv 0, rv w79, rv w75, .unset, .unset, .unset, .unset, .unset]) rfl hr) ?_
      refine Goes.step (T2 := T138) (g2 := (mkF m 177 #[iv p1, iv p2, iv (p2 &&& (16383 : Int32)), rv b71, rv w75, rv w79, iv 2, iv 0, rv w79, rv w75, .unset, .unset, .unset, .unset, .unset] [])) (fun _ hr => XS.goto X138.here hx rfl (pc0 := 148) (pc' := 177) rfl (hb hby at_148) (by decide) (by decide) hr) ?_
      refine Goes.step (T2 := T138) (g2 := (mkF m 178 #[iv p1, iv p2, iv (p2 &&& (16383 : Int32)), rv b71, rv w75, rv w79, iv 2, iv 0, rv w79, rv w75, .unset, .unset, .unset, .unset, .unset] [(.ref b71)])) (fun _ hr => XS.aloadN X138.here hx rfl (hb hby at_177) rfl rfl hr) ?_
      have Zs139 : n0 ≤ T138.heap.size := Nat.le_trans Z0 K138.1
      obtain ⟨cq140, kq140, q140a, q140b, q140c⟩ := isOf hZ rfl E_b71_138
      obtain ⟨_, _, ⟨T140, L140, k140, n140⟩, -, X140, ⟨Lc140, hQ140, l140, y140, z140⟩, st140⟩ := X138.virtualBack hx (y := Y1) (z := Y1) hown (mvT hZ (tw hw 13 rfl)) (mvT hZ (tw hw 14 rfl)) (notFace_of_selects (args := #[]) (mvT hZ (tw hw 16 rfl))) (mvT hZ (tw hw 16 rfl)) (mvT hZ (tw hw 15 rfl)) (by decide) (backOf (W := 0) (rm_take2 l Z a0 hw [] b71 sp73 k73 (.ref w75) .null w79 T138.heap n0 Zs139 (Old.keep O0 K138 hws) E_b71_138 F_b71_spare_138c F_b71_spareCount_138c V_sp73_138c ge_b71 ge_sp73 (Nat.ne_of_lt (Nat.lt_of_lt_of_le A71.lt P73_0))) hZ (tw hw 17 rfl) (tw hw 2 rfl) (by decide) (by decide)) q140a q140c (g := (mkF m 178 #[iv p1, iv p2, iv (p2 &&& (16383 : Int32)), rv b71, rv w75, rv w79, iv 2, iv 0, rv w79, rv w75, .unset, .unset, .unset, .unset, .unset] [(.ref b71)])) rfl (by rw [hml]; rfl) (Steps.refl _) (argsL := []) (rest := []) (lenOf pd_1 rfl) rfl (by show 2 * 0 + _ ≤ _; exact Nat.le_of_eq rfl) (hb hby at_178) (fun _ _ => ⟨rfl, rfl, (by decide : 4 + 0 ≤ _), (by decide : 32834 + 0 ≤ _)⟩)
      dsimp only [Pt.U, Pt.locs, Pt.cells, Pt.slots] at X140 l140 y140 z140 st140 hQ140
      subst l140 y140 z140
      obtain ⟨rfl, N140q, Kc140, P140_0, P140_1, P140_2⟩ := hQ140
      have N140 := Fr.app N138 N140q
      have E_b71_140 : Exa Z T140.heap b71 "com/example/api_policy_gateway/apipolicygateway/net/BufferPool" := E_b71_138.keep Kc140
      have E_w75_140 : Exa Z T140.heap w75 "[B" := E_w75_138.keep Kc140
      have E_w79_140 : Exa Z T140.heap w79 "[B" := E_w79_138.keep Kc140
      have L_w75_140 : LenB Z T140.heap w75 (16384 : Int32) := L_w75_138.keep Kc140 (ninS (Ne.symm (Nat.ne_of_lt (Nat.lt_of_lt_of_le E_b71_73.lt P75_0))) (ninS (Ne.symm (Nat.ne_of_lt (Nat.lt_of_lt_of_le V_sp73_73c.lt P75_0))) nin0))
      have L_w79_140 : LenB Z T140.heap w79 (16384 : Int32) := L_w79_138.keep Kc140 (ninS (Ne.symm (Nat.ne_of_lt (Nat.lt_of_lt_of_le E_b71_75.lt P79_0))) (ninS (Ne.symm (Nat.ne_of_lt (Nat.lt_of_lt_of_le V_sp73_75.lt P79_0))) nin0))
      have K140 : Keep h0 T140.heap [] := K138.trans Kc140 (allS (Or.inr sz_b71) (allS (Or.inr sz_sp73) all0))
      have F_b71_spare_140c : Fld Z T140.heap b71 "com/example/api_policy_gateway/apipolicygateway/net/BufferPool" "spare" "[[B" (.ref sp73) := P140_0
      have F_b71_spareCount_140c : Fld Z T140.heap b71 "com/example/api_policy_gateway/apipolicygateway/net/BufferPool" "spareCount" "I" (.int (1 : Int32)) := P140_1
      have V_sp73_140c : Arv Z T140.heap sp73 k73 (.array .byte) (64 : Int32) [(.ref w75), .null, .null] .null := P140_2
      refine Goes.step (T2 := T140) (g2 := (mkF m 181 #[iv p1, iv p2, iv (p2 &&& (16383 : Int32)), rv b71, rv w75, rv w79, iv 2, iv 0, rv w79, rv w75, .unset, .unset, .unset, .unset, .unset] [(.ref w79)])) (fun _ hr => st140.trans hr) ?_
      refine Goes.step (T2 := T140) (g2 := (mkF m 183 #[iv p1, iv p2, iv (p2 &&& (16383 : Int32)), rv b71, rv w75, rv w79, iv 2, iv 0, rv w79, rv w75, rv w79, .unset, .unset, .unset, .unset] [])) (fun _ hr => XS.astore X140.here hx rfl (hb hby at_181) rfl rfl (l' := #[iv p1, iv p2, iv (p2 &&& (16383 : Int32)), rv b71, rv w75, rv w79, iv 2, iv 0, rv w79, rv w75, rv w79, .unset, .unset, .unset, .unset]) rfl hr) ?_
      refine Goes.step (T2 := T140) (g2 := (mkF m 185 #[iv p1, iv p2, iv (p2 &&& (16383 : Int32)), rv b71, rv w75, rv w79, iv 2, iv 0, rv w79, rv w75, rv w79, .unset, .unset, .unset, .unset] [(.ref w79)])) (fun _ hr => XS.aload X140.here hx rfl (hb hby at_183) rfl rfl hr) ?_
      refine Goes.step (T2 := T140) (g2 := (mkF m 188 #[iv p1, iv p2, iv (p2 &&& (16383 : Int32)), rv b71, rv w75, rv w79, iv 2, iv 0, rv w79, rv w75, rv w79, .unset, .unset, .unset, .unset] [])) (fun _ hr => XS.ifnullNo X140.here hx rfl (hb hby at_185) rfl hr) ?_
      refine Goes.step (T2 := T140) (g2 := (mkF m 190 #[iv p1, iv p2, iv (p2 &&& (16383 : Int32)), rv b71, rv w75, rv w79, iv 2, iv 0, rv w79, rv w75, rv w79, .unset, .unset, .unset, .unset] [(.ref w79)])) (fun _ hr => XS.aload X140.here hx rfl (hb hby at_188) rfl rfl hr) ?_
      refine Goes.step (T2 := T140) (g2 := (mkF m 192 #[iv p1, iv p2, iv (p2 &&& (16383 : Int32)), rv b71, rv w75, rv w79, iv 2, iv 0, rv w79, rv w75, rv w79, .unset, .unset, .unset, .unset] [(.ref w79), (.ref w79)])) (fun _ hr => XS.aload X140.here hx rfl (hb hby at_190) rfl rfl hr) ?_
      refine Goes.step (T2 := T140) (g2 := (mkF m 214 #[iv p1, iv p2, iv (p2 &&& (16383 : Int32)), rv b71, rv w75, rv w79, iv 2, iv 0, rv w79, rv w75, rv w79, .unset, .unset, .unset, .unset] [])) (fun _ hr => Jvm.RoadKit.acmp (g := (mkF m 192 #[iv p1, iv p2, iv (p2 &&& (16383 : Int32)), rv b71, rv w75, rv w79, iv 2, iv 0, rv w79, rv w75, rv w79, .unset, .unset, .unset, .unset] [(.ref w79), (.ref w79)])) X140 hx rfl rfl rfl (pc0 := 192) (pc' := 214) (same := true) rfl (hb hby at_192) rfl (decide_eq_true rfl) (by decide) (by decide) hr) ?_
      refine Goes.step (T2 := T140) (g2 := (mkF m 216 #[iv p1, iv p2, iv (p2 &&& (16383 : Int32)), rv b71, rv w75, rv w79, iv 2, iv 0, rv w79, rv w75, rv w79, .unset, .unset, .unset, .unset] [(.int (0 : Int32))])) (fun _ hr => XS.iload X140.here hx rfl (hb hby at_214) rfl  hr) ?_
      refine Goes.step (T2 := T140) (g2 := (mkF m 236 #[iv p1, iv p2, iv (p2 &&& (16383 : Int32)), rv b71, rv w75, rv w79, iv 2, iv 0, rv w79, rv w75, rv w79, .unset, .unset, .unset, .unset] [])) (fun _ hr => XS.ifYes X140.here hx rfl (pc0 := 216) (pc' := 236) rfl (hb hby at_216) rfl ((if0 _ _).trans (teq (by decide : (0 : Int32) = (0 : Int32))).1) (by decide) (by decide) hr) ?_
      refine Goes.step (T2 := T140) (g2 := (mkF m 238 #[iv p1, iv p2, iv (p2 &&& (16383 : Int32)), rv b71, rv w75, rv w79, iv 2, iv 0, rv w79, rv w75, rv w79, .unset, .unset, .unset, .unset] [(.ref w75)])) (fun _ hr => XS.aload X140.here hx rfl (hb hby at_236) rfl rfl hr) ?_
      refine Goes.step (T2 := T140) (g2 := (mkF m 240 #[iv p1, iv p2, iv (p2 &&& (16383 : Int32)), rv b71, rv w75, rv w79, iv 2, iv 0, rv w79, rv w75, rv w79, rv w75, .unset, .unset, .unset] [])) (fun _ hr => XS.astore X140.here hx rfl (hb hby at_238) rfl rfl (l' := #[iv p1, iv p2, iv (p2 &&& (16383 : Int32)), rv b71, rv w75, rv w79, iv 2, iv 0, rv w79, rv w75, rv w79, rv w75, .unset, .unset, .unset]) rfl hr) ?_
      refine Goes.step (T2 := T140) (g2 := (mkF m 241 #[iv p1, iv p2, iv (p2 &&& (16383 : Int32)), rv b71, rv w75, rv w79, iv 2, iv 0, rv w79, rv w75, rv w79, rv w75, .unset, .unset, .unset] [.null])) (fun _ hr => XS.aconstNull X140.here hx rfl (hb hby at_240) hr) ?_
      refine Goes.step (T2 := T140) (g2 := (mkF m 243 #[iv p1, iv p2, iv (p2 &&& (16383 : Int32)), rv b71, rv w75, rv w79, iv 2, iv 0, rv w79, rv w75, rv w79, rv w75, .val .null, .unset, .unset] [])) (fun _ hr => XS.astore X140.here hx rfl (hb hby at_241) rfl rfl (l' := #[iv p1, iv p2, iv (p2 &&& (16383 : Int32)), rv b71, rv w75, rv w79, iv 2, iv 0, rv w79, rv w75, rv w79, rv w75, .val .null, .unset, .unset]) rfl hr) ?_
      refine Goes.step (T2 := T140) (g2 := (mkF m 244 #[iv p1, iv p2, iv (p2 &&& (16383 : Int32)), rv b71, rv w75, rv w79, iv 2, iv 0, rv w79, rv w75, rv w79, rv w75, .val .null, .unset, .unset] [(.ref b71)])) (fun _ hr => XS.aloadN X140.here hx rfl (hb hby at_243) rfl rfl hr) ?_
      have Zs141 : n0 ≤ T140.heap.size := Nat.le_trans Z0 K140.1
      obtain ⟨cq142, kq142, q142a, q142b, q142c⟩ := isOf hZ rfl E_b71_140
      obtain ⟨_, _, ⟨T142, L142, k142, n142⟩, -, X142, ⟨Lc142, hQ142, l142, y142, z142⟩, st142⟩ := X140.virtualBack hx (y := Y1) (z := Y1) hown (mvT hZ (tw hw 13 rfl)) (mvT hZ (tw hw 14 rfl)) (notFace_of_selects (args := #[]) (mvT hZ (tw hw 16 rfl))) (mvT hZ (tw hw 16 rfl)) (mvT hZ (tw hw 15 rfl)) (by decide) (backOf (W := 0) (rm_take1 l Z a0 hw [] b71 sp73 k73 .null .null w75 T140.heap n0 Zs141 (Old.keep O0 K140 hws) E_b71_140 F_b71_spare_140c F_b71_spareCount_140c V_sp73_140c ge_b71 ge_sp73 (Nat.ne_of_lt (Nat.lt_of_lt_of_le A71.lt P73_0))) hZ (tw hw 17 rfl) (tw hw 2 rfl) (by decide) (by decide)) q142a q142c (g := (mkF m 244 #[iv p1, iv p2, iv (p2 &&& (16383 : Int32)), rv b71, rv w75, rv w79, iv 2, iv 0, rv w79, rv w75, rv w79, rv w75, .val .null, .unset, .unset] [(.ref b71)])) rfl (by rw [hml]; rfl) (Steps.refl _) (argsL := []) (rest := []) (lenOf pd_1 rfl) rfl (by show 2 * 0 + _ ≤ _; exact Nat.le_of_eq rfl) (hb hby at_244) (fun _ _ => ⟨rfl, rfl, (by decide : 4 + 0 ≤ _), (by decide : 32834 + 0 ≤ _)⟩)
      dsimp only [Pt.U, Pt.locs, Pt.cells, Pt.slots] at X142 l142 y142 z142 st142 hQ142
      subst l142 y142 z142
      obtain ⟨rfl, N142q, Kc142, P142_0, P142_1, P142_2⟩ := hQ142
      have N142 := Fr.app N140 N142q
      have E_b71_142 : Exa Z T142.heap b71 "com/example/api_policy_gateway/apipolicygateway/net/BufferPool" := E_b71_140.keep Kc142
      have E_w75_142 : Exa Z T142.heap w75 "[B" := E_w75_140.keep Kc142
      have E_w79_142 : Exa Z T142.heap w79 "[B" := E_w79_140.keep Kc142
      have L_w75_142 : LenB Z T142.heap w75 (16384 : Int32) := L_w75_140.keep Kc142 (ninS (Ne.symm (Nat.ne_of_lt (Nat.lt_of_lt_of_le E_b71_73.lt P75_0))) (ninS (Ne.symm (Nat.ne_of_lt (Nat.lt_of_lt_of_le V_sp73_73c.lt P75_0))) nin0))
      have L_w79_142 : LenB Z T142.heap w79 (16384 : Int32) := L_w79_140.keep Kc142 (ninS (Ne.symm (Nat.ne_of_lt (Nat.lt_of_lt_of_le E_b71_75.lt P79_0))) (ninS (Ne.symm (Nat.ne_of_lt (Nat.lt_of_lt_of_le V_sp73_75.lt P79_0))) nin0))
      have K142 : Keep h0 T142.heap [] := K140.trans Kc142 (allS (Or.inr sz_b71) (allS (Or.inr sz_sp73) all0))
      have F_b71_spare_142c : Fld Z T142.heap b71 "com/example/api_policy_gateway/apipolicygateway/net/BufferPool" "spare" "[[B" (.ref sp73) := P142_0
      have F_b71_spareCount_142c : Fld Z T142.heap b71 "com/example/api_policy_gateway/apipolicygateway/net/BufferPool" "spareCount" "I" (.int (0 : Int32)) := P142_1
      have V_sp73_142c : Arv Z T142.heap sp73 k73 (.array .byte) (64 : Int32) [.null, .null, .null] .null := P142_2
      refine Goes.step (T2 := T142) (g2 := (mkF m 247 #[iv p1, iv p2, iv (p2 &&& (16383 : Int32)), rv b71, rv w75, rv w79, iv 2, iv 0, rv w79, rv w75, rv w79, rv w75, .val .null, .unset, .unset] [(.ref w75)])) (fun _ hr => st142.trans hr) ?_
      refine Goes.step (T2 := T142) (g2 := (mkF m 249 #[iv p1, iv p2, iv (p2 &&& (16383 : Int32)), rv b71, rv w75, rv w79, iv 2, iv 0, rv w79, rv w75, rv w79, rv w75, .val .null, rv w75, .unset] [])) (fun _ hr => XS.astore X142.here hx rfl (hb hby at_247) rfl rfl (l' := #[iv p1, iv p2, iv (p2 &&& (16383 : Int32)), rv b71, rv w75, rv w79, iv 2, iv 0, rv w79, rv w75, rv w79, rv w75, .val .null, rv w75, .unset]) rfl hr) ?_
      refine Goes.step (T2 := T142) (g2 := (mkF m 251 #[iv p1, iv p2, iv (p2 &&& (16383 : Int32)), rv b71, rv w75, rv w79, iv 2, iv 0, rv w79, rv w75, rv w79, rv w75, .val .null, rv w75, .unset] [(.ref w75)])) (fun _ hr => XS.aload X142.here hx rfl (hb hby at_249) rfl rfl hr) ?_
      refine Goes.step (T2 := T142) (g2 := (mkF m 254 #[iv p1, iv p2, iv (p2 &&& (16383 : Int32)), rv b71, rv w75, rv w79, iv 2, iv 0, rv w79, rv w75, rv w79, rv w75, .val .null, rv w75, .unset] [])) (fun _ hr => XS.ifnullNo X142.here hx rfl (hb hby at_251) rfl hr) ?_
      refine Goes.step (T2 := T142) (g2 := (mkF m 256 #[iv p1, iv p2, iv (p2 &&& (16383 : Int32)), rv b71, rv w75, rv w79, iv 2, iv 0, rv w79, rv w75, rv w79, rv w75, .val .null, rv w75, .unset] [(.ref w75)])) (fun _ hr => XS.aload X142.here hx rfl (hb hby at_254) rfl rfl hr) ?_
      refine Goes.step (T2 := T142) (g2 := (mkF m 258 #[iv p1, iv p2, iv (p2 &&& (16383 : Int32)), rv b71, rv w75, rv w79, iv 2, iv 0, rv w79, rv w75, rv w79, rv w75, .val .null, rv w75, .unset] [(.ref w75), (.ref w75)])) (fun _ hr => XS.aload X142.here hx rfl (hb hby at_256) rfl rfl hr) ?_
      refine Goes.step (T2 := T142) (g2 := (mkF m 281 #[iv p1, iv p2, iv (p2 &&& (16383 : Int32)), rv b71, rv w75, rv w79, iv 2, iv 0, rv w79, rv w75, rv w79, rv w75, .val .null, rv w75, .unset] [])) (fun _ hr => Jvm.RoadKit.acmp (g := (mkF m 258 #[iv p1, iv p2, iv (p2 &&& (16383 : Int32)), rv b71, rv w75, rv w79, iv 2, iv 0, rv w79, rv w75, rv w79, rv w75, .val .null, rv w75, .unset] [(.ref w75), (.ref w75)])) X142 hx rfl rfl rfl (pc0 := 258) (pc' := 281) (same := true) rfl (hb hby at_258) rfl (decide_eq_true rfl) (by decide) (by decide) hr) ?_
      refine Goes.step (T2 := T142) (g2 := (mkF m 282 #[iv p1, iv p2, iv (p2 &&& (16383 : Int32)), rv b71, rv w75, rv w79, iv 2, iv 0, rv w79, rv w75, rv w79, rv w75, .val .null, rv w75, .unset] [(.ref b71)])) (fun _ hr => XS.aloadN X142.here hx rfl (hb hby at_281) rfl rfl hr) ?_
      have Zs143 : n0 ≤ T142.heap.size := Nat.le_trans Z0 K142.1
      obtain ⟨cq144, kq144, q144a, q144b, q144c⟩ := isOf hZ rfl E_b71_142
      obtain ⟨_, _, ⟨T144, L144, k144, n144⟩, -, X144, ⟨Lc144, hQ144, l144, y144, z144⟩, st144⟩ := X142.virtualBack hx (y := Y1) (z := Y1) hown (mvT hZ (tw hw 13 rfl)) (mvT hZ (tw hw 14 rfl)) (notFace_of_selects (args := #[]) (mvT hZ (tw hw 16 rfl))) (mvT hZ (tw hw 16 rfl)) (mvT hZ (tw hw 15 rfl)) (by decide) (backOf (W := 0) (rm_take0 l Z a0 hw [] b71 T142.heap n0 Zs143 (Old.keep O0 K142 hws) F_b71_spareCount_142c) hZ (tw hw 17 rfl) (tw hw 2 rfl) (by decide) (by decide)) q144a q144c (g := (mkF m 282 #[iv p1, iv p2, iv (p2 &&& (16383 : Int32)), rv b71, rv w75, rv w79, iv 2, iv 0, rv w79, rv w75, rv w79, rv w75, .val .null, rv w75, .unset] [(.ref b71)])) rfl (by rw [hml]; rfl) (Steps.refl _) (argsL := []) (rest := []) (lenOf pd_1 rfl) rfl (by show 2 * 0 + _ ≤ _; exact Nat.le_of_eq rfl) (hb hby at_282) (fun _ _ => ⟨rfl, rfl, (by decide : 4 + 1 ≤ _), (by decide : 32834 + 16384 ≤ _)⟩)
      dsimp only [Pt.U, Pt.locs, Pt.cells, Pt.slots] at X144 l144 y144 z144 st144 hQ144
      subst l144 y144 z144
      obtain ⟨w144, kw144, rfl, N144q, Kc144, P144_0, P144_1, P144_2⟩ := hQ144
      have N144 := Fr.app N142 N144q
      have E_b71_144 : Exa Z T144.heap b71 "com/example/api_policy_gateway/apipolicygateway/net/BufferPool" := E_b71_142.keep Kc144
      have E_w75_144 : Exa Z T144.heap w75 "[B" := E_w75_142.keep Kc144
      have E_w79_144 : Exa Z T144.heap w79 "[B" := E_w79_142.keep Kc144
      have L_w75_144 : LenB Z T144.heap w75 (16384 : Int32) := L_w75_142.keep Kc144 nin0
      have L_w79_144 : LenB Z T144.heap w79 (16384 : Int32) := L_w79_142.keep Kc144 nin0
      have F_b71_spare_144 : Fld Z T144.heap b71 "com/example/api_policy_gateway/apipolicygateway/net/BufferPool" "spare" "[[B" (.ref sp73) := F_b71_spare_142c.keep Kc144 nin0
      have F_b71_spareCount_144 : Fld Z T144.heap b71 "com/example/api_policy_gateway/apipolicygateway/net/BufferPool" "spareCount" "I" (.int (0 : Int32)) := F_b71_spareCount_142c.keep Kc144 nin0
      have V_sp73_144 : Arv Z T144.heap sp73 k73 (.array .byte) (64 : Int32) [.null, .null, .null] .null := V_sp73_142c.keep Kc144 nin0
      have K144 : Keep h0 T144.heap [] := K142.trans Kc144 all0
      have sz_w144 : h0.size ≤ w144 := Nat.le_trans K142.1 P144_0
      have ge_w144 : n0 ≤ w144 := Nat.le_trans Z0 sz_w144
      have E_w144_144c : Exa Z T144.heap w144 "[B" := P144_1
      have V_w144_144c : Arv Z T144.heap w144 kw144 .byte (16384 : Int32) [] (.int (0 : Int32)) := P144_2
      refine Goes.step (T2 := T144) (g2 := (mkF m 285 #[iv p1, iv p2, iv (p2 &&& (16383 : Int32)), rv b71, rv w75, rv w79, iv 2, iv 0, rv w79, rv w75, rv w79, rv w75, .val .null, rv w75, .unset] [(.ref w144)])) (fun _ hr => st144.trans hr) ?_
      refine Goes.step (T2 := T144) (g2 := (mkF m 287 #[iv p1, iv p2, iv (p2 &&& (16383 : Int32)), rv b71, rv w75, rv w79, iv 2, iv 0, rv w79, rv w75, rv w79, rv w75, .val .null, rv w75, rv w144] [])) (fun _ hr => XS.astore X144.here hx rfl (hb hby at_285) rfl rfl (l' := #[iv p1, iv p2, iv (p2 &&& (16383 : Int32)), rv b71, rv w75, rv w79, iv 2, iv 0, rv w79, rv w75, rv w79, rv w75, .val .null, rv w75, rv w144]) rfl hr) ?_
      refine Goes.step (T2 := T144) (g2 := (mkF m 289 #[iv p1, iv p2, iv (p2 &&& (16383 : Int32)), rv b71, rv w75, rv w79, iv 2, iv 0, rv w79, rv w75, rv w79, rv w75, .val .null, rv w75, rv w144] [.null])) (fun _ hr => XS.aload X144.here hx rfl (hb hby at_287) rfl rfl hr) ?_
      refine Goes.step (T2 := T144) (g2 := (mkF m 301 #[iv p1, iv p2, iv (p2 &&& (16383 : Int32)), rv b71, rv w75, rv w79, iv 2, iv 0, rv w79, rv w75, rv w79, rv w75, .val .null, rv w75, rv w144] [])) (fun _ hr => XS.ifnullYes X144.here hx rfl (pc0 := 289) (pc' := 301) rfl (hb hby at_289) rfl (by decide) (by decide) hr) ?_
      refine Goes.step (T2 := T144) (g2 := (mkF m 303 #[iv p1, iv p2, iv (p2 &&& (16383 : Int32)), rv b71, rv w75, rv w79, iv 2, iv 0, rv w79, rv w75, rv w79, rv w75, .val .null, rv w75, rv w144] [(.ref w144)])) (fun _ hr => XS.aload X144.here hx rfl (hb hby at_301) rfl rfl hr) ?_
      refine Goes.step (T2 := T144) (g2 := (mkF m 304 #[iv p1, iv p2, iv (p2 &&& (16383 : Int32)), rv b71, rv w75, rv w79, iv 2, iv 0, rv w79, rv w75, rv w79, rv w75, .val .null, rv w75, rv w144] [(.int (p2 &&& (16383 : Int32))), (.ref w144)])) (fun _ hr => XS.iloadN X144.here hx rfl (hb hby at_303) rfl  hr) ?_
      refine Goes.step (T2 := T144) (g2 := (mkF m 306 #[iv p1, iv p2, iv (p2 &&& (16383 : Int32)), rv b71, rv w75, rv w79, iv 2, iv 0, rv w79, rv w75, rv w79, rv w75, .val .null, rv w75, rv w144] [(.ref w75), (.int (p2 &&& (16383 : Int32))), (.ref w144)])) (fun _ hr => XS.aload X144.here hx rfl (hb hby at_304) rfl rfl hr) ?_
      refine Goes.step (T2 := T144) (g2 := (mkF m 308 #[iv p1, iv p2, iv (p2 &&& (16383 : Int32)), rv b71, rv w75, rv w79, iv 2, iv 0, rv w79, rv w75, rv w79, rv w75, .val .null, rv w75, rv w144] [(.ref w79), (.ref w75), (.int (p2 &&& (16383 : Int32))), (.ref w144)])) (fun _ hr => XS.aload X144.here hx rfl (hb hby at_306) rfl rfl hr) ?_
      refine Goes.step (T2 := T144) (g2 := (mkF m 310 #[iv p1, iv p2, iv (p2 &&& (16383 : Int32)), rv b71, rv w75, rv w79, iv 2, iv 0, rv w79, rv w75, rv w79, rv w75, .val .null, rv w75, rv w144] [(.ref w79), (.ref w79), (.ref w75), (.int (p2 &&& (16383 : Int32))), (.ref w144)])) (fun _ hr => XS.aload X144.here hx rfl (hb hby at_308) rfl rfl hr) ?_
      refine Goes.step (T2 := T144) (g2 := (mkF m 312 #[iv p1, iv p2, iv (p2 &&& (16383 : Int32)), rv b71, rv w75, rv w79, iv 2, iv 0, rv w79, rv w75, rv w79, rv w75, .val .null, rv w75, rv w144] [(.ref w75), (.ref w79), (.ref w79), (.ref w75), (.int (p2 &&& (16383 : Int32))), (.ref w144)])) (fun _ hr => XS.aload X144.here hx rfl (hb hby at_310) rfl rfl hr) ?_
      have Zs145 : n0 ≤ T144.heap.size := Nat.le_trans Z0 K144.1
      obtain ⟨_, _, ⟨T146, L146, k146, n146⟩, -, X146, ⟨Lc146, hQ146, l146, y146, z146⟩, st146⟩ := Jvm.LawKit.callS X144 hx (y := Y3) hown (mvT hZ (tw hw 21 rfl)) (mvT hZ (tw hw 22 rfl)) (mvT hZ (tw hw 23 rfl)) (mvT hZ (tw hw 24 rfl)) (by decide) (backOf (W := 0) (rm_fresh4 l Z a0 hw [] w144 (p2 &&& (16383 : Int32)) kw144 w75 w79 w79 w75 T144.heap n0 Zs145 (Old.keep O0 K144 hws) V_w144_144c (Ne.symm (Nat.ne_of_lt (Nat.lt_of_lt_of_le E_w75_142.lt P144_0))) (Ne.symm (Nat.ne_of_lt (Nat.lt_of_lt_of_le E_w79_142.lt P144_0))) (Ne.symm (Nat.ne_of_lt (Nat.lt_of_lt_of_le E_w79_142.lt P144_0))) (Ne.symm (Nat.ne_of_lt (Nat.lt_of_lt_of_le E_w75_142.lt P144_0))) hinb) hZ (tw hw 24 rfl) (tw hw 23 rfl) (by decide) (by decide)) (g := (mkF m 312 #[iv p1, iv p2, iv (p2 &&& (16383 : Int32)), rv b71, rv w75, rv w79, iv 2, iv 0, rv w79, rv w75, rv w79, rv w75, .val .null, rv w75, rv w144] [(.ref w75), (.ref w79), (.ref w79), (.ref w75), (.int (p2 &&& (16383 : Int32))), (.ref w144)])) rfl (by rw [hml]; rfl) (argsL := [(.ref w144), (.int (p2 &&& (16383 : Int32))), (.ref w75), (.ref w79), (.ref w79), (.ref w75)]) (rest := []) (lenOf pd_2 rfl) rfl (by show 2 * 0 + _ ≤ _; exact Nat.le_of_eq rfl) (hb hby at_312) (fun _ _ => ⟨rfl, rfl, (by decide : 5 + 0 ≤ _), (by decide : 49218 + 0 ≤ _)⟩)
      dsimp only [Pt.U, Pt.locs, Pt.cells, Pt.slots] at X146 l146 y146 z146 st146 hQ146
      subst l146 y146 z146
      obtain ⟨rfl, N146q, e146⟩ := hQ146
      have N146 := Fr.app N144 N146q
      refine Goes.step (T2 := T146) (g2 := (mkF m 315 #[iv p1, iv p2, iv (p2 &&& (16383 : Int32)), rv b71, rv w75, rv w79, iv 2, iv 0, rv w79, rv w75, rv w79, rv w75, .val .null, rv w75, rv w144] [(.int (1 : Int32))])) st146 ?_
      refine Goes.step (T2 := T146) (g2 := (mkF m 320 #[iv p1, iv p2, iv (p2 &&& (16383 : Int32)), rv b71, rv w75, rv w79, iv 2, iv 0, rv w79, rv w75, rv w79, rv w75, .val .null, rv w75, rv w144] [])) (fun _ hr => XS.ifYes X146.here hx rfl (pc0 := 315) (pc' := 320) rfl (hb hby at_315) rfl ((if0 _ _).trans (feq (by decide : ¬ ((1 : Int32) = (0 : Int32)))).2) (by decide) (by decide) hr) ?_
      refine Goes.step (T2 := T146) (g2 := (mkF m 321 #[iv p1, iv p2, iv (p2 &&& (16383 : Int32)), rv b71, rv w75, rv w79, iv 2, iv 0, rv w79, rv w75, rv w79, rv w75, .val .null, rv w75, rv w144] [(.int (1 : Int32))])) (fun _ hr => XS.iconst X146.here hx rfl (hb hby at_320) hr) ?_
      exact Goes.ret (v := some (.int (1 : Int32))) X146 (by decide) (by decide) (fun h => by rw [Bd.returns] at h; cases h) ⟨rfl, N146⟩ (fun fs hr => retN X146 hx (t := .boolean) Bd.returns (by simp) (hb hby at_321) hr)
    · refine Goes.step (T2 := T83) (g2 := (mkF m 90 #[iv p1, iv p2, iv (p2 &&& (16383 : Int32)), rv b71, rv w75, rv w79, iv 2, .unset, .unset, .unset, .unset, .unset, .unset, .unset, .unset] [])) (fun _ hr => XS.ifNo X83.here hx rfl (hb hby at_87) rfl ((if0 _ _).trans (feq hc87_134).1) hr) ?_
      refine Goes.step (T2 := T83) (g2 := (mkF m 91 #[iv p1, iv p2, iv (p2 &&& (16383 : Int32)), rv b71, rv w75, rv w79, iv 2, .unset, .unset, .unset, .unset, .unset, .unset, .unset, .unset] [(.int (1 : Int32))])) (fun _ hr => XS.iconst X83.here hx rfl (hb hby at_90) hr) ?_
      refine Goes.step (T2 := T83) (g2 := (mkF m 95 #[iv p1, iv p2, iv (p2 &&& (16383 : Int32)), rv b71, rv w75, rv w79, iv 2, .unset, .unset, .unset, .unset, .unset, .unset, .unset, .unset] [(.int (1 : Int32))])) (fun _ hr => XS.goto X83.here hx rfl (pc0 := 91) (pc' := 95) rfl (hb hby at_91) (by decide) (by decide) hr) ?_
      refine Goes.step (T2 := T83) (g2 := (mkF m 97 #[iv p1, iv p2, iv (p2 &&& (16383 : Int32)), rv b71, rv w75, rv w79, iv 2, iv 1, .unset, .unset, .unset, .unset, .unset, .unset, .unset] [])) (fun _ hr => XS.istore X83.here hx rfl (hb hby at_95) rfl (l' := #[iv p1, iv p2, iv (p2 &&& (16383 : Int32)), rv b71, rv w75, rv w79, iv 2, iv 1, .unset, .unset, .unset, .unset, .unset, .unset, .unset]) rfl hr) ?_
      refine Goes.step (T2 := T83) (g2 := (mkF m 98 #[iv p1, iv p2, iv (p2 &&& (16383 : Int32)), rv b71, rv w75, rv w79, iv 2, iv 1, .unset, .unset, .unset, .unset, .unset, .unset, .unset] [.null])) (fun _ hr => XS.aconstNull X83.here hx rfl (hb hby at_97) hr) ?_
      refine Goes.step (T2 := T83) (g2 := (mkF m 100 #[iv p1, iv p2, iv (p2 &&& (16383 : Int32)), rv b71, rv w75, rv w79, iv 2, iv 1, .val .null, .unset, .unset, .unset, .unset, .unset, .unset] [])) (fun _ hr => XS.astore X83.here hx rfl (hb hby at_98) rfl rfl (l' := #[iv p1, iv p2, iv (p2 &&& (16383 : Int32)), rv b71, rv w75, rv w79, iv 2, iv 1, .val .null, .unset, .unset, .unset, .unset, .unset, .unset]) rfl hr) ?_
      refine Goes.step (T2 := T83) (g2 := (mkF m 101 #[iv p1, iv p2, iv (p2 &&& (16383 : Int32)), rv b71, rv w75, rv w79, iv 2, iv 1, .val .null, .unset, .unset, .unset, .unset, .unset, .unset] [.null])) (fun _ hr => XS.aconstNull X83.here hx rfl (hb hby at_100) hr) ?_
      refine Goes.step (T2 := T83) (g2 := (mkF m 103 #[iv p1, iv p2, iv (p2 &&& (16383 : Int32)), rv b71, rv w75, rv w79, iv 2, iv 1, .val .null, .val .null, .unset, .unset, .unset, .unset, .unset] [])) (fun _ hr => XS.astore X83.here hx rfl (hb hby at_101) rfl rfl (l' := #[iv p1, iv p2, iv (p2 &&& (16383 : Int32)), rv b71, rv w75, rv w79, iv 2, iv 1, .val .null, .val .null, .unset, .unset, .unset, .unset, .unset]) rfl hr) ?_
      refine Goes.step (T2 := T83) (g2 := (mkF m 105 #[iv p1, iv p2, iv (p2 &&& (16383 : Int32)), rv b71, rv w75, rv w79, iv 2, iv 1, .val .null, .val .null, .unset, .unset, .unset, .unset, .unset] [(.int (2 : Int32))])) (fun _ hr => XS.iload X83.here hx rfl (hb hby at_103) rfl  hr) ?_
      refine Goes.step (T2 := T83) (g2 := (mkF m 106 #[iv p1, iv p2, iv (p2 &&& (16383 : Int32)), rv b71, rv w75, rv w79, iv 2, iv 1, .val .null, .val .null, .unset, .unset, .unset, .unset, .unset] [(.int (1 : Int32)), (.int (2 : Int32))])) (fun _ hr => XS.iconst X83.here hx rfl (hb hby at_105) hr) ?_
      refine Goes.step (T2 := T83) (g2 := (mkF m 122 #[iv p1, iv p2, iv (p2 &&& (16383 : Int32)), rv b71, rv w75, rv w79, iv 2, iv 1, .val .null, .val .null, .unset, .unset, .unset, .unset, .unset] [])) (fun _ hr => XS.icmpYes X83.here hx rfl (pc0 := 106) (pc' := 122) rfl (hb hby at_106) rfl (feq (by decide : ¬ ((2 : Int32) = (1 : Int32)))).2 (by decide) (by decide) hr) ?_
      refine Goes.step (T2 := T83) (g2 := (mkF m 124 #[iv p1, iv p2, iv (p2 &&& (16383 : Int32)), rv b71, rv w75, rv w79, iv 2, iv 1, .val .null, .val .null, .unset, .unset, .unset, .unset, .unset] [(.int (2 : Int32))])) (fun _ hr => XS.iload X83.here hx rfl (hb hby at_122) rfl  hr) ?_
      refine Goes.step (T2 := T83) (g2 := (mkF m 125 #[iv p1, iv p2, iv (p2 &&& (16383 : Int32)), rv b71, rv w75, rv w79, iv 2, iv 1, .val .null, .val .null, .unset, .unset, .unset, .unset, .unset] [(.int (2 : Int32)), (.int (2 : Int32))])) (fun _ hr => XS.iconst X83.here hx rfl (hb hby at_124) hr) ?_
      refine Goes.step (T2 := T83) (g2 := (mkF m 128 #[iv p1, iv p2, iv (p2 &&& (16383 : Int32)), rv b71, rv w75, rv w79, iv 2, iv 1, .val .null, .val .null, .unset, .unset, .unset, .unset, .unset] [])) (fun _ hr => XS.icmpNo X83.here hx rfl (hb hby at_125) rfl (teq (by decide : (2 : Int32) = (2 : Int32))).2 hr) ?_
      refine Goes.step (T2 := T83) (g2 := (mkF m 129 #[iv p1, iv p2, iv (p2 &&& (16383 : Int32)), rv b71, rv w75, rv w79, iv 2, iv 1, .val .null, .val .null, .unset, .unset, .unset, .unset, .unset] [(.ref b71)])) (fun _ hr => XS.aloadN X83.here hx rfl (hb hby at_128) rfl rfl hr) ?_
      refine Goes.step (T2 := T83) (g2 := (mkF m 131 #[iv p1, iv p2, iv (p2 &&& (16383 : Int32)), rv b71, rv w75, rv w79, iv 2, iv 1, .val .null, .val .null, .unset, .unset, .unset, .unset, .unset] [(.ref w75), (.ref b71)])) (fun _ hr => XS.aload X83.here hx rfl (hb hby at_129) rfl rfl hr) ?_
      have Zs147 : n0 ≤ h83.size := Nat.le_trans Z0 K83.1
      obtain ⟨cq148, kq148, q148a, q148b, q148c⟩ := isOf hZ e83 E_b71_83
      obtain ⟨_, _, ⟨T148, L148, k148, n148⟩, -, X148, ⟨Lc148, hQ148, l148, y148, z148⟩, st148⟩ := X83.virtualBack hx (y := Y2) (z := Y2) hown (mvT hZ (tw hw 25 rfl)) (mvT hZ (tw hw 26 rfl)) (notFace_of_selects (args := #[]) (mvT hZ (tw hw 28 rfl))) (mvT hZ (tw hw 28 rfl)) (mvT hZ (tw hw 27 rfl)) (by decide) (backOf (W := 0) (rm_give0 l Z a0 hw [] b71 sp73 k73 .null .null .null w75 h83 n0 Zs147 (Old.keep O0 K83 hws) E_b71_83 F_b71_spare_83 F_b71_spareCount_83 V_sp73_83 E_w75_83 L_w75_83 ge_b71 ge_sp73 (Nat.ne_of_lt (Nat.lt_of_lt_of_le A71.lt P73_0)) (Ne.symm (Nat.ne_of_lt (Nat.lt_of_lt_of_le E_b71_73.lt P75_0))) (Ne.symm (Nat.ne_of_lt (Nat.lt_of_lt_of_le V_sp73_73c.lt P75_0))) P73_4) hZ (tw hw 29 rfl) (tw hw 2 rfl) (by decide) (by decide)) q148a q148c (g := (mkF m 131 #[iv p1, iv p2, iv (p2 &&& (16383 : Int32)), rv b71, rv w75, rv w79, iv 2, iv 1, .val .null, .val .null, .unset, .unset, .unset, .unset, .unset] [(.ref w75), (.ref b71)])) rfl (by rw [hml]; rfl) (Steps.refl _) (argsL := [(.ref w75)]) (rest := []) (lenOf pd_3 rfl) rfl (by show 2 * 0 + _ ≤ _; exact Nat.le_of_eq rfl) (hb hby at_131) (fun _ _ => ⟨rfl, e83, (by decide : 4 + 0 ≤ _), (by decide : 32834 + 0 ≤ _)⟩)
      dsimp only [Pt.U, Pt.locs, Pt.cells, Pt.slots] at X148 l148 y148 z148 st148 hQ148
      subst l148 y148 z148
      obtain ⟨rfl, N148q, Kc148, P148_0, P148_1, P148_2⟩ := hQ148
      have N148 := Fr.app N83 N148q
      have E_b71_148 : Exa Z T148.heap b71 "com/example/api_policy_gateway/apipolicygateway/net/BufferPool" := E_b71_83.keep Kc148
      have E_w75_148 : Exa Z T148.heap w75 "[B" := E_w75_83.keep Kc148
      have E_w79_148 : Exa Z T148.heap w79 "[B" := E_w79_83.keep Kc148
      have L_w75_148 : LenB Z T148.heap w75 (16384 : Int32) := L_w75_83.keep Kc148 (ninS (Ne.symm (Nat.ne_of_lt (Nat.lt_of_lt_of_le E_b71_73.lt P75_0))) (ninS (Ne.symm (Nat.ne_of_lt (Nat.lt_of_lt_of_le V_sp73_73c.lt P75_0))) nin0))
      have L_w79_148 : LenB Z T148.heap w79 (16384 : Int32) := L_w79_83.keep Kc148 (ninS (Ne.symm (Nat.ne_of_lt (Nat.lt_of_lt_of_le E_b71_75.lt P79_0))) (ninS (Ne.symm (Nat.ne_of_lt (Nat.lt_of_lt_of_le V_sp73_75.lt P79_0))) nin0))
      have K148 : Keep h0 T148.heap [] := K83.trans Kc148 (allS (Or.inr sz_b71) (allS (Or.inr sz_sp73) all0))
      have F_b71_spare_148c : Fld Z T148.heap b71 "com/example/api_policy_gateway/apipolicygateway/net/BufferPool" "spare" "[[B" (.ref sp73) := P148_0
      have F_b71_spareCount_148c : Fld Z T148.heap b71 "com/example/api_policy_gateway/apipolicygateway/net/BufferPool" "spareCount" "I" (.int (1 : Int32)) := P148_1
      have V_sp73_148c : Arv Z T148.heap sp73 k73 (.array .byte) (64 : Int32) [(.ref w75), .null, .null] .null := P148_2
      refine Goes.step (T2 := T148) (g2 := (mkF m 134 #[iv p1, iv p2, iv (p2 &&& (16383 : Int32)), rv b71, rv w75, rv w79, iv 2, iv 1, .val .null, .val .null, .unset, .unset, .unset, .unset, .unset] [])) (fun _ hr => st148.trans hr) ?_
      refine Goes.step (T2 := T148) (g2 := (mkF m 135 #[iv p1, iv p2, iv (p2 &&& (16383 : Int32)), rv b71, rv w75, rv w79, iv 2, iv 1, .val .null, .val .null, .unset, .unset, .unset, .unset, .unset] [(.ref b71)])) (fun _ hr => XS.aloadN X148.here hx rfl (hb hby at_134) rfl rfl hr) ?_
      refine Goes.step (T2 := T148) (g2 := (mkF m 137 #[iv p1, iv p2, iv (p2 &&& (16383 : Int32)), rv b71, rv w75, rv w79, iv 2, iv 1, .val .null, .val .null, .unset, .unset, .unset, .unset, .unset] [(.ref w79), (.ref b71)])) (fun _ hr => XS.aload X148.here hx rfl (hb hby at_135) rfl rfl hr) ?_
      have Zs149 : n0 ≤ T148.heap.size := Nat.le_trans Z0 K148.1
      obtain ⟨cq150, kq150, q150a, q150b, q150c⟩ := isOf hZ rfl E_b71_148
      obtain ⟨_, _, ⟨T150, L150, k150, n150⟩, -, X150, ⟨Lc150, hQ150, l150, y150, z150⟩, st150⟩ := X148.virtualBack hx (y := Y2) (z := Y2) hown (mvT hZ (tw hw 25 rfl)) (mvT hZ (tw hw 26 rfl)) (notFace_of_selects (args := #[]) (mvT hZ (tw hw 28 rfl))) (mvT hZ (tw hw 28 rfl)) (mvT hZ (tw hw 27 rfl)) (by decide) (backOf (W := 0) (rm_give1 l Z a0 hw [] b71 sp73 k73 (.ref w75) .null .null w79 T148.heap n0 Zs149 (Old.keep O0 K148 hws) E_b71_148 F_b71_spare_148c F_b71_spareCount_148c V_sp73_148c E_w79_148 L_w79_148 ge_b71 ge_sp73 (Nat.ne_of_lt (Nat.lt_of_lt_of_le A71.lt P73_0)) (Ne.symm (Nat.ne_of_lt (Nat.lt_of_lt_of_le E_b71_75.lt P79_0))) (Ne.symm (Nat.ne_of_lt (Nat.lt_of_lt_of_le V_sp73_75.lt P79_0))) P73_4) hZ (tw hw 29 rfl) (tw hw 2 rfl) (by decide) (by decide)) q150a q150c (g := (mkF m 137 #[iv p1, iv p2, iv (p2 &&& (16383 : Int32)), rv b71, rv w75, rv w79, iv 2, iv 1, .val .null, .val .null, .unset, .unset, .unset, .unset, .unset] [(.ref w79), (.ref b71)])) rfl (by rw [hml]; rfl) (Steps.refl _) (argsL := [(.ref w79)]) (rest := []) (lenOf pd_3 rfl) rfl (by show 2 * 0 + _ ≤ _; exact Nat.le_of_eq rfl) (hb hby at_137) (fun _ _ => ⟨rfl, rfl, (by decide : 4 + 0 ≤ _), (by decide : 32834 + 0 ≤ _)⟩)
      dsimp only [Pt.U, Pt.locs, Pt.cells, Pt.slots] at X150 l150 y150 z150 st150 hQ150
      subst l150 y150 z150
      obtain ⟨rfl, N150q, Kc150, P150_0, P150_1, P150_2⟩ := hQ150
      have N150 := Fr.app N148 N150q
      have E_b71_150 : Exa Z T150.heap b71 "com/example/api_policy_gateway/apipolicygateway/net/BufferPool" := E_b71_148.keep Kc150
      have E_w75_150 : Exa Z T150.heap w75 "[B" := E_w75_148.keep Kc150
      have E_w79_150 : Exa Z T150.heap w79 "[B" := E_w79_148.keep Kc150
      have L_w75_150 : LenB Z T150.heap w75 (16384 : Int32) := L_w75_148.keep Kc150 (ninS (Ne.symm (Nat.ne_of_lt (Nat.lt_of_lt_of_le E_b71_73.lt P75_0))) (ninS (Ne.symm (Nat.ne_of_lt (Nat.lt_of_lt_of_le V_sp73_73c.lt P75_0))) nin0))
      have L_w79_150 : LenB Z T150.heap w79 (16384 : Int32) := L_w79_148.keep Kc150 (ninS (Ne.symm (Nat.ne_of_lt (Nat.lt_of_lt_of_le E_b71_75.lt P79_0))) (ninS (Ne.symm (Nat.ne_of_lt (Nat.lt_of_lt_of_le V_sp73_75.lt P79_0))) nin0))
      have K150 : Keep h0 T150.heap [] := K148.trans Kc150 (allS (Or.inr sz_b71) (allS (Or.inr sz_sp73) all0))
      have F_b71_spare_150c : Fld Z T150.heap b71 "com/example/api_policy_gateway/apipolicygateway/net/BufferPool" "spare" "[[B" (.ref sp73) := P150_0
      have F_b71_spareCount_150c : Fld Z T150.heap b71 "com/example/api_policy_gateway/apipolicygateway/net/BufferPool" "spareCount" "I" (.int (2 : Int32)) := P150_1
      have V_sp73_150c : Arv Z T150.heap sp73 k73 (.array .byte) (64 : Int32) [(.ref w75), (.ref w79), .null] .null := P150_2
      refine Goes.step (T2 := T150) (g2 := (mkF m 140 #[iv p1, iv p2, iv (p2 &&& (16383 : Int32)), rv b71, rv w75, rv w79, iv 2, iv 1, .val .null, .val .null, .unset, .unset, .unset, .unset, .unset] [])) (fun _ hr => st150.trans hr) ?_
      refine Goes.step (T2 := T150) (g2 := (mkF m 142 #[iv p1, iv p2, iv (p2 &&& (16383 : Int32)), rv b71, rv w75, rv w79, iv 2, iv 1, .val .null, .val .null, .unset, .unset, .unset, .unset, .unset] [(.ref w79)])) (fun _ hr => XS.aload X150.here hx rfl (hb hby at_140) rfl rfl hr) ?_
      refine Goes.step (T2 := T150) (g2 := (mkF m 144 #[iv p1, iv p2, iv (p2 &&& (16383 : Int32)), rv b71, rv w75, rv w79, iv 2, iv 1, rv w79, .val .null, .unset, .unset, .unset, .unset, .unset] [])) (fun _ hr => XS.astore X150.here hx rfl (hb hby at_142) rfl rfl (l' := #[iv p1, iv p2, iv (p2 &&& (16383 : Int32)), rv b71, rv w75, rv w79, iv 2, iv 1, rv w79, .val .null, .unset, .unset, .unset, .unset, .unset]) rfl hr) ?_
      refine Goes.step (T2 := T150) (g2 := (mkF m 146 #[iv p1, iv p2, iv (p2 &&& (16383 : Int32)), rv b71, rv w75, rv w79, iv 2, iv 1, rv w79, .val .null, .unset, .unset, .unset, .unset, .unset] [(.ref w75)])) (fun _ hr => XS.aload X150.here hx rfl (hb hby at_144) rfl rfl hr) ?_
      refine Goes.step (T2 := T150) (g2 := (mkF m 148 #[iv p1, iv p2, iv (p2 &&& (16383 : Int32)), rv b71, rv w75, rv w79, iv 2, iv 1, rv w79, rv w75, .unset, .unset, .unset, .unset, .unset] [])) (fun _ hr => XS.astore X150.here hx rfl (hb hby at_146) rfl rfl (l' := #[iv p1, iv p2, iv (p2 &&& (16383 : Int32)), rv b71, rv w75, rv w79, iv 2, iv 1, rv w79, rv w75, .unset, .unset, .unset, .unset, .unset]) rfl hr) ?_
      refine Goes.step (T2 := T150) (g2 := (mkF m 177 #[iv p1, iv p2, iv (p2 &&& (16383 : Int32)), rv b71, rv w75, rv w79, iv 2, iv 1, rv w79, rv w75, .unset, .unset, .unset, .unset, .unset] [])) (fun _ hr => XS.goto X150.here hx rfl (pc0 := 148) (pc' := 177) rfl (hb hby at_148) (by decide) (by decide) hr) ?_
      refine Goes.step (T2 := T150) (g2 := (mkF m 178 #[iv p1, iv p2, iv (p2 &&& (16383 : Int32)), rv b71, rv w75, rv w79, iv 2, iv 1, rv w79, rv w75, .unset, .unset, .unset, .unset, .unset] [(.ref b71)])) (fun _ hr => XS.aloadN X150.here hx rfl (hb hby at_177) rfl rfl hr) ?_
      have Zs151 : n0 ≤ T150.heap.size := Nat.le_trans Z0 K150.1
      obtain ⟨cq152, kq152, q152a, q152b, q152c⟩ := isOf hZ rfl E_b71_150
      obtain ⟨_, _, ⟨T152, L152, k152, n152⟩, -, X152, ⟨Lc152, hQ152, l152, y152, z152⟩, st152⟩ := X150.virtualBack hx (y := Y1) (z := Y1) hown (mvT hZ (tw hw 13 rfl)) (mvT hZ (tw hw 14 rfl)) (notFace_of_selects (args := #[]) (mvT hZ (tw hw 16 rfl))) (mvT hZ (tw hw 16 rfl)) (mvT hZ (tw hw 15 rfl)) (by decide) (backOf (W := 0) (rm_take2 l Z a0 hw [] b71 sp73 k73 (.ref w75) .null w79 T150.heap n0 Zs151 (Old.keep O0 K150 hws) E_b71_150 F_b71_spare_150c F_b71_spareCount_150c V_sp73_150c ge_b71 ge_sp73 (Nat.ne_of_lt (Nat.lt_of_lt_of_le A71.lt P73_0))) hZ (tw hw 17 rfl) (tw hw 2 rfl) (by decide) (by decide)) q152a q152c (g := (mkF m 178 #[iv p1, iv p2, iv (p2 &&& (16383 : Int32)), rv b71, rv w75, rv w79, iv 2, iv 1, rv w79, rv w75, .unset, .unset, .unset, .unset, .unset] [(.ref b71)])) rfl (by rw [hml]; rfl) (Steps.refl _) (argsL := []) (rest := []) (lenOf pd_1 rfl) rfl (by show 2 * 0 + _ ≤ _; exact Nat.le_of_eq rfl) (hb hby at_178) (fun _ _ => ⟨rfl, rfl, (by decide : 4 + 0 ≤ _), (by decide : 32834 + 0 ≤ _)⟩)
      dsimp only [Pt.U, Pt.locs, Pt.cells, Pt.slots] at X152 l152 y152 z152 st152 hQ152
      subst l152 y152 z152
      obtain ⟨rfl, N152q, Kc152, P152_0, P152_1, P152_2⟩ := hQ152
      have N152 := Fr.app N150 N152q
      have E_b71_152 : Exa Z T152.heap b71 "com/example/api_policy_gateway/apipolicygateway/net/BufferPool" := E_b71_150.keep Kc152
      have E_w75_152 : Exa Z T152.heap w75 "[B" := E_w75_150.keep Kc152
      have E_w79_152 : Exa Z T152.heap w79 "[B" := E_w79_150.keep Kc152
      have L_w75_152 : LenB Z T152.heap w75 (16384 : Int32) := L_w75_150.keep Kc152 (ninS (Ne.symm (Nat.ne_of_lt (Nat.lt_of_lt_of_le E_b71_73.lt P75_0))) (ninS (Ne.symm (Nat.ne_of_lt (Nat.lt_of_lt_of_le V_sp73_73c.lt P75_0))) nin0))
      have L_w79_152 : LenB Z T152.heap w79 (16384 : Int32) := L_w79_150.keep Kc152 (ninS (Ne.symm (Nat.ne_of_lt (Nat.lt_of_lt_of_le E_b71_75.lt P79_0))) (ninS (Ne.symm (Nat.ne_of_lt (Nat.lt_of_lt_of_le V_sp73_75.lt P79_0))) nin0))
      have K152 : Keep h0 T152.heap [] := K150.trans Kc152 (allS (Or.inr sz_b71) (allS (Or.inr sz_sp73) all0))
      have F_b71_spare_152c : Fld Z T152.heap b71 "com/example/api_policy_gateway/apipolicygateway/net/BufferPool" "spare" "[[B" (.ref sp73) := P152_0
      have F_b71_spareCount_152c : Fld Z T152.heap b71 "com/example/api_policy_gateway/apipolicygateway/net/BufferPool" "spareCount" "I" (.int (1 : Int32)) := P152_1
      have V_sp73_152c : Arv Z T152.heap sp73 k73 (.array .byte) (64 : Int32) [(.ref w75), .null, .null] .null := P152_2
      refine Goes.step (T2 := T152) (g2 := (mkF m 181 #[iv p1, iv p2, iv (p2 &&& (16383 : Int32)), rv b71, rv w75, rv w79, iv 2, iv 1, rv w79, rv w75, .unset, .unset, .unset, .unset, .unset] [(.ref w79)])) (fun _ hr => st152.trans hr) ?_
      refine Goes.step (T2 := T152) (g2 := (mkF m 183 #[iv p1, iv p2, iv (p2 &&& (16383 : Int32)), rv b71, rv w75, rv w79, iv 2, iv 1, rv w79, rv w75, rv w79, .unset, .unset, .unset, .unset] [])) (fun _ hr => XS.astore X152.here hx rfl (hb hby at_181) rfl rfl (l' := #[iv p1, iv p2, iv (p2 &&& (16383 : Int32)), rv b71, rv w75, rv w79, iv 2, iv 1, rv w79, rv w75, rv w79, .unset, .unset, .unset, .unset]) rfl hr) ?_
      refine Goes.step (T2 := T152) (g2 := (mkF m 185 #[iv p1, iv p2, iv (p2 &&& (16383 : Int32)), rv b71, rv w75, rv w79, iv 2, iv 1, rv w79, rv w75, rv w79, .unset, .unset, .unset, .unset] [(.ref w79)])) (fun _ hr => XS.aload X152.here hx rfl (hb hby at_183) rfl rfl hr) ?_
      refine Goes.step (T2 := T152) (g2 := (mkF m 188 #[iv p1, iv p2, iv (p2 &&& (16383 : Int32)), rv b71, rv w75, rv w79, iv 2, iv 1, rv w79, rv w75, rv w79, .unset, .unset, .unset, .unset] [])) (fun _ hr => XS.ifnullNo X152.here hx rfl (hb hby at_185) rfl hr) ?_
      refine Goes.step (T2 := T152) (g2 := (mkF m 190 #[iv p1, iv p2, iv (p2 &&& (16383 : Int32)), rv b71, rv w75, rv w79, iv 2, iv 1, rv w79, rv w75, rv w79, .unset, .unset, .unset, .unset] [(.ref w79)])) (fun _ hr => XS.aload X152.here hx rfl (hb hby at_188) rfl rfl hr) ?_
      refine Goes.step (T2 := T152) (g2 := (mkF m 192 #[iv p1, iv p2, iv (p2 &&& (16383 : Int32)), rv b71, rv w75, rv w79, iv 2, iv 1, rv w79, rv w75, rv w79, .unset, .unset, .unset, .unset] [(.ref w79), (.ref w79)])) (fun _ hr => XS.aload X152.here hx rfl (hb hby at_190) rfl rfl hr) ?_
      refine Goes.step (T2 := T152) (g2 := (mkF m 214 #[iv p1, iv p2, iv (p2 &&& (16383 : Int32)), rv b71, rv w75, rv w79, iv 2, iv 1, rv w79, rv w75, rv w79, .unset, .unset, .unset, .unset] [])) (fun _ hr => Jvm.RoadKit.acmp (g := (mkF m 192 #[iv p1, iv p2, iv (p2 &&& (16383 : Int32)), rv b71, rv w75, rv w79, iv 2, iv 1, rv w79, rv w75, rv w79, .unset, .unset, .unset, .unset] [(.ref w79), (.ref w79)])) X152 hx rfl rfl rfl (pc0 := 192) (pc' := 214) (same := true) rfl (hb hby at_192) rfl (decide_eq_true rfl) (by decide) (by decide) hr) ?_
      refine Goes.step (T2 := T152) (g2 := (mkF m 216 #[iv p1, iv p2, iv (p2 &&& (16383 : Int32)), rv b71, rv w75, rv w79, iv 2, iv 1, rv w79, rv w75, rv w79, .unset, .unset, .unset, .unset] [(.int (1 : Int32))])) (fun _ hr => XS.iload X152.here hx rfl (hb hby at_214) rfl  hr) ?_
      refine Goes.step (T2 := T152) (g2 := (mkF m 219 #[iv p1, iv p2, iv (p2 &&& (16383 : Int32)), rv b71, rv w75, rv w79, iv 2, iv 1, rv w79, rv w75, rv w79, .unset, .unset, .unset, .unset] [])) (fun _ hr => XS.ifNo X152.here hx rfl (hb hby at_216) rfl ((if0 _ _).trans (feq (by decide : ¬ ((1 : Int32) = (0 : Int32)))).1) hr) ?_
      refine Goes.step (T2 := T152) (g2 := (mkF m 220 #[iv p1, iv p2, iv (p2 &&& (16383 : Int32)), rv b71, rv w75, rv w79, iv 2, iv 1, rv w79, rv w75, rv w79, .unset, .unset, .unset, .unset] [(.ref b71)])) (fun _ hr => XS.aloadN X152.here hx rfl (hb hby at_219) rfl rfl hr) ?_
      refine Goes.step (T2 := T152) (g2 := (mkF m 222 #[iv p1, iv p2, iv (p2 &&& (16383 : Int32)), rv b71, rv w75, rv w79, iv 2, iv 1, rv w79, rv w75, rv w79, .unset, .unset, .unset, .unset] [(.ref w79), (.ref b71)])) (fun _ hr => XS.aload X152.here hx rfl (hb hby at_220) rfl rfl hr) ?_
      have Zs153 : n0 ≤ T152.heap.size := Nat.le_trans Z0 K152.1
      obtain ⟨cq154, kq154, q154a, q154b, q154c⟩ := isOf hZ rfl E_b71_152
      obtain ⟨_, _, ⟨T154, L154, k154, n154⟩, -, X154, ⟨Lc154, hQ154, l154, y154, z154⟩, st154⟩ := X152.virtualBack hx (y := Y2) (z := Y2) hown (mvT hZ (tw hw 25 rfl)) (mvT hZ (tw hw 26 rfl)) (notFace_of_selects (args := #[]) (mvT hZ (tw hw 28 rfl))) (mvT hZ (tw hw 28 rfl)) (mvT hZ (tw hw 27 rfl)) (by decide) (backOf (W := 0) (rm_give1 l Z a0 hw [] b71 sp73 k73 (.ref w75) .null .null w79 T152.heap n0 Zs153 (Old.keep O0 K152 hws) E_b71_152 F_b71_spare_152c F_b71_spareCount_152c V_sp73_152c E_w79_152 L_w79_152 ge_b71 ge_sp73 (Nat.ne_of_lt (Nat.lt_of_lt_of_le A71.lt P73_0)) (Ne.symm (Nat.ne_of_lt (Nat.lt_of_lt_of_le E_b71_75.lt P79_0))) (Ne.symm (Nat.ne_of_lt (Nat.lt_of_lt_of_le V_sp73_75.lt P79_0))) P73_4) hZ (tw hw 29 rfl) (tw hw 2 rfl) (by decide) (by decide)) q154a q154c (g := (mkF m 222 #[iv p1, iv p2, iv (p2 &&& (16383 : Int32)), rv b71, rv w75, rv w79, iv 2, iv 1, rv w79, rv w75, rv w79, .unset, .unset, .unset, .unset] [(.ref w79), (.ref b71)])) rfl (by rw [hml]; rfl) (Steps.refl _) (argsL := [(.ref w79)]) (rest := []) (lenOf pd_3 rfl) rfl (by show 2 * 0 + _ ≤ _; exact Nat.le_of_eq rfl) (hb hby at_222) (fun _ _ => ⟨rfl, rfl, (by decide : 4 + 0 ≤ _), (by decide : 32834 + 0 ≤ _)⟩)
      dsimp only [Pt.U, Pt.locs, Pt.cells, Pt.slots] at X154 l154 y154 z154 st154 hQ154
      subst l154 y154 z154
      obtain ⟨rfl, N154q, Kc154, P154_0, P154_1, P154_2⟩ := hQ154
      have N154 := Fr.app N152 N154q
      have E_b71_154 : Exa Z T154.heap b71 "com/example/api_policy_gateway/apipolicygateway/net/BufferPool" := E_b71_152.keep Kc154
      have E_w75_154 : Exa Z T154.heap w75 "[B" := E_w75_152.keep Kc154
      have E_w79_154 : Exa Z T154.heap w79 "[B" := E_w79_152.keep Kc154
      have L_w75_154 : LenB Z T154.heap w75 (16384 : Int32) := L_w75_152.keep Kc154 (ninS (Ne.symm (Nat.ne_of_lt (Nat.lt_of_lt_of_le E_b71_73.lt P75_0))) (ninS (Ne.symm (Nat.ne_of_lt (Nat.lt_of_lt_of_le V_sp73_73c.lt P75_0))) nin0))
      have L_w79_154 : LenB Z T154.heap w79 (16384 : Int32) := L_w79_152.keep Kc154 (ninS (Ne.symm (Nat.ne_of_lt (Nat.lt_of_lt_of_le E_b71_75.lt P79_0))) (ninS (Ne.symm (Nat.ne_of_lt (Nat.lt_of_lt_of_le V_sp73_75.lt P79_0))) nin0))
      have K154 : Keep h0 T154.heap [] := K152.trans Kc154 (allS (Or.inr sz_b71) (allS (Or.inr sz_sp73) all0))
      have F_b71_spare_154c : Fld Z T154.heap b71 "com/example/api_policy_gateway/apipolicygateway/net/BufferPool" "spare" "[[B" (.ref sp73) := P154_0
      have F_b71_spareCount_154c : Fld Z T154.heap b71 "com/example/api_policy_gateway/apipolicygateway/net/BufferPool" "spareCount" "I" (.int (2 : Int32)) := P154_1
      have V_sp73_154c : Arv Z T154.heap sp73 k73 (.array .byte) (64 : Int32) [(.ref w75), (.ref w79), .null] .null := P154_2
      refine Goes.step (T2 := T154) (g2 := (mkF m 225 #[iv p1, iv p2, iv (p2 &&& (16383 : Int32)), rv b71, rv w75, rv w79, iv 2, iv 1, rv w79, rv w75, rv w79, .unset, .unset, .unset, .unset] [])) (fun _ hr => st154.trans hr) ?_
      refine Goes.step (T2 := T154) (g2 := (mkF m 227 #[iv p1, iv p2, iv (p2 &&& (16383 : Int32)), rv b71, rv w75, rv w79, iv 2, iv 1, rv w79, rv w75, rv w79, .unset, .unset, .unset, .unset] [(.ref w79)])) (fun _ hr => XS.aload X154.here hx rfl (hb hby at_225) rfl rfl hr) ?_
      refine Goes.step (T2 := T154) (g2 := (mkF m 229 #[iv p1, iv p2, iv (p2 &&& (16383 : Int32)), rv b71, rv w75, rv w79, iv 2, iv 1, rv w79, rv w75, rv w79, rv w79, .unset, .unset, .unset] [])) (fun _ hr => XS.astore X154.here hx rfl (hb hby at_227) rfl rfl (l' := #[iv p1, iv p2, iv (p2 &&& (16383 : Int32)), rv b71, rv w75, rv w79, iv 2, iv 1, rv w79, rv w75, rv w79, rv w79, .unset, .unset, .unset]) rfl hr) ?_
      refine Goes.step (T2 := T154) (g2 := (mkF m 231 #[iv p1, iv p2, iv (p2 &&& (16383 : Int32)), rv b71, rv w75, rv w79, iv 2, iv 1, rv w79, rv w75, rv w79, rv w79, .unset, .unset, .unset] [(.ref w75)])) (fun _ hr => XS.aload X154.here hx rfl (hb hby at_229) rfl rfl hr) ?_
      refine Goes.step (T2 := T154) (g2 := (mkF m 233 #[iv p1, iv p2, iv (p2 &&& (16383 : Int32)), rv b71, rv w75, rv w79, iv 2, iv 1, rv w79, rv w75, rv w79, rv w79, rv w75, .unset, .unset] [])) (fun _ hr => XS.astore X154.here hx rfl (hb hby at_231) rfl rfl (l' := #[iv p1, iv p2, iv (p2 &&& (16383 : Int32)), rv b71, rv w75, rv w79, iv 2, iv 1, rv w79, rv w75, rv w79, rv w79, rv w75, .unset, .unset]) rfl hr) ?_
      refine Goes.step (T2 := T154) (g2 := (mkF m 243 #[iv p1, iv p2, iv (p2 &&& (16383 : Int32)), rv b71, rv w75, rv w79, iv 2, iv 1, rv w79, rv w75, rv w79, rv w79, rv w75, .unset, .unset] [])) (fun _ hr => XS.goto X154.here hx rfl (pc0 := 233) (pc' := 243) rfl (hb hby at_233) (by decide) (by decide) hr) ?_
      refine Goes.step (T2 := T154) (g2 := (mkF m 244 #[iv p1, iv p2, iv (p2 &&& (16383 : Int32)), rv b71, rv w75, rv w79, iv 2, iv 1, rv w79, rv w75, rv w79, rv w79, rv w75, .unset, .unset] [(.ref b71)])) (fun _ hr => XS.aloadN X154.here hx rfl (hb hby at_243) rfl rfl hr) ?_
      have Zs155 : n0 ≤ T154.heap.size := Nat.le_trans Z0 K154.1
      obtain ⟨cq156, kq156, q156a, q156b, q156c⟩ := isOf hZ rfl E_b71_154
      obtain ⟨_, _, ⟨T156, L156, k156, n156⟩, -, X156, ⟨Lc156, hQ156, l156, y156, z156⟩, st156⟩ := X154.virtualBack hx (y := Y1) (z := Y1) hown (mvT hZ (tw hw 13 rfl)) (mvT hZ (tw hw 14 rfl)) (notFace_of_selects (args := #[]) (mvT hZ (tw hw 16 rfl))) (mvT hZ (tw hw 16 rfl)) (mvT hZ (tw hw 15 rfl)) (by decide) (backOf (W := 0) (rm_take2 l Z a0 hw [] b71 sp73 k73 (.ref w75) .null w79 T154.heap n0 Zs155 (Old.keep O0 K154 hws) E_b71_154 F_b71_spare_154c F_b71_spareCount_154c V_sp73_154c ge_b71 ge_sp73 (Nat.ne_of_lt (Nat.lt_of_lt_of_le A71.lt P73_0))) hZ (tw hw 17 rfl) (tw hw 2 rfl) (by decide) (by decide)) q156a q156c (g := (mkF m 244 #[iv p1, iv p2, iv (p2 &&& (16383 : Int32)), rv b71, rv w75, rv w79, iv 2, iv 1, rv w79, rv w75, rv w79, rv w79, rv w75, .unset, .unset] [(.ref b71)])) rfl (by rw [hml]; rfl) (Steps.refl _) (argsL := []) (rest := []) (lenOf pd_1 rfl) rfl (by show 2 * 0 + _ ≤ _; exact Nat.le_of_eq rfl) (hb hby at_244) (fun _ _ => ⟨rfl, rfl, (by decide : 4 + 0 ≤ _), (by decide : 32834 + 0 ≤ _)⟩)
      dsimp only [Pt.U, Pt.locs, Pt.cells, Pt.slots] at X156 l156 y156 z156 st156 hQ156
      subst l156 y156 z156
      obtain ⟨rfl, N156q, Kc156, P156_0, P156_1, P156_2⟩ := hQ156
      have N156 := Fr.app N154 N156q
      have E_b71_156 : Exa Z T156.heap b71 "com/example/api_policy_gateway/apipolicygateway/net/BufferPool" := E_b71_154.keep Kc156
      have E_w75_156 : Exa Z T156.heap w75 "[B" := E_w75_154.keep Kc156
      have E_w79_156 : Exa Z T156.heap w79 "[B" := E_w79_154.keep Kc156
      have L_w75_156 : LenB Z T156.heap w75 (16384 : Int32) := L_w75_154.keep Kc156 (ninS (Ne.symm (Nat.ne_of_lt (Nat.lt_of_lt_of_le E_b71_73.lt P75_0))) (ninS (Ne.symm (Nat.ne_of_lt (Nat.lt_of_lt_of_le V_sp73_73c.lt P75_0))) nin0))
      have L_w79_156 : LenB Z T156.heap w79 (16384 : Int32) := L_w79_154.keep Kc156 (ninS (Ne.symm (Nat.ne_of_lt (Nat.lt_of_lt_of_le E_b71_75.lt P79_0))) (ninS (Ne.symm (Nat.ne_of_lt (Nat.lt_of_lt_of_le V_sp73_75.lt P79_0))) nin0))
      have K156 : Keep h0 T156.heap [] := K154.trans Kc156 (allS (Or.inr sz_b71) (allS (Or.inr sz_sp73) all0))
      have F_b71_spare_156c : Fld Z T156.heap b71 "com/example/api_policy_gateway/apipolicygateway/net/BufferPool" "spare" "[[B" (.ref sp73) := P156_0
      have F_b71_spareCount_156c : Fld Z T156.heap b71 "com/example/api_policy_gateway/apipolicygateway/net/BufferPool" "spareCount" "I" (.int (1 : Int32)) := P156_1
      have V_sp73_156c : Arv Z T156.heap sp73 k73 (.array .byte) (64 : Int32) [(.ref w75), .null, .null] .null := P156_2
      refine Goes.step (T2 := T156) (g2 := (mkF m 247 #[iv p1, iv p2, iv (p2 &&& (16383 : Int32)), rv b71, rv w75, rv w79, iv 2, iv 1, rv w79, rv w75, rv w79, rv w79, rv w75, .unset, .unset] [(.ref w79)])) (fun _ hr => st156.trans hr) ?_
      refine Goes.step (T2 := T156) (g2 := (mkF m 249 #[iv p1, iv p2, iv (p2 &&& (16383 : Int32)), rv b71, rv w75, rv w79, iv 2, iv 1, rv w79, rv w75, rv w79, rv w79, rv w75, rv w79, .unset] [])) (fun _ hr => XS.astore X156.here hx rfl (hb hby at_247) rfl rfl (l' := #[iv p1, iv p2, iv (p2 &&& (16383 : Int32)), rv b71, rv w75, rv w79, iv 2, iv 1, rv w79, rv w75, rv w79, rv w79, rv w75, rv w79, .unset]) rfl hr) ?_
      refine Goes.step (T2 := T156) (g2 := (mkF m 251 #[iv p1, iv p2, iv (p2 &&& (16383 : Int32)), rv b71, rv w75, rv w79, iv 2, iv 1, rv w79, rv w75, rv w79, rv w79, rv w75, rv w79, .unset] [(.ref w79)])) (fun _ hr => XS.aload X156.here hx rfl (hb hby at_249) rfl rfl hr) ?_
      refine Goes.step (T2 := T156) (g2 := (mkF m 254 #[iv p1, iv p2, iv (p2 &&& (16383 : Int32)), rv b71, rv w75, rv w79, iv 2, iv 1, rv w79, rv w75, rv w79, rv w79, rv w75, rv w79, .unset] [])) (fun _ hr => XS.ifnullNo X156.here hx rfl (hb hby at_251) rfl hr) ?_
      refine Goes.step (T2 := T156) (g2 := (mkF m 256 #[iv p1, iv p2, iv (p2 &&& (16383 : Int32)), rv b71, rv w75, rv w79, iv 2, iv 1, rv w79, rv w75, rv w79, rv w79, rv w75, rv w79, .unset] [(.ref w79)])) (fun _ hr => XS.aload X156.here hx rfl (hb hby at_254) rfl rfl hr) ?_
      refine Goes.step (T2 := T156) (g2 := (mkF m 258 #[iv p1, iv p2, iv (p2 &&& (16383 : Int32)), rv b71, rv w75, rv w79, iv 2, iv 1, rv w79, rv w75, rv w79, rv w79, rv w75, rv w79, .unset] [(.ref w79), (.ref w79)])) (fun _ hr => XS.aload X156.here hx rfl (hb hby at_256) rfl rfl hr) ?_
      refine Goes.step (T2 := T156) (g2 := (mkF m 281 #[iv p1, iv p2, iv (p2 &&& (16383 : Int32)), rv b71, rv w75, rv w79, iv 2, iv 1, rv w79, rv w75, rv w79, rv w79, rv w75, rv w79, .unset] [])) (fun _ hr => Jvm.RoadKit.acmp (g := (mkF m 258 #[iv p1, iv p2, iv (p2 &&& (16383 : Int32)), rv b71, rv w75, rv w79, iv 2, iv 1, rv w79, rv w75, rv w79, rv w79, rv w75, rv w79, .unset] [(.ref w79), (.ref w79)])) X156 hx rfl rfl rfl (pc0 := 258) (pc' := 281) (same := true) rfl (hb hby at_258) rfl (decide_eq_true rfl) (by decide) (by decide) hr) ?_
      refine Goes.step (T2 := T156) (g2 := (mkF m 282 #[iv p1, iv p2, iv (p2 &&& (16383 : Int32)), rv b71, rv w75, rv w79, iv 2, iv 1, rv w79, rv w75, rv w79, rv w79, rv w75, rv w79, .unset] [(.ref b71)])) (fun _ hr => XS.aloadN X156.here hx rfl (hb hby at_281) rfl rfl hr) ?_
      have Zs157 : n0 ≤ T156.heap.size := Nat.le_trans Z0 K156.1
      obtain ⟨cq158, kq158, q158a, q158b, q158c⟩ := isOf hZ rfl E_b71_156
      obtain ⟨_, _, ⟨T158, L158, k158, n158⟩, -, X158, ⟨Lc158, hQ158, l158, y158, z158⟩, st158⟩ := X156.virtualBack hx (y := Y1) (z := Y1) hown (mvT hZ (tw hw 13 rfl)) (mvT hZ (tw hw 14 rfl)) (notFace_of_selects (args := #[]) (mvT hZ (tw hw 16 rfl))) (mvT hZ (tw hw 16 rfl)) (mvT hZ (tw hw 15 rfl)) (by decide) (backOf (W := 0) (rm_take1 l Z a0 hw [] b71 sp73 k73 .null .null w75 T156.heap n0 Zs157 (Old.keep O0 K156 hws) E_b71_156 F_b71_spare_156c F_b71_spareCount_156c V_sp73_156c ge_b71 ge_sp73 (Nat.ne_of_lt (Nat.lt_of_lt_of_le A71.lt P73_0))) hZ (tw hw 17 rfl) (tw hw 2 rfl) (by decide) (by decide)) q158a q158c (g := (mkF m 282 #[iv p1, iv p2, iv (p2 &&& (16383 : Int32)), rv b71, rv w75, rv w79, iv 2, iv 1, rv w79, rv w75, rv w79, rv w79, rv w75, rv w79, .unset] [(.ref b71)])) rfl (by rw [hml]; rfl) (Steps.refl _) (argsL := []) (rest := []) (lenOf pd_1 rfl) rfl (by show 2 * 0 + _ ≤ _; exact Nat.le_of_eq rfl) (hb hby at_282) (fun _ _ => ⟨rfl, rfl, (by decide : 4 + 0 ≤ _), (by decide : 32834 + 0 ≤ _)⟩)
      dsimp only [Pt.U, Pt.locs, Pt.cells, Pt.slots] at X158 l158 y158 z158 st158 hQ158
      subst l158 y158 z158
      obtain ⟨rfl, N158q, Kc158, P158_0, P158_1, P158_2⟩ := hQ158
      have N158 := Fr.app N156 N158q
      have E_b71_158 : Exa Z T158.heap b71 "com/example/api_policy_gateway/apipolicygateway/net/BufferPool" := E_b71_156.keep Kc158
      have E_w75_158 : Exa Z T158.heap w75 "[B" := E_w75_156.keep Kc158
      have E_w79_158 : Exa Z T158.heap w79 "[B" := E_w79_156.keep Kc158
      have L_w75_158 : LenB Z T158.heap w75 (16384 : Int32) := L_w75_156.keep Kc158 (ninS (Ne.symm (Nat.ne_of_lt (Nat.lt_of_lt_of_le E_b71_73.lt P75_0))) (ninS (Ne.symm (Nat.ne_of_lt (Nat.lt_of_lt_of_le V_sp73_73c.lt P75_0))) nin0))
      have L_w79_158 : LenB Z T158.heap w79 (16384 : Int32) := L_w79_156.keep Kc158 (ninS (Ne.symm (Nat.ne_of_lt (Nat.lt_of_lt_of_le E_b71_75.lt P79_0))) (ninS (Ne.symm (Nat.ne_of_lt (Nat.lt_of_lt_of_le V_sp73_75.lt P79_0))) nin0))
      have K158 : Keep h0 T158.heap [] := K156.trans Kc158 (allS (Or.inr sz_b71) (allS (Or.inr sz_sp73) all0))
      have F_b71_spare_158c : Fld Z T158.heap b71 "com/example/api_policy_gateway/apipolicygateway/net/BufferPool" "spare" "[[B" (.ref sp73) := P158_0
      have F_b71_spareCount_158c : Fld Z T158.heap b71 "com/example/api_policy_gateway/apipolicygateway/net/BufferPool" "spareCount" "I" (.int (0 : Int32)) := P158_1
      have V_sp73_158c : Arv Z T158.heap sp73 k73 (.array .byte) (64 : Int32) [.null, .null, .null] .null := P158_2
      refine Goes.step (T2 := T158) (g2 := (mkF m 285 #[iv p1, iv p2, iv (p2 &&& (16383 : Int32)), rv b71, rv w75, rv w79, iv 2, iv 1, rv w79, rv w75, rv w79, rv w79, rv w75, rv w79, .unset] [(.ref w75)])) (fun _ hr => st158.trans hr) ?_
      refine Goes.step (T2 := T158) (g2 := (mkF m 287 #[iv p1, iv p2, iv (p2 &&& (16383 : Int32)), rv b71, rv w75, rv w79, iv 2, iv 1, rv w79, rv w75, rv w79, rv w79, rv w75, rv w79, rv w75] [])) (fun _ hr => XS.astore X158.here hx rfl (hb hby at_285) rfl rfl (l' := #[iv p1, iv p2, iv (p2 &&& (16383 : Int32)), rv b71, rv w75, rv w79, iv 2, iv 1, rv w79, rv w75, rv w79, rv w79, rv w75, rv w79, rv w75]) rfl hr) ?_
      refine Goes.step (T2 := T158) (g2 := (mkF m 289 #[iv p1, iv p2, iv (p2 &&& (16383 : Int32)), rv b71, rv w75, rv w79, iv 2, iv 1, rv w79, rv w75, rv w79, rv w79, rv w75, rv w79, rv w75] [(.ref w75)])) (fun _ hr => XS.aload X158.here hx rfl (hb hby at_287) rfl rfl hr) ?_
      refine Goes.step (T2 := T158) (g2 := (mkF m 292 #[iv p1, iv p2, iv (p2 &&& (16383 : Int32)), rv b71, rv w75, rv w79, iv 2, iv 1, rv w79, rv w75, rv w79, rv w79, rv w75, rv w79, rv w75] [])) (fun _ hr => XS.ifnullNo X158.here hx rfl (hb hby at_289) rfl hr) ?_
      refine Goes.step (T2 := T158) (g2 := (mkF m 294 #[iv p1, iv p2, iv (p2 &&& (16383 : Int32)), rv b71, rv w75, rv w79, iv 2, iv 1, rv w79, rv w75, rv w79, rv w79, rv w75, rv w79, rv w75] [(.ref w75)])) (fun _ hr => XS.aload X158.here hx rfl (hb hby at_292) rfl rfl hr) ?_
      refine Goes.step (T2 := T158) (g2 := (mkF m 296 #[iv p1, iv p2, iv (p2 &&& (16383 : Int32)), rv b71, rv w75, rv w79, iv 2, iv 1, rv w79, rv w75, rv w79, rv w79, rv w75, rv w79, rv w75] [(.ref w75), (.ref w75)])) (fun _ hr => XS.aload X158.here hx rfl (hb hby at_294) rfl rfl hr) ?_
      refine Goes.step (T2 := T158) (g2 := (mkF m 320 #[iv p1, iv p2, iv (p2 &&& (16383 : Int32)), rv b71, rv w75, rv w79, iv 2, iv 1, rv w79, rv w75, rv w79, rv w79, rv w75, rv w79, rv w75] [])) (fun _ hr => Jvm.RoadKit.acmp (g := (mkF m 296 #[iv p1, iv p2, iv (p2 &&& (16383 : Int32)), rv b71, rv w75, rv w79, iv 2, iv 1, rv w79, rv w75, rv w79, rv w79, rv w75, rv w79, rv w75] [(.ref w75), (.ref w75)])) X158 hx rfl rfl rfl (pc0 := 296) (pc' := 320) (same := true) rfl (hb hby at_296) rfl (decide_eq_true rfl) (by decide) (by decide) hr) ?_
      refine Goes.step (T2 := T158) (g2 := (mkF m 321 #[iv p1, iv p2, iv (p2 &&& (16383 : Int32)), rv b71, rv w75, rv w79, iv 2, iv 1, rv w79, rv w75, rv w79, rv w79, rv w75, rv w79, rv w75] [(.int (1 : Int32))])) (fun _ hr => XS.iconst X158.here hx rfl (hb hby at_320) hr) ?_
      exact Goes.ret (v := some (.int (1 : Int32))) X158 (by decide) (by decide) (fun h => by rw [Bd.returns] at h; cases h) ⟨rfl, N158⟩ (fun fs hr => retN X158 hx (t := .boolean) Bd.returns (by simp) (hb hby at_321) hr)
  · rw [hk]
    refine Goes.step (T2 := T83) (g2 := (mkF m 84 #[iv p1, iv p2, iv (p2 &&& (16383 : Int32)), rv b71, rv w75, rv w79, iv 3, .unset, .unset, .unset, .unset, .unset, .unset, .unset, .unset] [])) (fun _ hr => XS.istore X83.here hx rfl (hb hby at_82) rfl (l' := #[iv p1, iv p2, iv (p2 &&& (16383 : Int32)), rv b71, rv w75, rv w79, iv 3, .unset, .unset, .unset, .unset, .unset, .unset, .unset, .unset]) rfl hr) ?_
    refine Goes.step (T2 := T83) (g2 := (mkF m 85 #[iv p1, iv p2, iv (p2 &&& (16383 : Int32)), rv b71, rv w75, rv w79, iv 3, .unset, .unset, .unset, .unset, .unset, .unset, .unset, .unset] [(.int p1)])) (fun _ hr => XS.iloadN X83.here hx rfl (hb hby at_84) rfl  hr) ?_
    refine Goes.step (T2 := T83) (g2 := (mkF m 86 #[iv p1, iv p2, iv (p2 &&& (16383 : Int32)), rv b71, rv w75, rv w79, iv 3, .unset, .unset, .unset, .unset, .unset, .unset, .unset, .unset] [(.int (4 : Int32)), (.int p1)])) (fun _ hr => XS.iconst X83.here hx rfl (hb hby at_85) hr) ?_
    refine Goes.step (T2 := T83) (g2 := (mkF m 87 #[iv p1, iv p2, iv (p2 &&& (16383 : Int32)), rv b71, rv w75, rv w79, iv 3, .unset, .unset, .unset, .unset, .unset, .unset, .unset, .unset] [(.int (p1 &&& (4 : Int32)))])) (fun _ hr => XS.iand X83.here hx rfl (hb hby at_86) rfl hr) ?_
    by_cases hc87_159 : (p1 &&& (4 : Int32)) = (0 : Int32)
    · refine Goes.step (T2 := T83) (g2 := (mkF m 94 #[iv p1, iv p2, iv (p2 &&& (16383 : Int32)), rv b71, rv w75, rv w79, iv 3, .unset, .unset, .unset, .unset, .unset, .unset, .unset, .unset] [])) (fun _ hr => XS.ifYes X83.here hx rfl (pc0 := 87) (pc' := 94) rfl (hb hby at_87) rfl ((if0 _ _).trans (teq hc87_159).1) (by decide) (by decide) hr) ?_
      refine Goes.step (T2 := T83) (g2 := (mkF m 95 #[iv p1, iv p2, iv (p2 &&& (16383 : Int32)), rv b71, rv w75, rv w79, iv 3, .unset, .unset, .unset, .unset, .unset, .unset, .unset, .unset] [(.int (0 : Int32))])) (fun _ hr => XS.iconst X83.here hx rfl (hb hby at_94) hr) ?_
      refine Goes.step (T2 := T83) (g2 := (mkF m 97 #[iv p1, iv p2, iv (p2 &&& (16383 : Int32)), rv b71, rv w75, rv w79, iv 3, iv 0, .unset, .unset, .unset, .unset, .unset, .unset, .unset] [])) (fun _ hr => XS.istore X83.here hx rfl (hb hby at_95) rfl (l' := #[iv p1, iv p2, iv (p2 &&& (16383 : Int32)), rv b71, rv w75, rv w79, iv 3, iv 0, .unset, .unset, .unset, .unset, .unset, .unset, .unset]) rfl hr) ?_
      refine Goes.step (T2 := T83) (g2 := (mkF m 98 #[iv p1, iv p2, iv (p2 &&& (16383 : Int32)), rv b71, rv w75, rv w79, iv 3, iv 0, .unset, .unset, .unset, .unset, .unset, .unset, .unset] [.null])) (fun _ hr => XS.aconstNull X83.here hx rfl (hb hby at_97) hr) ?_
      refine Goes.step (T2 := T83) (g2 := (mkF m 100 #[iv p1, iv p2, iv (p2 &&& (16383 : Int32)), rv b71, rv w75, rv w79, iv 3, iv 0, .val .null, .unset, .unset, .unset, .unset, .unset, .unset] [])) (fun _ hr => XS.astore X83.here hx rfl (hb hby at_98) rfl rfl (l' := #[iv p1, iv p2, iv (p2 &&& (16383 : Int32)), rv b71, rv w75, rv w79, iv 3, iv 0, .val .null, .unset, .unset, .unset, .unset, .unset, .unset]) rfl hr) ?_
      refine Goes.step (T2 := T83) (g2 := (mkF m 101 #[iv p1, iv p2, iv (p2 &&& (16383 : Int32)), rv b71, rv w75, rv w79, iv 3, iv 0, .val .null, .unset, .unset, .unset, .unset, .unset, .unset] [.null])) (fun _ hr => XS.aconstNull X83.here hx rfl (hb hby at_100) hr) ?_
      refine Goes.step (T2 := T83) (g2 := (mkF m 103 #[iv p1, iv p2, iv (p2 &&& (16383 : Int32)), rv b71, rv w75, rv w79, iv 3, iv 0, .val .null, .val .null, .unset, .unset, .unset, .unset, .unset] [])) (fun _ hr => XS.astore X83.here hx rfl (hb hby at_101) rfl rfl (l' := #[iv p1, iv p2, iv (p2 &&& (16383 : Int32)), rv b71, rv w75, rv w79, iv 3, iv 0, .val .null, .val .null, .unset, .unset, .unset, .unset, .unset]) rfl hr) ?_
      refine Goes.step (T2 := T83) (g2 := (mkF m 105 #[iv p1, iv p2, iv (p2 &&& (16383 : Int32)), rv b71, rv w75, rv w79, iv 3, iv 0, .val .null, .val .null, .unset, .unset, .unset, .unset, .unset] [(.int (3 : Int32))])) (fun _ hr => XS.iload X83.here hx rfl (hb hby at_103) rfl  hr) ?_
      refine Goes.step (T2 := T83) (g2 := (mkF m 106 #[iv p1, iv p2, iv (p2 &&& (16383 : Int32)), rv b71, rv w75, rv w79, iv 3, iv 0, .val .null, .val .null, .unset, .unset, .unset, .unset, .unset] [(.int (1 : Int32)), (.int (3 : Int32))])) (fun _ hr => XS.iconst X83.here hx rfl (hb hby at_105) hr) ?_
      refine Goes.step (T2 := T83) (g2 := (mkF m 122 #[iv p1, iv p2, iv (p2 &&& (16383 : Int32)), rv b71, rv w75, rv w79, iv 3, iv 0, .val .null, .val .null, .unset, .unset, .unset, .unset, .unset] [])) (fun _ hr => XS.icmpYes X83.here hx rfl (pc0 := 106) (pc' := 122) rfl (hb hby at_106) rfl (feq (by decide : ¬ ((3 : Int32) = (1 : Int32)))).2 (by decide) (by decide) hr) ?_
      refine Goes.step (T2 := T83) (g2 := (mkF m 124 #[iv p1, iv p2, iv (p2 &&& (16383 : Int32)), rv b71, rv w75, rv w79, iv 3, iv 0, .val .null, .val .null, .unset, .unset, .unset, .unset, .unset] [(.int (3 : Int32))])) (fun _ hr => XS.iload X83.here hx rfl (hb hby at_122) rfl  hr) ?_
      refine Goes.step (T2 := T83) (g2 := (mkF m 125 #[iv p1, iv p2, iv (p2 &&& (16383 : Int32)), rv b71, rv w75, rv w79, iv 3, iv 0, .val .null, .val .null, .unset, .unset, .unset, .unset, .unset] [(.int (2 : Int32)), (.int (3 : Int32))])) (fun _ hr => XS.iconst X83.here hx rfl (hb hby at_124) hr) ?_
      refine Goes.step (T2 := T83) (g2 := (mkF m 151 #[iv p1, iv p2, iv (p2 &&& (16383 : Int32)), rv b71, rv w75, rv w79, iv 3, iv 0, .val .null, .val .null, .unset, .unset, .unset, .unset, .unset] [])) (fun _ hr => XS.icmpYes X83.here hx rfl (pc0 := 125) (pc' := 151) rfl (hb hby at_125) rfl (feq (by decide : ¬ ((3 : Int32) = (2 : Int32)))).2 (by decide) (by decide) hr) ?_
      refine Goes.step (T2 := T83) (g2 := (mkF m 153 #[iv p1, iv p2, iv (p2 &&& (16383 : Int32)), rv b71, rv w75, rv w79, iv 3, iv 0, .val .null, .val .null, .unset, .unset, .unset, .unset, .unset] [(.int (3 : Int32))])) (fun _ hr => XS.iload X83.here hx rfl (hb hby at_151) rfl  hr) ?_
      refine Goes.step (T2 := T83) (g2 := (mkF m 154 #[iv p1, iv p2, iv (p2 &&& (16383 : Int32)), rv b71, rv w75, rv w79, iv 3, iv 0, .val .null, .val .null, .unset, .unset, .unset, .unset, .unset] [(.int (3 : Int32)), (.int (3 : Int32))])) (fun _ hr => XS.iconst X83.here hx rfl (hb hby at_153) hr) ?_
      refine Goes.step (T2 := T83) (g2 := (mkF m 157 #[iv p1, iv p2, iv (p2 &&& (16383 : Int32)), rv b71, rv w75, rv w79, iv 3, iv 0, .val .null, .val .null, .unset, .unset, .unset, .unset, .unset] [])) (fun _ hr => XS.icmpNo X83.here hx rfl (hb hby at_154) rfl (teq (by decide : (3 : Int32) = (3 : Int32))).2 hr) ?_
      refine Goes.step (T2 := T83) (g2 := (mkF m 158 #[iv p1, iv p2, iv (p2 &&& (16383 : Int32)), rv b71, rv w75, rv w79, iv 3, iv 0, .val .null, .val .null, .unset, .unset, .unset, .unset, .unset] [(.ref b71)])) (fun _ hr => XS.aloadN X83.here hx rfl (hb hby at_157) rfl rfl hr) ?_
      refine Goes.step (T2 := T83) (g2 := (mkF m 160 #[iv p1, iv p2, iv (p2 &&& (16383 : Int32)), rv b71, rv w75, rv w79, iv 3, iv 0, .val .null, .val .null, .unset, .unset, .unset, .unset, .unset] [(.ref w79), (.ref b71)])) (fun _ hr => XS.aload X83.here hx rfl (hb hby at_158) rfl rfl hr) ?_
      have Zs160 : n0 ≤ h83.size := Nat.le_trans Z0 K83.1
      obtain ⟨cq161, kq161, q161a, q161b, q161c⟩ := isOf hZ e83 E_b71_83
      obtain ⟨_, _, ⟨T161, L161, k161, n161⟩, -, X161, ⟨Lc161, hQ161, l161, y161, z161⟩, st161⟩ := X83.virtualBack hx (y := Y2) (z := Y2) hown (mvT hZ (tw hw 25 rfl)) (mvT hZ (tw hw 26 rfl)) (notFace_of_selects (args := #[]) (mvT hZ (tw hw 28 rfl))) (mvT hZ (tw hw 28 rfl)) (mvT hZ (tw hw 27 rfl)) (by decide) (backOf (W := 0) (rm_give0 l Z a0 hw [] b71 sp73 k73 .null .null .null w79 h83 n0 Zs160 (Old.keep O0 K83 hws) E_b71_83 F_b71_spare_83 F_b71_spareCount_83 V_sp73_83 E_w79_83 L_w79_83 ge_b71 ge_sp73 (Nat.ne_of_lt (Nat.lt_of_lt_of_le A71.lt P73_0)) (Ne.symm (Nat.ne_of_lt (Nat.lt_of_lt_of_le E_b71_75.lt P79_0))) (Ne.symm (Nat.ne_of_lt (Nat.lt_of_lt_of_le V_sp73_75.lt P79_0))) P73_4) hZ (tw hw 29 rfl) (tw hw 2 rfl) (by decide) (by decide)) q161a q161c (g := (mkF m 160 #[iv p1, iv p2, iv (p2 &&& (16383 : Int32)), rv b71, rv w75, rv w79, iv 3, iv 0, .val .null, .val .null, .unset, .unset, .unset, .unset, .unset] [(.ref w79), (.ref b71)])) rfl (by rw [hml]; rfl) (Steps.refl _) (argsL := [(.ref w79)]) (rest := []) (lenOf pd_3 rfl) rfl (by show 2 * 0 + _ ≤ _; exact Nat.le_of_eq rfl) (hb hby at_160) (fun _ _ => ⟨rfl, e83, (by decide : 4 + 0 ≤ _), (by decide : 32834 + 0 ≤ _)⟩)
      dsimp only [Pt.U, Pt.locs, Pt.cells, Pt.slots] at X161 l161 y161 z161 st161 hQ161
      subst l161 y161 z161
      obtain ⟨rfl, N161q, Kc161, P161_0, P161_1, P161_2⟩ := hQ161
      have N161 := Fr.app N83 N161q
      have E_b71_161 : Exa Z T161.heap b71 "com/example/api_policy_gateway/apipolicygateway/net/BufferPool" := E_b71_83.keep Kc161
      have E_w75_161 : Exa Z T161.heap w75 "[B" := E_w75_83.keep Kc161
      have E_w79_161 : Exa Z T161.heap w79 "[B" := E_w79_83.keep Kc161
      have L_w75_161 : LenB Z T161.heap w75 (16384 : Int32) := L_w75_83.keep Kc161 (ninS (Ne.symm (Nat.ne_of_lt (Nat.lt_of_lt_of_le E_b71_73.lt P75_0))) (ninS (Ne.symm (Nat.ne_of_lt (Nat.lt_of_lt_of_le V_sp73_73c.lt P75_0))) nin0))
      have L_w79_161 : LenB Z T161.heap w79 (16384 : Int32) := L_w79_83.keep Kc161 (ninS (Ne.symm (Nat.ne_of_lt (Nat.lt_of_lt_of_le E_b71_75.lt P79_0))) (ninS (Ne.symm (Nat.ne_of_lt (Nat.lt_of_lt_of_le V_sp73_75.lt P79_0))) nin0))
      have K161 : Keep h0 T161.heap [] := K83.trans Kc161 (allS (Or.inr sz_b71) (allS (Or.inr sz_sp73) all0))
      have F_b71_spare_161c : Fld Z T161.heap b71 "com/example/api_policy_gateway/apipolicygateway/net/BufferPool" "spare" "[[B" (.ref sp73) := P161_0
      have F_b71_spareCount_161c : Fld Z T161.heap b71 "com/example/api_policy_gateway/apipolicygateway/net/BufferPool" "spareCount" "I" (.int (1 : Int32)) := P161_1
      have V_sp73_161c : Arv Z T161.heap sp73 k73 (.array .byte) (64 : Int32) [(.ref w79), .null, .null] .null := P161_2
      refine Goes.step (T2 := T161) (g2 := (mkF m 163 #[iv p1, iv p2, iv (p2 &&& (16383 : Int32)), rv b71, rv w75, rv w79, iv 3, iv 0, .val .null, .val .null, .unset, .unset, .unset, .unset, .unset] [])) (fun _ hr => st161.trans hr) ?_
      refine Goes.step (T2 := T161) (g2 := (mkF m 164 #[iv p1, iv p2, iv (p2 &&& (16383 : Int32)), rv b71, rv w75, rv w79, iv 3, iv 0, .val .null, .val .null, .unset, .unset, .unset, .unset, .unset] [(.ref b71)])) (fun _ hr => XS.aloadN X161.here hx rfl (hb hby at_163) rfl rfl hr) ?_
      refine Goes.step (T2 := T161) (g2 := (mkF m 166 #[iv p1, iv p2, iv (p2 &&& (16383 : Int32)), rv b71, rv w75, rv w79, iv 3, iv 0, .val .null, .val .null, .unset, .unset, .unset, .unset, .unset] [(.ref w75), (.ref b71)])) (fun _ hr => XS.aload X161.here hx rfl (hb hby at_164) rfl rfl hr) ?_
      have Zs162 : n0 ≤ T161.heap.size := Nat.le_trans Z0 K161.1
      obtain ⟨cq163, kq163, q163a, q163b, q163c⟩ := isOf hZ rfl E_b71_161
      obtain ⟨_, _, ⟨T163, L163, k163, n163⟩, -, X163, ⟨Lc163, hQ163, l163, y163, z163⟩, st163⟩ := X161.virtualBack hx (y := Y2) (z := Y2) hown (mvT hZ (tw hw 25 rfl)) (mvT hZ (tw hw 26 rfl)) (notFace_of_selects (args := #[]) (mvT hZ (tw hw 28 rfl))) (mvT hZ (tw hw 28 rfl)) (mvT hZ (tw hw 27 rfl)) (by decide) (backOf (W := 0) (rm_give1 l Z a0 hw [] b71 sp73 k73 (.ref w79) .null .null w75 T161.heap n0 Zs162 (Old.keep O0 K161 hws) E_b71_161 F_b71_spare_161c F_b71_spareCount_161c V_sp73_161c E_w75_161 L_w75_161 ge_b71 ge_sp73 (Nat.ne_of_lt (Nat.lt_of_lt_of_le A71.lt P73_0)) (Ne.symm (Nat.ne_of_lt (Nat.lt_of_lt_of_le E_b71_73.lt P75_0))) (Ne.symm (Nat.ne_of_lt (Nat.lt_of_lt_of_le V_sp73_73c.lt P75_0))) P73_4) hZ (tw hw 29 rfl) (tw hw 2 rfl) (by decide) (by decide)) q163a q163c (g := (mkF m 166 #[iv p1, iv p2, iv (p2 &&& (16383 : Int32)), rv b71, rv w75, rv w79, iv 3, iv 0, .val .null, .val .null, .unset, .unset, .unset, .unset, .unset] [(.ref w75), (.ref b71)])) rfl (by rw [hml]; rfl) (Steps.refl _) (argsL := [(.ref w75)]) (rest := []) (lenOf pd_3 rfl) rfl (by show 2 * 0 + _ ≤ _; exact Nat.le_of_eq rfl) (hb hby at_166) (fun _ _ => ⟨rfl, rfl, (by decide : 4 + 0 ≤ _), (by decide : 32834 + 0 ≤ _)⟩)
      dsimp only [Pt.U, Pt.locs, Pt.cells, Pt.slots] at X163 l163 y163 z163 st163 hQ163
      subst l163 y163 z163
      obtain ⟨rfl, N163q, Kc163, P163_0, P163_1, P163_2⟩ := hQ163
      have N163 := Fr.app N161 N163q
      have E_b71_163 : Exa Z T163.heap b71 "com/example/api_policy_gateway/apipolicygateway/net/BufferPool" := E_b71_161.keep Kc163
      have E_w75_163 : Exa Z T163.heap w75 "[B" := E_w75_161.keep Kc163
      have E_w79_163 : Exa Z T163.heap w79 "[B" := E_w79_161.keep Kc163
      have L_w75_163 : LenB Z T163.heap w75 (16384 : Int32) := L_w75_161.keep Kc163 (ninS (Ne.symm (Nat.ne_of_lt (Nat.lt_of_lt_of_le E_b71_73.lt P75_0))) (ninS (Ne.symm (Nat.ne_of_lt (Nat.lt_of_lt_of_le V_sp73_73c.lt P75_0))) nin0))
      have L_w79_163 : LenB Z T163.heap w79 (16384 : Int32) := L_w79_161.keep Kc163 (ninS (Ne.symm (Nat.ne_of_lt (Nat.lt_of_lt_of_le E_b71_75.lt P79_0))) (ninS (Ne.symm (Nat.ne_of_lt (Nat.lt_of_lt_of_le V_sp73_75.lt P79_0))) nin0))
      have K163 : Keep h0 T163.heap [] := K161.trans Kc163 (allS (Or.inr sz_b71) (allS (Or.inr sz_sp73) all0))
      have F_b71_spare_163c : Fld Z T163.heap b71 "com/example/api_policy_gateway/apipolicygateway/net/BufferPool" "spare" "[[B" (.ref sp73) := P163_0
      have F_b71_spareCount_163c : Fld Z T163.heap b71 "com/example/api_policy_gateway/apipolicygateway/net/BufferPool" "spareCount" "I" (.int (2 : Int32)) := P163_1
      have V_sp73_163c : Arv Z T163.heap sp73 k73 (.array .byte) (64 : Int32) [(.ref w79), (.ref w75), .null] .null := P163_2
      refine Goes.step (T2 := T163) (g2 := (mkF m 169 #[iv p1, iv p2, iv (p2 &&& (16383 : Int32)), rv b71, rv w75, rv w79, iv 3, iv 0, .val .null, .val .null, .unset, .unset, .unset, .unset, .unset] [])) (fun _ hr => st163.trans hr) ?_
      refine Goes.step (T2 := T163) (g2 := (mkF m 171 #[iv p1, iv p2, iv (p2 &&& (16383 : Int32)), rv b71, rv w75, rv w79, iv 3, iv 0, .val .null, .val .null, .unset, .unset, .unset, .unset, .unset] [(.ref w75)])) (fun _ hr => XS.aload X163.here hx rfl (hb hby at_169) rfl rfl hr) ?_
      refine Goes.step (T2 := T163) (g2 := (mkF m 173 #[iv p1, iv p2, iv (p2 &&& (16383 : Int32)), rv b71, rv w75, rv w79, iv 3, iv 0, rv w75, .val .null, .unset, .unset, .unset, .unset, .unset] [])) (fun _ hr => XS.astore X163.here hx rfl (hb hby at_171) rfl rfl (l' := #[iv p1, iv p2, iv (p2 &&& (16383 : Int32)), rv b71, rv w75, rv w79, iv 3, iv 0, rv w75, .val .null, .unset, .unset, .unset, .unset, .unset]) rfl hr) ?_
      refine Goes.step (T2 := T163) (g2 := (mkF m 175 #[iv p1, iv p2, iv (p2 &&& (16383 : Int32)), rv b71, rv w75, rv w79, iv 3, iv 0, rv w75, .val .null, .unset, .unset, .unset, .unset, .unset] [(.ref w79)])) (fun _ hr => XS.aload X163.here hx rfl (hb hby at_173) rfl rfl hr) ?_
      refine Goes.step (T2 := T163) (g2 := (mkF m 177 #[iv p1, iv p2, iv (p2 &&& (16383 : Int32)), rv b71, rv w75, rv w79, iv 3, iv 0, rv w75, rv w79, .unset, .unset, .unset, .unset, .unset] [])) (fun _ hr => XS.astore X163.here hx rfl (hb hby at_175) rfl rfl (l' := #[iv p1, iv p2, iv (p2 &&& (16383 : Int32)), rv b71, rv w75, rv w79, iv 3, iv 0, rv w75, rv w79, .unset, .unset, .unset, .unset, .unset]) rfl hr) ?_
      refine Goes.step (T2 := T163) (g2 := (mkF m 178 #[iv p1, iv p2, iv (p2 &&& (16383 : Int32)), rv b71, rv w75, rv w79, iv 3, iv 0, rv w75, rv w79, .unset, .unset, .unset, .unset, .unset] [(.ref b71)])) (fun _ hr => XS.aloadN X163.here hx rfl (hb hby at_177) rfl rfl hr) ?_
      have Zs164 : n0 ≤ T163.heap.size := Nat.le_trans Z0 K163.1
      obtain ⟨cq165, kq165, q165a, q165b, q165c⟩ := isOf hZ rfl E_b71_163
      obtain ⟨_, _, ⟨T165, L165, k165, n165⟩, -, X165, ⟨Lc165, hQ165, l165, y165, z165⟩, st165⟩ := X163.virtualBack hx (y := Y1) (z := Y1) hown (mvT hZ (tw hw 13 rfl)) (mvT hZ (tw hw 14 rfl)) (notFace_of_selects (args := #[]) (mvT hZ (tw hw 16 rfl))) (mvT hZ (tw hw 16 rfl)) (mvT hZ (tw hw 15 rfl)) (by decide) (backOf (W := 0) (rm_take2 l Z a0 hw [] b71 sp73 k73 (.ref w79) .null w75 T163.heap n0 Zs164 (Old.keep O0 K163 hws) E_b71_163 F_b71_spare_163c F_b71_spareCount_163c V_sp73_163c ge_b71 ge_sp73 (Nat.ne_of_lt (Nat.lt_of_lt_of_le A71.lt P73_0))) hZ (tw hw 17 rfl) (tw hw 2 rfl) (by decide) (by decide)) q165a q165c (g := (mkF m 178 #[iv p1, iv p2, iv (p2 &&& (16383 : Int32)), rv b71, rv w75, rv w79, iv 3, iv 0, rv w75, rv w79, .unset, .unset, .unset, .unset, .unset] [(.ref b71)])) rfl (by rw [hml]; rfl) (Steps.refl _) (argsL := []) (rest := []) (lenOf pd_1 rfl) rfl (by show 2 * 0 + _ ≤ _; exact Nat.le_of_eq rfl) (hb hby at_178) (fun _ _ => ⟨rfl, rfl, (by decide : 4 + 0 ≤ _), (by decide : 32834 + 0 ≤ _)⟩)
      dsimp only [Pt.U, Pt.locs, Pt.cells, Pt.slots] at X165 l165 y165 z165 st165 hQ165
      subst l165 y165 z165
      obtain ⟨rfl, N165q, Kc165, P165_0, P165_1, P165_2⟩ := hQ165
      have N165 := Fr.app N163 N165q
      have E_b71_165 : Exa Z T165.heap b71 "com/example/api_policy_gateway/apipolicygateway/net/BufferPool" := E_b71_163.keep Kc165
      have E_w75_165 : Exa Z T165.heap w75 "[B" := E_w75_163.keep Kc165
      have E_w79_165 : Exa Z T165.heap w79 "[B" := E_w79_163.keep Kc165
      have L_w75_165 : LenB Z T165.heap w75 (16384 : Int32) := L_w75_163.keep Kc165 (ninS (Ne.symm (Nat.ne_of_lt (Nat.lt_of_lt_of_le E_b71_73.lt P75_0))) (ninS (Ne.symm (Nat.ne_of_lt (Nat.lt_of_lt_of_le V_sp73_73c.lt P75_0))) nin0))
      have L_w79_165 : LenB Z T165.heap w79 (16384 : Int32) := L_w79_163.keep Kc165 (ninS (Ne.symm (Nat.ne_of_lt (Nat.lt_of_lt_of_le E_b71_75.lt P79_0))) (ninS (Ne.symm (Nat.ne_of_lt (Nat.lt_of_lt_of_le V_sp73_75.lt P79_0))) nin0))
      have K165 : Keep h0 T165.heap [] := K163.trans Kc165 (allS (Or.inr sz_b71) (allS (Or.inr sz_sp73) all0))
      have F_b71_spare_165c : Fld Z T165.heap b71 "com/example/api_policy_gateway/apipolicygateway/net/BufferPool" "spare" "[[B" (.ref sp73) := P165_0
      have F_b71_spareCount_165c : Fld Z T165.heap b71 "com/example/api_policy_gateway/apipolicygateway/net/BufferPool" "spareCount" "I" (.int (1 : Int32)) := P165_1
      have V_sp73_165c : Arv Z T165.heap sp73 k73 (.array .byte) (64 : Int32) [(.ref w79), .null, .null] .null := P165_2
      refine Goes.step (T2 := T165) (g2 := (mkF m 181 #[iv p1, iv p2, iv (p2 &&& (16383 : Int32)), rv b71, rv w75, rv w79, iv 3, iv 0, rv w75, rv w79, .unset, .unset, .unset, .unset, .unset] [(.ref w75)])) (fun _ hr => st165.trans hr) ?_
      refine Goes.step (T2 := T165) (g2 := (mkF m 183 #[iv p1, iv p2, iv (p2 &&& (16383 : Int32)), rv b71, rv w75, rv w79, iv 3, iv 0, rv w75, rv w79, rv w75, .unset, .unset, .unset, .unset] [])) (fun _ hr => XS.astore X165.here hx rfl (hb hby at_181) rfl rfl (l' := #[iv p1, iv p2, iv (p2 &&& (16383 : Int32)), rv b71, rv w75, rv w79, iv 3, iv 0, rv w75, rv w79, rv w75, .unset, .unset, .unset, .unset]) rfl hr) ?_
      refine Goes.step (T2 := T165) (g2 := (mkF m 185 #[iv p1, iv p2, iv (p2 &&& (16383 : Int32)), rv b71, rv w75, rv w79, iv 3, iv 0, rv w75, rv w79, rv w75, .unset, .unset, .unset, .unset] [(.ref w75)])) (fun _ hr => XS.aload X165.here hx rfl (hb hby at_183) rfl rfl hr) ?_
      refine Goes.step (T2 := T165) (g2 := (mkF m 188 #[iv p1, iv p2, iv (p2 &&& (16383 : Int32)), rv b71, rv w75, rv w79, iv 3, iv 0, rv w75, rv w79, rv w75, .unset, .unset, .unset, .unset] [])) (fun _ hr => XS.ifnullNo X165.here hx rfl (hb hby at_185) rfl hr) ?_
      refine Goes.step (T2 := T165) (g2 := (mkF m 190 #[iv p1, iv p2, iv (p2 &&& (16383 : Int32)), rv b71, rv w75, rv w79, iv 3, iv 0, rv w75, rv w79, rv w75, .unset, .unset, .unset, .unset] [(.ref w75)])) (fun _ hr => XS.aload X165.here hx rfl (hb hby at_188) rfl rfl hr) ?_
      refine Goes.step (T2 := T165) (g2 := (mkF m 192 #[iv p1, iv p2, iv (p2 &&& (16383 : Int32)), rv b71, rv w75, rv w79, iv 3, iv 0, rv w75, rv w79, rv w75, .unset, .unset, .unset, .unset] [(.ref w75), (.ref w75)])) (fun _ hr => XS.aload X165.here hx rfl (hb hby at_190) rfl rfl hr) ?_
      refine Goes.step (T2 := T165) (g2 := (mkF m 214 #[iv p1, iv p2, iv (p2 &&& (16383 : Int32)), rv b71, rv w75, rv w79, iv 3, iv 0, rv w75, rv w79, rv w75, .unset, .unset, .unset, .unset] [])) (fun _ hr => Jvm.RoadKit.acmp (g := (mkF m 192 #[iv p1, iv p2, iv (p2 &&& (16383 : Int32)), rv b71, rv w75, rv w79, iv 3, iv 0, rv w75, rv w79, rv w75, .unset, .unset, .unset, .unset] [(.ref w75), (.ref w75)])) X165 hx rfl rfl rfl (pc0 := 192) (pc' := 214) (same := true) rfl (hb hby at_192) rfl (decide_eq_true rfl) (by decide) (by decide) hr) ?_
      refine Goes.step (T2 := T165) (g2 := (mkF m 216 #[iv p1, iv p2, iv (p2 &&& (16383 : Int32)), rv b71, rv w75, rv w79, iv 3, iv 0, rv w75, rv w79, rv w75, .unset, .unset, .unset, .unset] [(.int (0 : Int32))])) (fun _ hr => XS.iload X165.here hx rfl (hb hby at_214) rfl  hr) ?_
      refine Goes.step (T2 := T165) (g2 := (mkF m 236 #[iv p1, iv p2, iv (p2 &&& (16383 : Int32)), rv b71, rv w75, rv w79, iv 3, iv 0, rv w75, rv w79, rv w75, .unset, .unset, .unset, .unset] [])) (fun _ hr => XS.ifYes X165.here hx rfl (pc0 := 216) (pc' := 236) rfl (hb hby at_216) rfl ((if0 _ _).trans (teq (by decide : (0 : Int32) = (0 : Int32))).1) (by decide) (by decide) hr) ?_
      refine Goes.step (T2 := T165) (g2 := (mkF m 238 #[iv p1, iv p2, iv (p2 &&& (16383 : Int32)), rv b71, rv w75, rv w79, iv 3, iv 0, rv w75, rv w79, rv w75, .unset, .unset, .unset, .unset] [(.ref w79)])) (fun _ hr => XS.aload X165.here hx rfl (hb hby at_236) rfl rfl hr) ?_
      refine Goes.step (T2 := T165) (g2 := (mkF m 240 #[iv p1, iv p2, iv (p2 &&& (16383 : Int32)), rv b71, rv w75, rv w79, iv 3, iv 0, rv w75, rv w79, rv w75, rv w79, .unset, .unset, .unset] [])) (fun _ hr => XS.astore X165.here hx rfl (hb hby at_238) rfl rfl (l' := #[iv p1, iv p2, iv (p2 &&& (16383 : Int32)), rv b71, rv w75, rv w79, iv 3, iv 0, rv w75, rv w79, rv w75, rv w79, .unset, .unset, .unset]) rfl hr) ?_
      refine Goes.step (T2 := T165) (g2 := (mkF m 241 #[iv p1, iv p2, iv (p2 &&& (16383 : Int32)), rv b71, rv w75, rv w79, iv 3, iv 0, rv w75, rv w79, rv w75, rv w79, .unset, .unset, .unset] [.null])) (fun _ hr => XS.aconstNull X165.here hx rfl (hb hby at_240) hr) ?_
      refine Goes.step (T2 := T165) (g2 := (mkF m 243 #[iv p1, iv p2, iv (p2 &&& (16383 : Int32)), rv b71, rv w75, rv w79, iv 3, iv 0, rv w75, rv w79, rv w75, rv w79, .val .null, .unset, .unset] [])) (fun _ hr => XS.astore X165.here hx rfl (hb hby at_241) rfl rfl (l' := #[iv p1, iv p2, iv (p2 &&& (16383 : Int32)), rv b71, rv w75, rv w79, iv 3, iv 0, rv w75, rv w79, rv w75, rv w79, .val .null, .unset, .unset]) rfl hr) ?_
      refine Goes.step (T2 := T165) (g2 := (mkF m 244 #[iv p1, iv p2, iv (p2 &&& (16383 : Int32)), rv b71, rv w75, rv w79, iv 3, iv 0, rv w75, rv w79, rv w75, rv w79, .val .null, .unset, .unset] [(.ref b71)])) (fun _ hr => XS.aloadN X165.here hx rfl (hb hby at_243) rfl rfl hr) ?_
      have Zs166 : n0 ≤ T165.heap.size := Nat.le_trans Z0 K165.1
      obtain ⟨cq167, kq167, q167a, q167b, q167c⟩ := isOf hZ rfl E_b71_165
      obtain ⟨_, _, ⟨T167, L167, k167, n167⟩, -, X167, ⟨Lc167, hQ167, l167, y167, z167⟩, st167⟩ := X165.virtualBack hx (y := Y1) (z := Y1) hown (mvT hZ (tw hw 13 rfl)) (mvT hZ (tw hw 14 rfl)) (notFace_of_selects (args := #[]) (mvT hZ (tw hw 16 rfl))) (mvT hZ (tw hw 16 rfl)) (mvT hZ (tw hw 15 rfl)) (by decide) (backOf (W := 0) (rm_take1 l Z a0 hw [] b71 sp73 k73 .null .null w79 T165.heap n0 Zs166 (Old.keep O0 K165 hws) E_b71_165 F_b71_spare_165c F_b71_spareCount_165c V_sp73_165c ge_b71 ge_sp73 (Nat.ne_of_lt (Nat.lt_of_lt_of_le A71.lt P73_0))) hZ (tw hw 17 rfl) (tw hw 2 rfl) (by decide) (by decide)) q167a q167c (g := (mkF m 244 #[iv p1, iv p2, iv (p2 &&& (16383 : Int32)), rv b71, rv w75, rv w79, iv 3, iv 0, rv w75, rv w79, rv w75, rv w79, .val .null, .unset, .unset] [(.ref b71)])) rfl (by rw [hml]; rfl) (Steps.refl _) (argsL := []) (rest := []) (lenOf pd_1 rfl) rfl (by show 2 * 0 + _ ≤ _; exact Nat.le_of_eq rfl) (hb hby at_244) (fun _ _ => ⟨rfl, rfl, (by decide : 4 + 0 ≤ _), (by decide : 32834 + 0 ≤ _)⟩)
      dsimp only [Pt.U, Pt.locs, Pt.cells, Pt.slots] at X167 l167 y167 z167 st167 hQ167
      subst l167 y167 z167
      obtain ⟨rfl, N167q, Kc167, P167_0, P167_1, P167_2⟩ := hQ167
      have N167 := Fr.app N165 N167q
      have E_b71_167 : Exa Z T167.heap b71 "com/example/api_policy_gateway/apipolicygateway/net/BufferPool" := E_b71_165.keep Kc167
      have E_w75_167 : Exa Z T167.heap w75 "[B" := E_w75_165.keep Kc167
      have E_w79_167 : Exa Z T167.heap w79 "[B" := E_w79_165.keep Kc167
      have L_w75_167 : LenB Z T167.heap w75 (16384 : Int32) := L_w75_165.keep Kc167 (ninS (Ne.symm (Nat.ne_of_lt (Nat.lt_of_lt_of_le E_b71_73.lt P75_0))) (ninS (Ne.symm (Nat.ne_of_lt (Nat.lt_of_lt_of_le V_sp73_73c.lt P75_0))) nin0))
      have L_w79_167 : LenB Z T167.heap w79 (16384 : Int32) := L_w79_165.keep Kc167 (ninS (Ne.symm (Nat.ne_of_lt (Nat.lt_of_lt_of_le E_b71_75.lt P79_0))) (ninS (Ne.symm (Nat.ne_of_lt (Nat.lt_of_lt_of_le V_sp73_75.lt P79_0))) nin0))
      have K167 : Keep h0 T167.heap [] := K165.trans Kc167 (allS (Or.inr sz_b71) (allS (Or.inr sz_sp73) all0))
      have F_b71_spare_167c : Fld Z T167.heap b71 "com/example/api_policy_gateway/apipolicygateway/net/BufferPool" "spare" "[[B" (.ref sp73) := P167_0
      have F_b71_spareCount_167c : Fld Z T167.heap b71 "com/example/api_policy_gateway/apipolicygateway/net/BufferPool" "spareCount" "I" (.int (0 : Int32)) := P167_1
      have V_sp73_167c : Arv Z T167.heap sp73 k73 (.array .byte) (64 : Int32) [.null, .null, .null] .null := P167_2
      refine Goes.step (T2 := T167) (g2 := (mkF m 247 #[iv p1, iv p2, iv (p2 &&& (16383 : Int32)), rv b71, rv w75, rv w79, iv 3, iv 0, rv w75, rv w79, rv w75, rv w79, .val .null, .unset, .unset] [(.ref w79)])) (fun _ hr => st167.trans hr) ?_
      refine Goes.step (T2 := T167) (g2 := (mkF m 249 #[iv p1, iv p2, iv (p2 &&& (16383 : Int32)), rv b71, rv w75, rv w79, iv 3, iv 0, rv w75, rv w79, rv w75, rv w79, .val .null, rv w79, .unset] [])) (fun _ hr => XS.astore X167.here hx rfl (hb hby at_247) rfl rfl (l' := #[iv p1, iv p2, iv (p2 &&& (16383 : Int32)), rv b71, rv w75, rv w79, iv 3, iv 0, rv w75, rv w79, rv w75, rv w79, .val .null, rv w79, .unset]) rfl hr) ?_
      refine Goes.step (T2 := T167) (g2 := (mkF m 251 #[iv p1, iv p2, iv (p2 &&& (16383 : Int32)), rv b71, rv w75, rv w79, iv 3, iv 0, rv w75, rv w79, rv w75, rv w79, .val .null, rv w79, .unset] [(.ref w79)])) (fun _ hr => XS.aload X167.here hx rfl (hb hby at_249) rfl rfl hr) ?_
      refine Goes.step (T2 := T167) (g2 := (mkF m 254 #[iv p1, iv p2, iv (p2 &&& (16383 : Int32)), rv b71, rv w75, rv w79, iv 3, iv 0, rv w75, rv w79, rv w75, rv w79, .val .null, rv w79, .unset] [])) (fun _ hr => XS.ifnullNo X167.here hx rfl (hb hby at_251) rfl hr) ?_
      refine Goes.step (T2 := T167) (g2 := (mkF m 256 #[iv p1, iv p2, iv (p2 &&& (16383 : Int32)), rv b71, rv w75, rv w79, iv 3, iv 0, rv w75, rv w79, rv w75, rv w79, .val .null, rv w79, .unset] [(.ref w79)])) (fun _ hr => XS.aload X167.here hx rfl (hb hby at_254) rfl rfl hr) ?_
      refine Goes.step (T2 := T167) (g2 := (mkF m 258 #[iv p1, iv p2, iv (p2 &&& (16383 : Int32)), rv b71, rv w75, rv w79, iv 3, iv 0, rv w75, rv w79, rv w75, rv w79, .val .null, rv w79, .unset] [(.ref w79), (.ref w79)])) (fun _ hr => XS.aload X167.here hx rfl (hb hby at_256) rfl rfl hr) ?_
      refine Goes.step (T2 := T167) (g2 := (mkF m 281 #[iv p1, iv p2, iv (p2 &&& (16383 : Int32)), rv b71, rv w75, rv w79, iv 3, iv 0, rv w75, rv w79, rv w75, rv w79, .val .null, rv w79, .unset] [])) (fun _ hr => Jvm.RoadKit.acmp (g := (mkF m 258 #[iv p1, iv p2, iv (p2 &&& (16383 : Int32)), rv b71, rv w75, rv w79, iv 3, iv 0, rv w75, rv w79, rv w75, rv w79, .val .null, rv w79, .unset] [(.ref w79), (.ref w79)])) X167 hx rfl rfl rfl (pc0 := 258) (pc' := 281) (same := true) rfl (hb hby at_258) rfl (decide_eq_true rfl) (by decide) (by decide) hr) ?_
      refine Goes.step (T2 := T167) (g2 := (mkF m 282 #[iv p1, iv p2, iv (p2 &&& (16383 : Int32)), rv b71, rv w75, rv w79, iv 3, iv 0, rv w75, rv w79, rv w75, rv w79, .val .null, rv w79, .unset] [(.ref b71)])) (fun _ hr => XS.aloadN X167.here hx rfl (hb hby at_281) rfl rfl hr) ?_
      have Zs168 : n0 ≤ T167.heap.size := Nat.le_trans Z0 K167.1
      obtain ⟨cq169, kq169, q169a, q169b, q169c⟩ := isOf hZ rfl E_b71_167
      obtain ⟨_, _, ⟨T169, L169, k169, n169⟩, -, X169, ⟨Lc169, hQ169, l169, y169, z169⟩, st169⟩ := X167.virtualBack hx (y := Y1) (z := Y1) hown (mvT hZ (tw hw 13 rfl)) (mvT hZ (tw hw 14 rfl)) (notFace_of_selects (args := #[]) (mvT hZ (tw hw 16 rfl))) (mvT hZ (tw hw 16 rfl)) (mvT hZ (tw hw 15 rfl)) (by decide) (backOf (W := 0) (rm_take0 l Z a0 hw [] b71 T167.heap n0 Zs168 (Old.keep O0 K167 hws) F_b71_spareCount_167c) hZ (tw hw 17 rfl) (tw hw 2 rfl) (by decide) (by decide)) q169a q169c (g := (mkF m 282 #[iv p1, iv p2, iv (p2 &&& (16383 : Int32)), rv b71, rv w75, rv w79, iv 3, iv 0, rv w75, rv w79, rv w75, rv w79, .val .null, rv w79, .unset] [(.ref b71)])) rfl (by rw [hml]; rfl) (Steps.refl _) (argsL := []) (rest := []) (lenOf pd_1 rfl) rfl (by show 2 * 0 + _ ≤ _; exact Nat.le_of_eq rfl) (hb hby at_282) (fun _ _ => ⟨rfl, rfl, (by decide : 4 + 1 ≤ _), (by decide : 32834 + 16384 ≤ _)⟩)
      dsimp only [Pt.U, Pt.locs, Pt.cells, Pt.slots] at X169 l169 y169 z169 st169 hQ169
      subst l169 y169 z169
      obtain ⟨w169, kw169, rfl, N169q, Kc169, P169_0, P169_1, P169_2⟩ := hQ169
      have N169 := Fr.app N167 N169q
      have E_b71_169 : Exa Z T169.heap b71 "com/example/api_policy_gateway/apipolicygateway/net/BufferPool" := E_b71_167.keep Kc169
      have E_w75_169 : Exa Z T169.heap w75 "[B" := E_w75_167.keep Kc169
      have E_w79_169 : Exa Z T169.heap w79 "[B" := E_w79_167.keep Kc169
      have L_w75_169 : LenB Z T169.heap w75 (16384 : Int32) := L_w75_167.keep Kc169 nin0
      have L_w79_169 : LenB Z T169.heap w79 (16384 : Int32) := L_w79_167.keep Kc169 nin0
      have F_b71_spare_169 : Fld Z T169.heap b71 "com/example/api_policy_gateway/apipolicygateway/net/BufferPool" "spare" "[[B" (.ref sp73) := F_b71_spare_167c.keep Kc169 nin0
      have F_b71_spareCount_169 : Fld Z T169.heap b71 "com/example/api_policy_gateway/apipolicygateway/net/BufferPool" "spareCount" "I" (.int (0 : Int32)) := F_b71_spareCount_167c.keep Kc169 nin0
      have V_sp73_169 : Arv Z T169.heap sp73 k73 (.array .byte) (64 : Int32) [.null, .null, .null] .null := V_sp73_167c.keep Kc169 nin0
      have K169 : Keep h0 T169.heap [] := K167.trans Kc169 all0
      have sz_w169 : h0.size ≤ w169 := Nat.le_trans K167.1 P169_0
      have ge_w169 : n0 ≤ w169 := Nat.le_trans Z0 sz_w169
      have E_w169_169c : Exa Z T169.heap w169 "[B" := P169_1
      have V_w169_169c : Arv Z T169.heap w169 kw169 .byte (16384 : Int32) [] (.int (0 : Int32)) := P169_2
      refine Goes.step (T2 := T169) (g2 := (mkF m 285 #[iv p1, iv p2, iv (p2 &&& (16383 : Int32)), rv b71, rv w75, rv w79, iv 3, iv 0, rv w75, rv w79, rv w75, rv w79, .val .null, rv w79, .unset] [(.ref w169)])) (fun _ hr => st169.trans hr) ?_
      refine Goes.step (T2 := T169) (g2 := (mkF m 287 #[iv p1, iv p2, iv (p2 &&& (16383 : Int32)), rv b71, rv w75, rv w79, iv 3, iv 0, rv w75, rv w79, rv w75, rv w79, .val .null, rv w79, rv w169] [])) (fun _ hr => XS.astore X169.here hx rfl (hb hby at_285) rfl rfl (l' := #[iv p1, iv p2, iv (p2 &&& (16383 : Int32)), rv b71, rv w75, rv w79, iv 3, iv 0, rv w75, rv w79, rv w75, rv w79, .val .null, rv w79, rv w169]) rfl hr) ?_
      refine Goes.step (T2 := T169) (g2 := (mkF m 289 #[iv p1, iv p2, iv (p2 &&& (16383 : Int32)), rv b71, rv w75, rv w79, iv 3, iv 0, rv w75, rv w79, rv w75, rv w79, .val .null, rv w79, rv w169] [.null])) (fun _ hr => XS.aload X169.here hx rfl (hb hby at_287) rfl rfl hr) ?_
      refine Goes.step (T2 := T169) (g2 := (mkF m 301 #[iv p1, iv p2, iv (p2 &&& (16383 : Int32)), rv b71, rv w75, rv w79, iv 3, iv 0, rv w75, rv w79, rv w75, rv w79, .val .null, rv w79, rv w169] [])) (fun _ hr => XS.ifnullYes X169.here hx rfl (pc0 := 289) (pc' := 301) rfl (hb hby at_289) rfl (by decide) (by decide) hr) ?_
      refine Goes.step (T2 := T169) (g2 := (mkF m 303 #[iv p1, iv p2, iv (p2 &&& (16383 : Int32)), rv b71, rv w75, rv w79, iv 3, iv 0, rv w75, rv w79, rv w75, rv w79, .val .null, rv w79, rv w169] [(.ref w169)])) (fun _ hr => XS.aload X169.here hx rfl (hb hby at_301) rfl rfl hr) ?_
      refine Goes.step (T2 := T169) (g2 := (mkF m 304 #[iv p1, iv p2, iv (p2 &&& (16383 : Int32)), rv b71, rv w75, rv w79, iv 3, iv 0, rv w75, rv w79, rv w75, rv w79, .val .null, rv w79, rv w169] [(.int (p2 &&& (16383 : Int32))), (.ref w169)])) (fun _ hr => XS.iloadN X169.here hx rfl (hb hby at_303) rfl  hr) ?_
      refine Goes.step (T2 := T169) (g2 := (mkF m 306 #[iv p1, iv p2, iv (p2 &&& (16383 : Int32)), rv b71, rv w75, rv w79, iv 3, iv 0, rv w75, rv w79, rv w75, rv w79, .val .null, rv w79, rv w169] [(.ref w75), (.int (p2 &&& (16383 : Int32))), (.ref w169)])) (fun _ hr => XS.aload X169.here hx rfl (hb hby at_304) rfl rfl hr) ?_
      refine Goes.step (T2 := T169) (g2 := (mkF m 308 #[iv p1, iv p2, iv (p2 &&& (16383 : Int32)), rv b71, rv w75, rv w79, iv 3, iv 0, rv w75, rv w79, rv w75, rv w79, .val .null, rv w79, rv w169] [(.ref w79), (.ref w75), (.int (p2 &&& (16383 : Int32))), (.ref w169)])) (fun _ hr => XS.aload X169.here hx rfl (hb hby at_306) rfl rfl hr) ?_
      refine Goes.step (T2 := T169) (g2 := (mkF m 310 #[iv p1, iv p2, iv (p2 &&& (16383 : Int32)), rv b71, rv w75, rv w79, iv 3, iv 0, rv w75, rv w79, rv w75, rv w79, .val .null, rv w79, rv w169] [(.ref w75), (.ref w79), (.ref w75), (.int (p2 &&& (16383 : Int32))), (.ref w169)])) (fun _ hr => XS.aload X169.here hx rfl (hb hby at_308) rfl rfl hr) ?_
      refine Goes.step (T2 := T169) (g2 := (mkF m 312 #[iv p1, iv p2, iv (p2 &&& (16383 : Int32)), rv b71, rv w75, rv w79, iv 3, iv 0, rv w75, rv w79, rv w75, rv w79, .val .null, rv w79, rv w169] [(.ref w79), (.ref w75), (.ref w79), (.ref w75), (.int (p2 &&& (16383 : Int32))), (.ref w169)])) (fun _ hr => XS.aload X169.here hx rfl (hb hby at_310) rfl rfl hr) ?_
      have Zs170 : n0 ≤ T169.heap.size := Nat.le_trans Z0 K169.1
      obtain ⟨_, _, ⟨T171, L171, k171, n171⟩, -, X171, ⟨Lc171, hQ171, l171, y171, z171⟩, st171⟩ := Jvm.LawKit.callS X169 hx (y := Y3) hown (mvT hZ (tw hw 21 rfl)) (mvT hZ (tw hw 22 rfl)) (mvT hZ (tw hw 23 rfl)) (mvT hZ (tw hw 24 rfl)) (by decide) (backOf (W := 0) (rm_fresh4 l Z a0 hw [] w169 (p2 &&& (16383 : Int32)) kw169 w75 w79 w75 w79 T169.heap n0 Zs170 (Old.keep O0 K169 hws) V_w169_169c (Ne.symm (Nat.ne_of_lt (Nat.lt_of_lt_of_le E_w75_167.lt P169_0))) (Ne.symm (Nat.ne_of_lt (Nat.lt_of_lt_of_le E_w79_167.lt P169_0))) (Ne.symm (Nat.ne_of_lt (Nat.lt_of_lt_of_le E_w75_167.lt P169_0))) (Ne.symm (Nat.ne_of_lt (Nat.lt_of_lt_of_le E_w79_167.lt P169_0))) hinb) hZ (tw hw 24 rfl) (tw hw 23 rfl) (by decide) (by decide)) (g := (mkF m 312 #[iv p1, iv p2, iv (p2 &&& (16383 : Int32)), rv b71, rv w75, rv w79, iv 3, iv 0, rv w75, rv w79, rv w75, rv w79, .val .null, rv w79, rv w169] [(.ref w79), (.ref w75), (.ref w79), (.ref w75), (.int (p2 &&& (16383 : Int32))), (.ref w169)])) rfl (by rw [hml]; rfl) (argsL := [(.ref w169), (.int (p2 &&& (16383 : Int32))), (.ref w75), (.ref w79), (.ref w75), (.ref w79)]) (rest := []) (lenOf pd_2 rfl) rfl (by show 2 * 0 + _ ≤ _; exact Nat.le_of_eq rfl) (hb hby at_312) (fun _ _ => ⟨rfl, rfl, (by decide : 5 + 0 ≤ _), (by decide : 49218 + 0 ≤ _)⟩)
      dsimp only [Pt.U, Pt.locs, Pt.cells, Pt.slots] at X171 l171 y171 z171 st171 hQ171
      subst l171 y171 z171
      obtain ⟨rfl, N171q, e171⟩ := hQ171
      have N171 := Fr.app N169 N171q
      refine Goes.step (T2 := T171) (g2 := (mkF m 315 #[iv p1, iv p2, iv (p2 &&& (16383 : Int32)), rv b71, rv w75, rv w79, iv 3, iv 0, rv w75, rv w79, rv w75, rv w79, .val .null, rv w79, rv w169] [(.int (1 : Int32))])) st171 ?_
      refine Goes.step (T2 := T171) (g2 := (mkF m 320 #[iv p1, iv p2, iv (p2 &&& (16383 : Int32)), rv b71, rv w75, rv w79, iv 3, iv 0, rv w75, rv w79, rv w75, rv w79, .val .null, rv w79, rv w169] [])) (fun _ hr => XS.ifYes X171.here hx rfl (pc0 := 315) (pc' := 320) rfl (hb hby at_315) rfl ((if0 _ _).trans (feq (by decide : ¬ ((1 : Int32) = (0 : Int32)))).2) (by decide) (by decide) hr) ?_
      refine Goes.step (T2 := T171) (g2 := (mkF m 321 #[iv p1, iv p2, iv (p2 &&& (16383 : Int32)), rv b71, rv w75, rv w79, iv 3, iv 0, rv w75, rv w79, rv w75, rv w79, .val .null, rv w79, rv w169] [(.int (1 : Int32))])) (fun _ hr => XS.iconst X171.here hx rfl (hb hby at_320) hr) ?_
      exact Goes.ret (v := some (.int (1 : Int32))) X171 (by decide) (by decide) (fun h => by rw [Bd.returns] at h; cases h) ⟨rfl, N171⟩ (fun fs hr => retN X171 hx (t := .boolean) Bd.returns (by simp) (hb hby at_321) hr)
    · refine Goes.step (T2 := T83) (g2 := (mkF m 90 #[iv p1, iv p2, iv (p2 &&& (16383 : Int32)), rv b71, rv w75, rv w79, iv 3, .unset, .unset, .unset, .unset, .unset, .unset, .unset, .unset] [])) (fun _ hr => XS.ifNo X83.here hx rfl (hb hby at_87) rfl ((if0 _ _).trans (feq hc87_159).1) hr) ?_
      refine Goes.step (T2 := T83) (g2 := (mkF m 91 #[iv p1, iv p2, iv (p2 &&& (16383 : Int32)), rv b71, rv w75, rv w79, iv 3, .unset, .unset, .unset, .unset, .unset, .unset, .unset, .unset] [(.int (1 : Int32))])) (fun _ hr => XS.iconst X83.here hx rfl (hb hby at_90) hr) ?_
      refine Goes.step (T2 := T83) (g2 := (mkF m 95 #[iv p1, iv p2, iv (p2 &&& (16383 : Int32)), rv b71, rv w75, rv w79, iv 3, .unset, .unset, .unset, .unset, .unset, .unset, .unset, .unset] [(.int (1 : Int32))])) (fun _ hr => XS.goto X83.here hx rfl (pc0 := 91) (pc' := 95) rfl (hb hby at_91) (by decide) (by decide) hr) ?_
      refine Goes.step (T2 := T83) (g2 := (mkF m 97 #[iv p1, iv p2, iv (p2 &&& (16383 : Int32)), rv b71, rv w75, rv w79, iv 3, iv 1, .unset, .unset, .unset, .unset, .unset, .unset, .unset] [])) (fun _ hr => XS.istore X83.here hx rfl (hb hby at_95) rfl (l' := #[iv p1, iv p2, iv (p2 &&& (16383 : Int32)), rv b71, rv w75, rv w79, iv 3, iv 1, .unset, .unset, .unset, .unset, .unset, .unset, .unset]) rfl hr) ?_
      refine Goes.step (T2 := T83) (g2 := (mkF m 98 #[iv p1, iv p2, iv (p2 &&& (16383 : Int32)), rv b71, rv w75, rv w79, iv 3, iv 1, .unset, .unset, .unset, .unset, .unset, .unset, .unset] [.null])) (fun _ hr => XS.aconstNull X83.here hx rfl (hb hby at_97) hr) ?_
      refine Goes.step (T2 := T83) (g2 := (mkF m 100 #[iv p1, iv p2, iv (p2 &&& (16383 : Int32)), rv b71, rv w75, rv w79, iv 3, iv 1, .val .null, .unset, .unset, .unset, .unset, .unset, .unset] [])) (fun _ hr => XS.astore X83.here hx rfl (hb hby at_98) rfl rfl (l' := #[iv p1, iv p2, iv (p2 &&& (16383 : Int32)), rv b71, rv w75, rv w79, iv 3, iv 1, .val .null, .unset, .unset, .unset, .unset, .unset, .unset]) rfl hr) ?_
      refine Goes.step (T2 := T83) (g2 := (mkF m 101 #[iv p1, iv p2, iv (p2 &&& (16383 : Int32)), rv b71, rv w75, rv w79, iv 3, iv 1, .val .null, .unset, .unset, .unset, .unset, .unset, .unset] [.null])) (fun _ hr => XS.aconstNull X83.here hx rfl (hb hby at_100) hr) ?_
      refine Goes.step (T2 := T83) (g2 := (mkF m 103 #[iv p1, iv p2, iv (p2 &&& (16383 : Int32)), rv b71, rv w75, rv w79, iv 3, iv 1, .val .null, .val .null, .unset, .unset, .unset, .unset, .unset] [])) (fun _ hr => XS.astore X83.here hx rfl (hb hby at_101) rfl rfl (l' := #[iv p1, iv p2, iv (p2 &&& (16383 : Int32)), rv b71, rv w75, rv w79, iv 3, iv 1, .val .null, .val .null, .unset, .unset, .unset, .unset, .unset]) rfl hr) ?_
      refine Goes.step (T2 := T83) (g2 := (mkF m 105 #[iv p1, iv p2, iv (p2 &&& (16383 : Int32)), rv b71, rv w75, rv w79, iv 3, iv 1, .val .null, .val .null, .unset, .unset, .unset, .unset, .unset] [(.int (3 : Int32))])) (fun _ hr => XS.iload X83.here hx rfl (hb hby at_103) rfl  hr) ?_
      refine Goes.step (T2 := T83) (g2 := (mkF m 106 #[iv p1, iv p2, iv (p2 &&& (16383 : Int32)), rv b71, rv w75, rv w79, iv 3, iv 1, .val .null, .val .null, .unset, .unset, .unset, .unset, .unset] [(.int (1 : Int32)), (.int (3 : Int32))])) (fun _ hr => XS.iconst X83.here hx rfl (hb hby at_105) hr) ?_
      refine Goes.step (T2 := T83) (g2 := (mkF m 122 #[iv p1, iv p2, iv (p2 &&& (16383 : Int32)), rv b71, rv w75, rv w79, iv 3, iv 1, .val .null, .val .null, .unset, .unset, .unset, .unset, .unset] [])) (fun _ hr => XS.icmpYes X83.here hx rfl (pc0 := 106) (pc' := 122) rfl (hb hby at_106) rfl (feq (by decide : ¬ ((3 : Int32) = (1 : Int32)))).2 (by decide) (by decide) hr) ?_
      refine Goes.step (T2 := T83) (g2 := (mkF m 124 #[iv p1, iv p2, iv (p2 &&& (16383 : Int32)), rv b71, rv w75, rv w79, iv 3, iv 1, .val .null, .val .null, .unset, .unset, .unset, .unset, .unset] [(.int (3 : Int32))])) (fun _ hr => XS.iload X83.here hx rfl (hb hby at_122) rfl  hr) ?_
      refine Goes.step (T2 := T83) (g2 := (mkF m 125 #[iv p1, iv p2, iv (p2 &&& (16383 : Int32)), rv b71, rv w75, rv w79, iv 3, iv 1, .val .null, .val .null, .unset, .unset, .unset, .unset, .unset] [(.int (2 : Int32)), (.int (3 : Int32))])) (fun _ hr => XS.iconst X83.here hx rfl (hb hby at_124) hr) ?_
      refine Goes.step (T2 := T83) (g2 := (mkF m 151 #[iv p1, iv p2, iv (p2 &&& (16383 : Int32)), rv b71, rv w75, rv w79, iv 3, iv 1, .val .null, .val .null, .unset, .unset, .unset, .unset, .unset] [])) (fun _ hr => XS.icmpYes X83.here hx rfl (pc0 := 125) (pc' := 151) rfl (hb hby at_125) rfl (feq (by decide : ¬ ((3 : Int32) = (2 : Int32)))).2 (by decide) (by decide) hr) ?_
      refine Goes.step (T2 := T83) (g2 := (mkF m 153 #[iv p1, iv p2, iv (p2 &&& (16383 : Int32)), rv b71, rv w75, rv w79, iv 3, iv 1, .val .null, .val .null, .unset, .unset, .unset, .unset, .unset] [(.int (3 : Int32))])) (fun _ hr => XS.iload X83.here hx rfl (hb hby at_151) rfl  hr) ?_
      refine Goes.step (T2 := T83) (g2 := (mkF m 154 #[iv p1, iv p2, iv (p2 &&& (16383 : Int32)), rv b71, rv w75, rv w79, iv 3, iv 1, .val .null, .val .null, .unset, .unset, .unset, .unset, .unset] [(.int (3 : Int32)), (.int (3 : Int32))])) (fun _ hr => XS.iconst X83.here hx rfl (hb hby at_153) hr) ?_
      refine Goes.step (T2 := T83) (g2 := (mkF m 157 #[iv p1, iv p2, iv (p2 &&& (16383 : Int32)), rv b71, rv w75, rv w79, iv 3, iv 1, .val .null, .val .null, .unset, .unset, .unset, .unset, .unset] [])) (fun _ hr => XS.icmpNo X83.here hx rfl (hb hby at_154) rfl (teq (by decide : (3 : Int32) = (3 : Int32))).2 hr) ?_
      refine Goes.step (T2 := T83) (g2 := (mkF m 158 #[iv p1, iv p2, iv (p2 &&& (16383 : Int32)), rv b71, rv w75, rv w79, iv 3, iv 1, .val .null, .val .null, .unset, .unset, .unset, .unset, .unset] [(.ref b71)])) (fun _ hr => XS.aloadN X83.here hx rfl (hb hby at_157) rfl rfl hr) ?_
      refine Goes.step (T2 := T83) (g2 := (mkF m 160 #[iv p1, iv p2, iv (p2 &&& (16383 : Int32)), rv b71, rv w75, rv w79, iv 3, iv 1, .val .null, .val .null, .unset, .unset, .unset, .unset, .unset] [(.ref w79), (.ref b71)])) (fun _ hr => XS.aload X83.here hx rfl (hb hby at_158) rfl rfl hr) ?_
      have Zs172 : n0 ≤ h83.size := Nat.le_trans Z0 K83.1
      obtain ⟨cq173, kq173, q173a, q173b, q173c⟩ := isOf hZ e83 E_b71_83
      obtain ⟨_, _, ⟨T173, L173, k173, n173⟩, -, X173, ⟨Lc173, hQ173, l173, y173, z173⟩, st173⟩ := X83.virtualBack hx (y := Y2) (z := Y2) hown (mvT hZ (tw hw 25 rfl)) (mvT hZ (tw hw 26 rfl)) (notFace_of_selects (args := #[]) (mvT hZ (tw hw 28 rfl))) (mvT hZ (tw hw 28 rfl)) (mvT hZ (tw hw 27 rfl)) (by decide) (backOf (W := 0) (rm_give0 l Z a0 hw [] b71 sp73 k73 .null .null .null w79 h83 n0 Zs172 (Old.keep O0 K83 hws) E_b71_83 F_b71_spare_83 F_b71_spareCount_83 V_sp73_83 E_w79_83 L_w79_83 ge_b71 ge_sp73 (Nat.ne_of_lt (Nat.lt_of_lt_of_le A71.lt P73_0)) (Ne.symm (Nat.ne_of_lt (Nat.lt_of_lt_of_le E_b71_75.lt P79_0))) (Ne.symm (Nat.ne_of_lt (Nat.lt_of_lt_of_le V_sp73_75.lt P79_0))) P73_4) hZ (tw hw 29 rfl) (tw hw 2 rfl) (by decide) (by decide)) q173a q173c (g := (mkF m 160 #[iv p1, iv p2, iv (p2 &&& (16383 : Int32)), rv b71, rv w75, rv w79, iv 3, iv 1, .val .null, .val .null, .unset, .unset, .unset, .unset, .unset] [(.ref w79), (.ref b71)])) rfl (by rw [hml]; rfl) (Steps.refl _) (argsL := [(.ref w79)]) (rest := []) (lenOf pd_3 rfl) rfl (by show 2 * 0 + _ ≤ _; exact Nat.le_of_eq rfl) (hb hby at_160) (fun _ _ => ⟨rfl, e83, (by decide : 4 + 0 ≤ _), (by decide : 32834 + 0 ≤ _)⟩)
      dsimp only [Pt.U, Pt.locs, Pt.cells, Pt.slots] at X173 l173 y173 z173 st173 hQ173
      subst l173 y173 z173
      obtain ⟨rfl, N173q, Kc173, P173_0, P173_1, P173_2⟩ := hQ173
      have N173 := Fr.app N83 N173q
      have E_b71_173 : Exa Z T173.heap b71 "com/example/api_policy_gateway/apipolicygateway/net/BufferPool" := E_b71_83.keep Kc173
      have E_w75_173 : Exa Z T173.heap w75 "[B" := E_w75_83.keep Kc173
      have E_w79_173 : Exa Z T173.heap w79 "[B" := E_w79_83.keep Kc173
      have L_w75_173 : LenB Z T173.heap w75 (16384 : Int32) := L_w75_83.keep Kc173 (ninS (Ne.symm (Nat.ne_of_lt (Nat.lt_of_lt_of_le E_b71_73.lt P75_0))) (ninS (Ne.symm (Nat.ne_of_lt (Nat.lt_of_lt_of_le V_sp73_73c.lt P75_0))) nin0))
      have L_w79_173 : LenB Z T173.heap w79 (16384 : Int32) := L_w79_83.keep Kc173 (ninS (Ne.symm (Nat.ne_of_lt (Nat.lt_of_lt_of_le E_b71_75.lt P79_0))) (ninS (Ne.symm (Nat.ne_of_lt (Nat.lt_of_lt_of_le V_sp73_75.lt P79_0))) nin0))
      have K173 : Keep h0 T173.heap [] := K83.trans Kc173 (allS (Or.inr sz_b71) (allS (Or.inr sz_sp73) all0))
      have F_b71_spare_173c : Fld Z T173.heap b71 "com/example/api_policy_gateway/apipolicygateway/net/BufferPool" "spare" "[[B" (.ref sp73) := P173_0
      have F_b71_spareCount_173c : Fld Z T173.heap b71 "com/example/api_policy_gateway/apipolicygateway/net/BufferPool" "spareCount" "I" (.int (1 : Int32)) := P173_1
      have V_sp73_173c : Arv Z T173.heap sp73 k73 (.array .byte) (64 : Int32) [(.ref w79), .null, .null] .null := P173_2
      refine Goes.step (T2 := T173) (g2 := (mkF m 163 #[iv p1, iv p2, iv (p2 &&& (16383 : Int32)), rv b71, rv w75, rv w79, iv 3, iv 1, .val .null, .val .null, .unset, .unset, .unset, .unset, .unset] [])) (fun _ hr => st173.trans hr) ?_
      refine Goes.step (T2 := T173) (g2 := (mkF m 164 #[iv p1, iv p2, iv (p2 &&& (16383 : Int32)), rv b71, rv w75, rv w79, iv 3, iv 1, .val .null, .val .null, .unset, .unset, .unset, .unset, .unset] [(.ref b71)])) (fun _ hr => XS.aloadN X173.here hx rfl (hb hby at_163) rfl rfl hr) ?_
      refine Goes.step (T2 := T173) (g2 := (mkF m 166 #[iv p1, iv p2, iv (p2 &&& (16383 : Int32)), rv b71, rv w75, rv w79, iv 3, iv 1, .val .null, .val .null, .unset, .unset, .unset, .unset, .unset] [(.ref w75), (.ref b71)])) (fun _ hr => XS.aload X173.here hx rfl (hb hby at_164) rfl rfl hr) ?_
      have Zs174 : n0 ≤ T173.heap.size := Nat.le_trans Z0 K173.1
      obtain ⟨cq175, kq175, q175a, q175b, q175c⟩ := isOf hZ rfl E_b71_173
      obtain ⟨_, _, ⟨T175, L175, k175, n175⟩, -, X175, ⟨Lc175, hQ175, l175, y175, z175⟩, st175⟩ := X173.virtualBack hx (y := Y2) (z := Y2) hown (mvT hZ (tw hw 25 rfl)) (mvT hZ (tw hw 26 rfl)) (notFace_of_selects (args := #[]) (mvT hZ (tw hw 28 rfl))) (mvT hZ (tw hw 28 rfl)) (mvT hZ (tw hw 27 rfl)) (by decide) (backOf (W := 0) (rm_give1 l Z a0 hw [] b71 sp73 k73 (.ref w79) .null .null w75 T173.heap n0 Zs174 (Old.keep O0 K173 hws) E_b71_173 F_b71_spare_173c F_b71_spareCount_173c V_sp73_173c E_w75_173 L_w75_173 ge_b71 ge_sp73 (Nat.ne_of_lt (Nat.lt_of_lt_of_le A71.lt P73_0)) (Ne.symm (Nat.ne_of_lt (Nat.lt_of_lt_of_le E_b71_73.lt P75_0))) (Ne.symm (Nat.ne_of_lt (Nat.lt_of_lt_of_le V_sp73_73c.lt P75_0))) P73_4) hZ (tw hw 29 rfl) (tw hw 2 rfl) (by decide) (by decide)) q175a q175c (g := (mkF m 166 #[iv p1, iv p2, iv (p2 &&& (16383 : Int32)), rv b71, rv w75, rv w79, iv 3, iv 1, .val .null, .val .null, .unset, .unset, .unset, .unset, .unset] [(.ref w75), (.ref b71)])) rfl (by rw [hml]; rfl) (Steps.refl _) (argsL := [(.ref w75)]) (rest := []) (lenOf pd_3 rfl) rfl (by show 2 * 0 + _ ≤ _; exact Nat.le_of_eq rfl) (hb hby at_166) (fun _ _ => ⟨rfl, rfl, (by decide : 4 + 0 ≤ _), (by decide : 32834 + 0 ≤ _)⟩)
      dsimp only [Pt.U, Pt.locs, Pt.cells, Pt.slots] at X175 l175 y175 z175 st175 hQ175
      subst l175 y175 z175
      obtain ⟨rfl, N175q, Kc175, P175_0, P175_1, P175_2⟩ := hQ175
      have N175 := Fr.app N173 N175q
      have E_b71_175 : Exa Z T175.heap b71 "com/example/api_policy_gateway/apipolicygateway/net/BufferPool" := E_b71_173.keep Kc175
      have E_w75_175 : Exa Z T175.heap w75 "[B" := E_w75_173.keep Kc175
      have E_w79_175 : Exa Z T175.heap w79 "[B" := E_w79_173.keep Kc175
      have L_w75_175 : LenB Z T175.heap w75 (16384 : Int32) := L_w75_173.keep Kc175 (ninS (Ne.symm (Nat.ne_of_lt (Nat.lt_of_lt_of_le E_b71_73.lt P75_0))) (ninS (Ne.symm (Nat.ne_of_lt (Nat.lt_of_lt_of_le V_sp73_73c.lt P75_0))) nin0))
      have L_w79_175 : LenB Z T175.heap w79 (16384 : Int32) := L_w79_173.keep Kc175 (ninS (Ne.symm (Nat.ne_of_lt (Nat.lt_of_lt_of_le E_b71_75.lt P79_0))) (ninS (Ne.symm (Nat.ne_of_lt (Nat.lt_of_lt_of_le V_sp73_75.lt P79_0))) nin0))
      have K175 : Keep h0 T175.heap [] := K173.trans Kc175 (allS (Or.inr sz_b71) (allS (Or.inr sz_sp73) all0))
      have F_b71_spare_175c : Fld Z T175.heap b71 "com/example/api_policy_gateway/apipolicygateway/net/BufferPool" "spare" "[[B" (.ref sp73) := P175_0
      have F_b71_spareCount_175c : Fld Z T175.heap b71 "com/example/api_policy_gateway/apipolicygateway/net/BufferPool" "spareCount" "I" (.int (2 : Int32)) := P175_1
      have V_sp73_175c : Arv Z T175.heap sp73 k73 (.array .byte) (64 : Int32) [(.ref w79), (.ref w75), .null] .null := P175_2
      refine Goes.step (T2 := T175) (g2 := (mkF m 169 #[iv p1, iv p2, iv (p2 &&& (16383 : Int32)), rv b71, rv w75, rv w79, iv 3, iv 1, .val .null, .val .null, .unset, .unset, .unset, .unset, .unset] [])) (fun _ hr => st175.trans hr) ?_
      refine Goes.step (T2 := T175) (g2 := (mkF m 171 #[iv p1, iv p2, iv (p2 &&& (16383 : Int32)), rv b71, rv w75, rv w79, iv 3, iv 1, .val .null, .val .null, .unset, .unset, .unset, .unset, .unset] [(.ref w75)])) (fun _ hr => XS.aload X175.here hx rfl (hb hby at_169) rfl rfl hr) ?_
      refine Goes.step (T2 := T175) (g2 := (mkF m 173 #[iv p1, iv p2, iv (p2 &&& (16383 : Int32)), rv b71, rv w75, rv w79, iv 3, iv 1, rv w75, .val .null, .unset, .unset, .unset, .unset, .unset] [])) (fun _ hr => XS.astore X175.here hx rfl (hb hby at_171) rfl rfl (l' := #[iv p1, iv p2, iv (p2 &&& (16383 : Int32)), rv b71, rv w75, rv w79, iv 3, iv 1, rv w75, .val .null, .unset, .unset, .unset, .unset, .unset]) rfl hr) ?_
      refine Goes.step (T2 := T175) (g2 := (mkF m 175 #[iv p1, iv p2, iv (p2 &&& (16383 : Int32)), rv b71, rv w75, rv w79, iv 3, iv 1, rv w75, .val .null, .unset, .unset, .unset, .unset, .unset] [(.ref w79)])) (fun _ hr => XS.aload X175.here hx rfl (hb hby at_173) rfl rfl hr) ?_
      refine Goes.step (T2 := T175) (g2 := (mkF m 177 #[iv p1, iv p2, iv (p2 &&& (16383 : Int32)), rv b71, rv w75, rv w79, iv 3, iv 1, rv w75, rv w79, .unset, .unset, .unset, .unset, .unset] [])) (fun _ hr => XS.astore X175.here hx rfl (hb hby at_175) rfl rfl (l' := #[iv p1, iv p2, iv (p2 &&& (16383 : Int32)), rv b71, rv w75, rv w79, iv 3, iv 1, rv w75, rv w79, .unset, .unset, .unset, .unset, .unset]) rfl hr) ?_
      refine Goes.step (T2 := T175) (g2 := (mkF m 178 #[iv p1, iv p2, iv (p2 &&& (16383 : Int32)), rv b71, rv w75, rv w79, iv 3, iv 1, rv w75, rv w79, .unset, .unset, .unset, .unset, .unset] [(.ref b71)])) (fun _ hr => XS.aloadN X175.here hx rfl (hb hby at_177) rfl rfl hr) ?_
      have Zs176 : n0 ≤ T175.heap.size := Nat.le_trans Z0 K175.1
      obtain ⟨cq177, kq177, q177a, q177b, q177c⟩ := isOf hZ rfl E_b71_175
      obtain ⟨_, _, ⟨T177, L177, k177, n177⟩, -, X177, ⟨Lc177, hQ177, l177, y177, z177⟩, st177⟩ := X175.virtualBack hx (y := Y1) (z := Y1) hown (mvT hZ (tw hw 13 rfl)) (mvT hZ (tw hw 14 rfl)) (notFace_of_selects (args := #[]) (mvT hZ (tw hw 16 rfl))) (mvT hZ (tw hw 16 rfl)) (mvT hZ (tw hw 15 rfl)) (by decide) (backOf (W := 0) (rm_take2 l Z a0 hw [] b71 sp73 k73 (.ref w79) .null w75 T175.heap n0 Zs176 (Old.keep O0 K175 hws) E_b71_175 F_b71_spare_175c F_b71_spareCount_175c V_sp73_175c ge_b71 ge_sp73 (Nat.ne_of_lt (Nat.lt_of_lt_of_le A71.lt P73_0))) hZ (tw hw 17 rfl) (tw hw 2 rfl) (by decide) (by decide)) q177a q177c (g := (mkF m 178 #[iv p1, iv p2, iv (p2 &&& (16383 : Int32)), rv b71, rv w75, rv w79, iv 3, iv 1, rv w75, rv w79, .unset, .unset, .unset, .unset, .unset] [(.ref b71)])) rfl (by rw [hml]; rfl) (Steps.refl _) (argsL := []) (rest := []) (lenOf pd_1 rfl) rfl (by show 2 * 0 + _ ≤ _; exact Nat.le_of_eq rfl) (hb hby at_178) (fun _ _ => ⟨rfl, rfl, (by decide : 4 + 0 ≤ _), (by decide : 32834 + 0 ≤ _)⟩)
      dsimp only [Pt.U, Pt.locs, Pt.cells, Pt.slots] at X177 l177 y177 z177 st177 hQ177
      subst l177 y177 z177
      obtain ⟨rfl, N177q, Kc177, P177_0, P177_1, P177_2⟩ := hQ177
      have N177 := Fr.app N175 N177q
      have E_b71_177 : Exa Z T177.heap b71 "com/example/api_policy_gateway/apipolicygateway/net/BufferPool" := E_b71_175.keep Kc177
      have E_w75_177 : Exa Z T177.heap w75 "[B" := E_w75_175.keep Kc177
      have E_w79_177 : Exa Z T177.heap w79 "[B" := E_w79_175.keep Kc177
      have L_w75_177 : LenB Z T177.heap w75 (16384 : Int32) := L_w75_175.keep Kc177 (ninS (Ne.symm (Nat.ne_of_lt (Nat.lt_of_lt_of_le E_b71_73.lt P75_0))) (ninS (Ne.symm (Nat.ne_of_lt (Nat.lt_of_lt_of_le V_sp73_73c.lt P75_0))) nin0))
      have L_w79_177 : LenB Z T177.heap w79 (16384 : Int32) := L_w79_175.keep Kc177 (ninS (Ne.symm (Nat.ne_of_lt (Nat.lt_of_lt_of_le E_b71_75.lt P79_0))) (ninS (Ne.symm (Nat.ne_of_lt (Nat.lt_of_lt_of_le V_sp73_75.lt P79_0))) nin0))
      have K177 : Keep h0 T177.heap [] := K175.trans Kc177 (allS (Or.inr sz_b71) (allS (Or.inr sz_sp73) all0))
      have F_b71_spare_177c : Fld Z T177.heap b71 "com/example/api_policy_gateway/apipolicygateway/net/BufferPool" "spare" "[[B" (.ref sp73) := P177_0
      have F_b71_spareCount_177c : Fld Z T177.heap b71 "com/example/api_policy_gateway/apipolicygateway/net/BufferPool" "spareCount" "I" (.int (1 : Int32)) := P177_1
      have V_sp73_177c : Arv Z T177.heap sp73 k73 (.array .byte) (64 : Int32) [(.ref w79), .null, .null] .null := P177_2
      refine Goes.step (T2 := T177) (g2 := (mkF m 181 #[iv p1, iv p2, iv (p2 &&& (16383 : Int32)), rv b71, rv w75, rv w79, iv 3, iv 1, rv w75, rv w79, .unset, .unset, .unset, .unset, .unset] [(.ref w75)])) (fun _ hr => st177.trans hr) ?_
      refine Goes.step (T2 := T177) (g2 := (mkF m 183 #[iv p1, iv p2, iv (p2 &&& (16383 : Int32)), rv b71, rv w75, rv w79, iv 3, iv 1, rv w75, rv w79, rv w75, .unset, .unset, .unset, .unset] [])) (fun _ hr => XS.astore X177.here hx rfl (hb hby at_181) rfl rfl (l' := #[iv p1, iv p2, iv (p2 &&& (16383 : Int32)), rv b71, rv w75, rv w79, iv 3, iv 1, rv w75, rv w79, rv w75, .unset, .unset, .unset, .unset]) rfl hr) ?_
      refine Goes.step (T2 := T177) (g2 := (mkF m 185 #[iv p1, iv p2, iv (p2 &&& (16383 : Int32)), rv b71, rv w75, rv w79, iv 3, iv 1, rv w75, rv w79, rv w75, .unset, .unset, .unset, .unset] [(.ref w75)])) (fun _ hr => XS.aload X177.here hx rfl (hb hby at_183) rfl rfl hr) ?_
      refine Goes.step (T2 := T177) (g2 := (mkF m 188 #[iv p1, iv p2, iv (p2 &&& (16383 : Int32)), rv b71, rv w75, rv w79, iv 3, iv 1, rv w75, rv w79, rv w75, .unset, .unset, .unset, .unset] [])) (fun _ hr => XS.ifnullNo X177.here hx rfl (hb hby at_185) rfl hr) ?_
      refine Goes.step (T2 := T177) (g2 := (mkF m 190 #[iv p1, iv p2, iv (p2 &&& (16383 : Int32)), rv b71, rv w75, rv w79, iv 3, iv 1, rv w75, rv w79, rv w75, .unset, .unset, .unset, .unset] [(.ref w75)])) (fun _ hr => XS.aload X177.here hx rfl (hb hby at_188) rfl rfl hr) ?_
      refine Goes.step (T2 := T177) (g2 := (mkF m 192 #[iv p1, iv p2, iv (p2 &&& (16383 : Int32)), rv b71, rv w75, rv w79, iv 3, iv 1, rv w75, rv w79, rv w75, .unset, .unset, .unset, .unset] [(.ref w75), (.ref w75)])) (fun _ hr => XS.aload X177.here hx rfl (hb hby at_190) rfl rfl hr) ?_
      refine Goes.step (T2 := T177) (g2 := (mkF m 214 #[iv p1, iv p2, iv (p2 &&& (16383 : Int32)), rv b71, rv w75, rv w79, iv 3, iv 1, rv w75, rv w79, rv w75, .unset, .unset, .unset, .unset] [])) (fun _ hr => Jvm.RoadKit.acmp (g := (mkF m 192 #[iv p1, iv p2, iv (p2 &&& (16383 : Int32)), rv b71, rv w75, rv w79, iv 3, iv 1, rv w75, rv w79, rv w75, .unset, .unset, .unset, .unset] [(.ref w75), (.ref w75)])) X177 hx rfl rfl rfl (pc0 := 192) (pc' := 214) (same := true) rfl (hb hby at_192) rfl (decide_eq_true rfl) (by decide) (by decide) hr) ?_
      refine Goes.step (T2 := T177) (g2 := (mkF m 216 #[iv p1, iv p2, iv (p2 &&& (16383 : Int32)), rv b71, rv w75, rv w79, iv 3, iv 1, rv w75, rv w79, rv w75, .unset, .unset, .unset, .unset] [(.int (1 : Int32))])) (fun _ hr => XS.iload X177.here hx rfl (hb hby at_214) rfl  hr) ?_
      refine Goes.step (T2 := T177) (g2 := (mkF m 219 #[iv p1, iv p2, iv (p2 &&& (16383 : Int32)), rv b71, rv w75, rv w79, iv 3, iv 1, rv w75, rv w79, rv w75, .unset, .unset, .unset, .unset] [])) (fun _ hr => XS.ifNo X177.here hx rfl (hb hby at_216) rfl ((if0 _ _).trans (feq (by decide : ¬ ((1 : Int32) = (0 : Int32)))).1) hr) ?_
      refine Goes.step (T2 := T177) (g2 := (mkF m 220 #[iv p1, iv p2, iv (p2 &&& (16383 : Int32)), rv b71, rv w75, rv w79, iv 3, iv 1, rv w75, rv w79, rv w75, .unset, .unset, .unset, .unset] [(.ref b71)])) (fun _ hr => XS.aloadN X177.here hx rfl (hb hby at_219) rfl rfl hr) ?_
      refine Goes.step (T2 := T177) (g2 := (mkF m 222 #[iv p1, iv p2, iv (p2 &&& (16383 : Int32)), rv b71, rv w75, rv w79, iv 3, iv 1, rv w75, rv w79, rv w75, .unset, .unset, .unset, .unset] [(.ref w75), (.ref b71)])) (fun _ hr => XS.aload X177.here hx rfl (hb hby at_220) rfl rfl hr) ?_
      have Zs178 : n0 ≤ T177.heap.size := Nat.le_trans Z0 K177.1
      obtain ⟨cq179, kq179, q179a, q179b, q179c⟩ := isOf hZ rfl E_b71_177
      obtain ⟨_, _, ⟨T179, L179, k179, n179⟩, -, X179, ⟨Lc179, hQ179, l179, y179, z179⟩, st179⟩ := X177.virtualBack hx (y := Y2) (z := Y2) hown (mvT hZ (tw hw 25 rfl)) (mvT hZ (tw hw 26 rfl)) (notFace_of_selects (args := #[]) (mvT hZ (tw hw 28 rfl))) (mvT hZ (tw hw 28 rfl)) (mvT hZ (tw hw 27 rfl)) (by decide) (backOf (W := 0) (rm_give1 l Z a0 hw [] b71 sp73 k73 (.ref w79) .null .null w75 T177.heap n0 Zs178 (Old.keep O0 K177 hws) E_b71_177 F_b71_spare_177c F_b71_spareCount_177c V_sp73_177c E_w75_177 L_w75_177 ge_b71 ge_sp73 (Nat.ne_of_lt (Nat.lt_of_lt_of_le A71.lt P73_0)) (Ne.symm (Nat.ne_of_lt (Nat.lt_of_lt_of_le E_b71_73.lt P75_0))) (Ne.symm (Nat.ne_of_lt (Nat.lt_of_lt_of_le V_sp73_73c.lt P75_0))) P73_4) hZ (tw hw 29 rfl) (tw hw 2 rfl) (by decide) (by decide)) q179a q179c (g := (mkF m 222 #[iv p1, iv p2, iv (p2 &&& (16383 : Int32)), rv b71, rv w75, rv w79, iv 3, iv 1, rv w75, rv w79, rv w75, .unset, .unset, .unset, .unset] [(.ref w75), (.ref b71)])) rfl (by rw [hml]; rfl) (Steps.refl _) (argsL := [(.ref w75)]) (rest := []) (lenOf pd_3 rfl) rfl (by show 2 * 0 + _ ≤ _; exact Nat.le_of_eq rfl) (hb hby at_222) (fun _ _ => ⟨rfl, rfl, (by decide : 4 + 0 ≤ _), (by decide : 32834 + 0 ≤ _)⟩)
      dsimp only [Pt.U, Pt.locs, Pt.cells, Pt.slots] at X179 l179 y179 z179 st179 hQ179
      subst l179 y179 z179
      obtain ⟨rfl, N179q, Kc179, P179_0, P179_1, P179_2⟩ := hQ179
      have N179 := Fr.app N177 N179q
      have E_b71_179 : Exa Z T179.heap b71 "com/example/api_policy_gateway/apipolicygateway/net/BufferPool" := E_b71_177.keep Kc179
      have E_w75_179 : Exa Z T179.heap w75 "[B" := E_w75_177.keep Kc179
      have E_w79_179 : Exa Z T179.heap w79 "[B" := E_w79_177.keep Kc179
      have L_w75_179 : LenB Z T179.heap w75 (16384 : Int32) := L_w75_177.keep Kc179 (ninS (Ne.symm (Nat.ne_of_lt (Nat.lt_of_lt_of_le E_b71_73.lt P75_0))) (ninS (Ne.symm (Nat.ne_of_lt (Nat.lt_of_lt_of_le V_sp73_73c.lt P75_0))) nin0))
      have L_w79_179 : LenB Z T179.heap w79 (16384 : Int32) := L_w79_177.keep Kc179 (ninS (Ne.symm (Nat.ne_of_lt (Nat.lt_of_lt_of_le E_b71_75.lt P79_0))) (ninS (Ne.symm (Nat.ne_of_lt (Nat.lt_of_lt_of_le V_sp73_75.lt P79_0))) nin0))
      have K179 : Keep h0 T179.heap [] := K177.trans Kc179 (allS (Or.inr sz_b71) (allS (Or.inr sz_sp73) all0))
      have F_b71_spare_179c : Fld Z T179.heap b71 "com/example/api_policy_gateway/apipolicygateway/net/BufferPool" "spare" "[[B" (.ref sp73) := P179_0
      have F_b71_spareCount_179c : Fld Z T179.heap b71 "com/example/api_policy_gateway/apipolicygateway/net/BufferPool" "spareCount" "I" (.int (2 : Int32)) := P179_1
      have V_sp73_179c : Arv Z T179.heap sp73 k73 (.array .byte) (64 : Int32) [(.ref w79), (.ref w75), .null] .null := P179_2
      refine Goes.step (T2 := T179) (g2 := (mkF m 225 #[iv p1, iv p2, iv (p2 &&& (16383 : Int32)), rv b71, rv w75, rv w79, iv 3, iv 1, rv w75, rv w79, rv w75, .unset, .unset, .unset, .unset] [])) (fun _ hr => st179.trans hr) ?_
      refine Goes.step (T2 := T179) (g2 := (mkF m 227 #[iv p1, iv p2, iv (p2 &&& (16383 : Int32)), rv b71, rv w75, rv w79, iv 3, iv 1, rv w75, rv w79, rv w75, .unset, .unset, .unset, .unset] [(.ref w75)])) (fun _ hr => XS.aload X179.here hx rfl (hb hby at_225) rfl rfl hr) ?_
      refine Goes.step (T2 := T179) (g2 := (mkF m 229 #[iv p1, iv p2, iv (p2 &&& (16383 : Int32)), rv b71, rv w75, rv w79, iv 3, iv 1, rv w75, rv w79, rv w75, rv w75, .unset, .unset, .unset] [])) (fun _ hr => XS.astore X179.here hx rfl (hb hby at_227) rfl rfl (l' := #[iv p1, iv p2, iv (p2 &&& (16383 : Int32)), rv b71, rv w75, rv w79, iv 3, iv 1, rv w75, rv w79, rv w75, rv w75, .unset, .unset, .unset]) rfl hr) ?_
      refine Goes.step (T2 := T179) (g2 := (mkF m 231 #[iv p1, iv p2, iv (p2 &&& (16383 : Int32)), rv b71, rv w75, rv w79, iv 3, iv 1, rv w75, rv w79, rv w75, rv w75, .unset, .unset, .unset] [(.ref w79)])) (fun _ hr => XS.aload X179.here hx rfl (hb hby at_229) rfl rfl hr) ?_
      refine Goes.step (T2 := T179) (g2 := (mkF m 233 #[iv p1, iv p2, iv (p2 &&& (16383 : Int32)), rv b71, rv w75, rv w79, iv 3, iv 1, rv w75, rv w79, rv w75, rv w75, rv w79, .unset, .unset] [])) (fun _ hr => XS.astore X179.here hx rfl (hb hby at_231) rfl rfl (l' := #[iv p1, iv p2, iv (p2 &&& (16383 : Int32)), rv b71, rv w75, rv w79, iv 3, iv 1, rv w75, rv w79, rv w75, rv w75, rv w79, .unset, .unset]) rfl hr) ?_
      refine Goes.step (T2 := T179) (g2 := (mkF m 243 #[iv p1, iv p2, iv (p2 &&& (16383 : Int32)), rv b71, rv w75, rv w79, iv 3, iv 1, rv w75, rv w79, rv w75, rv w75, rv w79, .unset, .unset] [])) (fun _ hr => XS.goto X179.here hx rfl (pc0 := 233) (pc' := 243) rfl (hb hby at_233) (by decide) (by decide) hr) ?_
      refine Goes.step (T2 := T179) (g2 := (mkF m 244 #[iv p1, iv p2, iv (p2 &&& (16383 : Int32)), rv b71, rv w75, rv w79, iv 3, iv 1, rv w75, rv w79, rv w75, rv w75, rv w79, .unset, .unset] [(.ref b71)])) (fun _ hr => XS.aloadN X179.here hx rfl (hb hby at_243) rfl rfl hr) ?_
      have Zs180 : n0 ≤ T179.heap.size := Nat.le_trans Z0 K179.1
      obtain ⟨cq181, kq181, q181a, q181b, q181c⟩ := isOf hZ rfl E_b71_179
      obtain ⟨_, _, ⟨T181, L181, k181, n181⟩, -, X181, ⟨Lc181, hQ181, l181, y181, z181⟩, st181⟩ := X179.virtualBack hx (y := Y1) (z := Y1) hown (mvT hZ (tw hw 13 rfl)) (mvT hZ (tw hw 14 rfl)) (notFace_of_selects (args := #[]) (mvT hZ (tw hw 16 rfl))) (mvT hZ (tw hw 16 rfl)) (mvT hZ (tw hw 15 rfl)) (by decide) (backOf (W := 0) (rm_take2 l Z a0 hw [] b71 sp73 k73 (.ref w79) .null w75 T179.heap n0 Zs180 (Old.keep O0 K179 hws) E_b71_179 F_b71_spare_179c F_b71_spareCount_179c V_sp73_179c ge_b71 ge_sp73 (Nat.ne_of_lt (Nat.lt_of_lt_of_le A71.lt P73_0))) hZ (tw hw 17 rfl) (tw hw 2 rfl) (by decide) (by decide)) q181a q181c (g := (mkF m 244 #[iv p1, iv p2, iv (p2 &&& (16383 : Int32)), rv b71, rv w75, rv w79, iv 3, iv 1, rv w75, rv w79, rv w75, rv w75, rv w79, .unset, .unset] [(.ref b71)])) rfl (by rw [hml]; rfl) (Steps.refl _) (argsL := []) (rest := []) (lenOf pd_1 rfl) rfl (by show 2 * 0 + _ ≤ _; exact Nat.le_of_eq rfl) (hb hby at_244) (fun _ _ => ⟨rfl, rfl, (by decide : 4 + 0 ≤ _), (by decide : 32834 + 0 ≤ _)⟩)
      dsimp only [Pt.U, Pt.locs, Pt.cells, Pt.slots] at X181 l181 y181 z181 st181 hQ181
      subst l181 y181 z181
      obtain ⟨rfl, N181q, Kc181, P181_0, P181_1, P181_2⟩ := hQ181
      have N181 := Fr.app N179 N181q
      have E_b71_181 : Exa Z T181.heap b71 "com/example/api_policy_gateway/apipolicygateway/net/BufferPool" := E_b71_179.keep Kc181
      have E_w75_181 : Exa Z T181.heap w75 "[B" := E_w75_179.keep Kc181
      have E_w79_181 : Exa Z T181.heap w79 "[B" := E_w79_179.keep Kc181
      have L_w75_181 : LenB Z T181.heap w75 (16384 : Int32) := L_w75_179.keep Kc181 (ninS (Ne.symm (Nat.ne_of_lt (Nat.lt_of_lt_of_le E_b71_73.lt P75_0))) (ninS (Ne.symm (Nat.ne_of_lt (Nat.lt_of_lt_of_le V_sp73_73c.lt P75_0))) nin0))
      have L_w79_181 : LenB Z T181.heap w79 (16384 : Int32) := L_w79_179.keep Kc181 (ninS (Ne.symm (Nat.ne_of_lt (Nat.lt_of_lt_of_le E_b71_75.lt P79_0))) (ninS (Ne.symm (Nat.ne_of_lt (Nat.lt_of_lt_of_le V_sp73_75.lt P79_0))) nin0))
      have K181 : Keep h0 T181.heap [] := K179.trans Kc181 (allS (Or.inr sz_b71) (allS (Or.inr sz_sp73) all0))
      have F_b71_spare_181c : Fld Z T181.heap b71 "com/example/api_policy_gateway/apipolicygateway/net/BufferPool" "spare" "[[B" (.ref sp73) := P181_0
      have F_b71_spareCount_181c : Fld Z T181.heap b71 "com/example/api_policy_gateway/apipolicygateway/net/BufferPool" "spareCount" "I" (.int (1 : Int32)) := P181_1
      have V_sp73_181c : Arv Z T181.heap sp73 k73 (.array .byte) (64 : Int32) [(.ref w79), .null, .null] .null := P181_2
      refine Goes.step (T2 := T181) (g2 := (mkF m 247 #[iv p1, iv p2, iv (p2 &&& (16383 : Int32)), rv b71, rv w75, rv w79, iv 3, iv 1, rv w75, rv w79, rv w75, rv w75, rv w79, .unset, .unset] [(.ref w75)])) (fun _ hr => st181.trans hr) ?_
      refine Goes.step (T2 := T181) (g2 := (mkF m 249 #[iv p1, iv p2, iv (p2 &&& (16383 : Int32)), rv b71, rv w75, rv w79, iv 3, iv 1, rv w75, rv w79, rv w75, rv w75, rv w79, rv w75, .unset] [])) (fun _ hr => XS.astore X181.here hx rfl (hb hby at_247) rfl rfl (l' := #[iv p1, iv p2, iv (p2 &&& (16383 : Int32)), rv b71, rv w75, rv w79, iv 3, iv 1, rv w75, rv w79, rv w75, rv w75, rv w79, rv w75, .unset]) rfl hr) ?_
      refine Goes.step (T2 := T181) (g2 := (mkF m 251 #[iv p1, iv p2, iv (p2 &&& (16383 : Int32)), rv b71, rv w75, rv w79, iv 3, iv 1, rv w75, rv w79, rv w75, rv w75, rv w79, rv w75, .unset] [(.ref w75)])) (fun _ hr => XS.aload X181.here hx rfl (hb hby at_249) rfl rfl hr) ?_
      refine Goes.step (T2 := T181) (g2 := (mkF m 254 #[iv p1, iv p2, iv (p2 &&& (16383 : Int32)), rv b71, rv w75, rv w79, iv 3, iv 1, rv w75, rv w79, rv w75, rv w75, rv w79, rv w75, .unset] [])) (fun _ hr => XS.ifnullNo X181.here hx rfl (hb hby at_251) rfl hr) ?_
      refine Goes.step (T2 := T181) (g2 := (mkF m 256 #[iv p1, iv p2, iv (p2 &&& (16383 : Int32)), rv b71, rv w75, rv w79, iv 3, iv 1, rv w75, rv w79, rv w75, rv w75, rv w79, rv w75, .unset] [(.ref w75)])) (fun _ hr => XS.aload X181.here hx rfl (hb hby at_254) rfl rfl hr) ?_
      refine Goes.step (T2 := T181) (g2 := (mkF m 258 #[iv p1, iv p2, iv (p2 &&& (16383 : Int32)), rv b71, rv w75, rv w79, iv 3, iv 1, rv w75, rv w79, rv w75, rv w75, rv w79, rv w75, .unset] [(.ref w75), (.ref w75)])) (fun _ hr => XS.aload X181.here hx rfl (hb hby at_256) rfl rfl hr) ?_
      refine Goes.step (T2 := T181) (g2 := (mkF m 281 #[iv p1, iv p2, iv (p2 &&& (16383 : Int32)), rv b71, rv w75, rv w79, iv 3, iv 1, rv w75, rv w79, rv w75, rv w75, rv w79, rv w75, .unset] [])) (fun _ hr => Jvm.RoadKit.acmp (g := (mkF m 258 #[iv p1, iv p2, iv (p2 &&& (16383 : Int32)), rv b71, rv w75, rv w79, iv 3, iv 1, rv w75, rv w79, rv w75, rv w75, rv w79, rv w75, .unset] [(.ref w75), (.ref w75)])) X181 hx rfl rfl rfl (pc0 := 258) (pc' := 281) (same := true) rfl (hb hby at_258) rfl (decide_eq_true rfl) (by decide) (by decide) hr) ?_
      refine Goes.step (T2 := T181) (g2 := (mkF m 282 #[iv p1, iv p2, iv (p2 &&& (16383 : Int32)), rv b71, rv w75, rv w79, iv 3, iv 1, rv w75, rv w79, rv w75, rv w75, rv w79, rv w75, .unset] [(.ref b71)])) (fun _ hr => XS.aloadN X181.here hx rfl (hb hby at_281) rfl rfl hr) ?_
      have Zs182 : n0 ≤ T181.heap.size := Nat.le_trans Z0 K181.1
      obtain ⟨cq183, kq183, q183a, q183b, q183c⟩ := isOf hZ rfl E_b71_181
      obtain ⟨_, _, ⟨T183, L183, k183, n183⟩, -, X183, ⟨Lc183, hQ183, l183, y183, z183⟩, st183⟩ := X181.virtualBack hx (y := Y1) (z := Y1) hown (mvT hZ (tw hw 13 rfl)) (mvT hZ (tw hw 14 rfl)) (notFace_of_selects (args := #[]) (mvT hZ (tw hw 16 rfl))) (mvT hZ (tw hw 16 rfl)) (mvT hZ (tw hw 15 rfl)) (by decide) (backOf (W := 0) (rm_take1 l Z a0 hw [] b71 sp73 k73 .null .null w79 T181.heap n0 Zs182 (Old.keep O0 K181 hws) E_b71_181 F_b71_spare_181c F_b71_spareCount_181c V_sp73_181c ge_b71 ge_sp73 (Nat.ne_of_lt (Nat.lt_of_lt_of_le A71.lt P73_0))) hZ (tw hw 17 rfl) (tw hw 2 rfl) (by decide) (by decide)) q183a q183c (g := (mkF m 282 #[iv p1, iv p2, iv (p2 &&& (16383 : Int32)), rv b71, rv w75, rv w79, iv 3, iv 1, rv w75, rv w79, rv w75, rv w75, rv w79, rv w75, .unset] [(.ref b71)])) rfl (by rw [hml]; rfl) (Steps.refl _) (argsL := []) (rest := []) (lenOf pd_1 rfl) rfl (by show 2 * 0 + _ ≤ _; exact Nat.le_of_eq rfl) (hb hby at_282) (fun _ _ => ⟨rfl, rfl, (by decide : 4 + 0 ≤ _), (by decide : 32834 + 0 ≤ _)⟩)
      dsimp only [Pt.U, Pt.locs, Pt.cells, Pt.slots] at X183 l183 y183 z183 st183 hQ183
      subst l183 y183 z183
      obtain ⟨rfl, N183q, Kc183, P183_0, P183_1, P183_2⟩ := hQ183
      have N183 := Fr.app N181 N183q
      have E_b71_183 : Exa Z T183.heap b71 "com/example/api_policy_gateway/apipolicygateway/net/BufferPool" := E_b71_181.keep Kc183
      have E_w75_183 : Exa Z T183.heap w75 "[B" := E_w75_181.keep Kc183
      have E_w79_183 : Exa Z T183.heap w79 "[B" := E_w79_181.keep Kc183
      have L_w75_183 : LenB Z T183.heap w75 (16384 : Int32) := L_w75_181.keep Kc183 (ninS (Ne.symm (Nat.ne_of_lt (Nat.lt_of_lt_of_le E_b71_73.lt P75_0))) (ninS (Ne.symm (Nat.ne_of_lt (Nat.lt_of_lt_of_le V_sp73_73c.lt P75_0))) nin0))
      have L_w79_183 : LenB Z T183.heap w79 (16384 : Int32) := L_w79_181.keep Kc183 (ninS (Ne.symm (Nat.ne_of_lt (Nat.lt_of_lt_of_le E_b71_75.lt P79_0))) (ninS (Ne.symm (Nat.ne_of_lt (Nat.lt_of_lt_of_le V_sp73_75.lt P79_0))) nin0))
      have K183 : Keep h0 T183.heap [] := K181.trans Kc183 (allS (Or.inr sz_b71) (allS (Or.inr sz_sp73) all0))
      have F_b71_spare_183c : Fld Z T183.heap b71 "com/example/api_policy_gateway/apipolicygateway/net/BufferPool" "spare" "[[B" (.ref sp73) := P183_0
      have F_b71_spareCount_183c : Fld Z T183.heap b71 "com/example/api_policy_gateway/apipolicygateway/net/BufferPool" "spareCount" "I" (.int (0 : Int32)) := P183_1
      have V_sp73_183c : Arv Z T183.heap sp73 k73 (.array .byte) (64 : Int32) [.null, .null, .null] .null := P183_2
      refine Goes.step (T2 := T183) (g2 := (mkF m 285 #[iv p1, iv p2, iv (p2 &&& (16383 : Int32)), rv b71, rv w75, rv w79, iv 3, iv 1, rv w75, rv w79, rv w75, rv w75, rv w79, rv w75, .unset] [(.ref w79)])) (fun _ hr => st183.trans hr) ?_
      refine Goes.step (T2 := T183) (g2 := (mkF m 287 #[iv p1, iv p2, iv (p2 &&& (16383 : Int32)), rv b71, rv w75, rv w79, iv 3, iv 1, rv w75, rv w79, rv w75, rv w75, rv w79, rv w75, rv w79] [])) (fun _ hr => XS.astore X183.here hx rfl (hb hby at_285) rfl rfl (l' := #[iv p1, iv p2, iv (p2 &&& (16383 : Int32)), rv b71, rv w75, rv w79, iv 3, iv 1, rv w75, rv w79, rv w75, rv w75, rv w79, rv w75, rv w79]) rfl hr) ?_
      refine Goes.step (T2 := T183) (g2 := (mkF m 289 #[iv p1, iv p2, iv (p2 &&& (16383 : Int32)), rv b71, rv w75, rv w79, iv 3, iv 1, rv w75, rv w79, rv w75, rv w75, rv w79, rv w75, rv w79] [(.ref w79)])) (fun _ hr => XS.aload X183.here hx rfl (hb hby at_287) rfl rfl hr) ?_
      refine Goes.step (T2 := T183) (g2 := (mkF m 292 #[iv p1, iv p2, iv (p2 &&& (16383 : Int32)), rv b71, rv w75, rv w79, iv 3, iv 1, rv w75, rv w79, rv w75, rv w75, rv w79, rv w75, rv w79] [])) (fun _ hr => XS.ifnullNo X183.here hx rfl (hb hby at_289) rfl hr) ?_
      refine Goes.step (T2 := T183) (g2 := (mkF m 294 #[iv p1, iv p2, iv (p2 &&& (16383 : Int32)), rv b71, rv w75, rv w79, iv 3, iv 1, rv w75, rv w79, rv w75, rv w75, rv w79, rv w75, rv w79] [(.ref w79)])) (fun _ hr => XS.aload X183.here hx rfl (hb hby at_292) rfl rfl hr) ?_
      refine Goes.step (T2 := T183) (g2 := (mkF m 296 #[iv p1, iv p2, iv (p2 &&& (16383 : Int32)), rv b71, rv w75, rv w79, iv 3, iv 1, rv w75, rv w79, rv w75, rv w75, rv w79, rv w75, rv w79] [(.ref w79), (.ref w79)])) (fun _ hr => XS.aload X183.here hx rfl (hb hby at_294) rfl rfl hr) ?_
      refine Goes.step (T2 := T183) (g2 := (mkF m 320 #[iv p1, iv p2, iv (p2 &&& (16383 : Int32)), rv b71, rv w75, rv w79, iv 3, iv 1, rv w75, rv w79, rv w75, rv w75, rv w79, rv w75, rv w79] [])) (fun _ hr => Jvm.RoadKit.acmp (g := (mkF m 296 #[iv p1, iv p2, iv (p2 &&& (16383 : Int32)), rv b71, rv w75, rv w79, iv 3, iv 1, rv w75, rv w79, rv w75, rv w75, rv w79, rv w75, rv w79] [(.ref w79), (.ref w79)])) X183 hx rfl rfl rfl (pc0 := 296) (pc' := 320) (same := true) rfl (hb hby at_296) rfl (decide_eq_true rfl) (by decide) (by decide) hr) ?_
      refine Goes.step (T2 := T183) (g2 := (mkF m 321 #[iv p1, iv p2, iv (p2 &&& (16383 : Int32)), rv b71, rv w75, rv w79, iv 3, iv 1, rv w75, rv w79, rv w75, rv w75, rv w79, rv w75, rv w79] [(.int (1 : Int32))])) (fun _ hr => XS.iconst X183.here hx rfl (hb hby at_320) hr) ?_
      exact Goes.ret (v := some (.int (1 : Int32))) X183 (by decide) (by decide) (fun h => by rw [Bd.returns] at h; cases h) ⟨rfl, N183⟩ (fun fs hr => retN X183 hx (t := .boolean) Bd.returns (by simp) (hb hby at_321) hr)
set_option maxRecDepth 65536 in
set_option maxHeartbeats 40000000 in
theorem comes_1 {Post : Tables → Env → Array Value → State → Outcome → State → Prop} (hpost : ∀ tb e args s v u, (limb_1_1.after args s (.returned v) u = true ∧ limb_1_2.after args s (.returned v) u = true ∧ True) → FrameEnd s (.returned v) u (Jvm.fieldLocs frame_1_writes args s ++ Jvm.arrayLocs frame_1_arrays args s ++ Jvm.staticLocs frame_1_statics s) 24 164096 → Post tb e args s (.returned v) u) :
    ArmFor flags0 classFile x code maxLocals ret World_1 tables_1 room_1 Calls_1 rest_1 Pre_1 Post := by
  intro l hfl _ _ p e ha hc hk s m args below hf hA hF happ hP
  obtain ⟨hcalls, hrest, hpre⟩ := hP
  obtain ⟨-, -, -, hnamed, -, -, -, hat⟩ := (Spec.applies_iff hf).mp happ
  obtain ⟨hg, hn⟩ := and_e (Cond.before_iff.mp (show (Jvm.Cond.and given_1 narrow_1).before args s = true from hpre))
  obtain ⟨g1, g2⟩ := and_e hg
  obtain ⟨g3, g4⟩ := and_e g2
  obtain ⟨w0, w1, rfl⟩ : ∃ w0 w1 : Value, args = #[w0, w1] := by
    have hs : args.size = 2 := by simpa [Cond.value, given_1] using g1
    obtain ⟨L⟩ := args
    match L, hs with
    | [w0, w1], _ => exact ⟨w0, w1, rfl⟩
  have hw := fun d (hd : d ∈ tables_1) => atoms_spec (ws := Jvm.Cond.code x code maxLocals ret :: tables_1) hat d (List.mem_cons_of_mem _ hd)
  have hfit : Fit s := fun {y c} hc i hi => by
    obtain ⟨ha, rfl⟩ := Array.getElem?_eq_some_iff.mp hc
    have q := List.all_eq_true.mp ((Array.all_eq_true_iff_forall_mem.mp hF) _ (Array.getElem_mem ha)) i (List.mem_range.mpr hi)
    simpa [Array.getElem?_eq_getElem hi] using q
  obtain ⟨i0, ei0⟩ := is_v g3
  obtain rfl : w0 = (.int i0) := Option.some.inj ei0
  obtain ⟨i1, ei1⟩ := is_v g4
  obtain rfl : w1 = (.int i1) := Option.some.inj ei1
  obtain ⟨n, o, h1, h2, h3, _, L, rfl, ⟨rfl, N⟩, hq⟩ := rm_law l s _ hw tables_1 i0 i1 s.heap s.heap.size (Nat.le_refl _) (Old.start s) p e ha hc hk s m _ below hf ((Spec.applies_iff_loose hf).mp happ).1 ⟨rfl, State.Warmed39.refl s, rfl⟩ trivial
  refine ⟨n, _, h1, h2, h3, hpost _ _ _ _ _ _ ⟨Cond.after_iff.mpr rfl, Cond.after_iff.mpr (eq_i res_at (Term.int_eval (1)) rfl), trivial⟩ ⟨hq.1, hq.2.1, (hq.2.2.sift fun y hy => Or.inr (N y hy)).mono (by decide) (by decide)⟩⟩
theorem main_1_1 : Claimed_1_1 := comes_1 fun _ _ _ _ _ _ h hF => ⟨h.1, hF⟩
theorem main_1_2 : Claimed_1_2 := comes_1 fun _ _ _ _ _ _ h hF => ⟨h.2.1, hF⟩
end Jvm.Pilot.@@N@@
namespace Jvm.Pilot.@@N@@
open Jvm Jvm.ClassFile Sem Op Lib Jvm.Free Jvm.Stand Jvm.Pilot.@@N@@.Jvm.D
/-! MADE BY PROGRAM (witnessworld.py) out of the Statement's table words and the real class files: 9 classes; the members and pool entries that the words name. The judged class is class 1, her method 2. -/
namespace start1
open Jvm.ClassFile
def u (s : String) : CpInfo := .utf8 (stringToUtf16 s)
/-- a pool by its gaps: so many unusable entries, then the entry; so many at the end -/
def gap : Nat → List CpInfo → List CpInfo
  | 0, r => r
  | n + 1, r => .unusable :: gap n r
def poolList (es : List (Nat × CpInfo)) (last : Nat) : List CpInfo := es.foldr (fun e r => gap e.1 (e.2 :: r)) (gap last [])
def pool (es : List (Nat × CpInfo)) (last : Nat) : Array CpInfo := ⟨poolList es last⟩
def fileOf (pool : Array CpInfo) (this : Nat) (attrs : Array Attribute := #[]) (ms : Array MethodInfo := #[]) (fl : Nat := 33) (sup : Nat := 0) (ifs : Array Nat := #[]) (fds : Array FieldInfo := #[]) : ClassFile where
  minorVersion := 0
  majorVersion := 65
  constantPool := pool
  accessFlags := fl
  thisClass := this
  superClass := sup
  interfaces := ifs
  fields := fds
  methods := ms
  attributes := attrs
def plain (name : String) (sup : Option ClassId) : Class where
  name := name
  kind := .ordinary
  loader := none
  accessFlags := 33
  super := sup
  interfaces := #[]
  cf := none
  fields := #[]
  methods := #[]
  instanceTypes := #[]
  staticTypes := #[]
  resolved := #[]
  callSites := []
  init := .initialized
  statics := none
  mirror := none

def pool0 : Array CpInfo := pool [(5, u "<init>"), (0, u "()V"), (1, .class_ 10), (1, u "java/lang/Object")] 113

def k0c0 : Code := { maxStack := 0, maxLocals := 1, code := object_method_1_code, exceptionTable := #[], attributes := #[] }
def k0m0 : Method := { name := "<init>", desc := "()V", sig := { parameters := [], returnType := none }, accessFlags := 1, code := some k0c0 }
/-- java/lang/Object -/
def k0 : Class := { plain "java/lang/Object" none with
  accessFlags := 33
  interfaces := #[]
  cf := some (fileOf pool0 8 #[] #[{ accessFlags := 1, nameIndex := 5, descriptorIndex := 6, attributes := #[] }] 33 0 #[] #[])
  fields := #[]
  methods := #[k0m0]
  instanceTypes := #[]
  staticTypes := #[]
  resolved := Array.replicate 124 none
  statics := none }

def pool1 : Array CpInfo := pool [(2, .class_ 4), (0, .nameAndType 5 6), (0, u "java/lang/Object"), (0, u "<init>"), (0, u "()V"), (0, .class_ 8), (0, u "com/example/api_policy_gateway/apipolicygateway/net/BufferPool"), (0, .methodref 7 3), (0, .methodref 7 11), (0, .nameAndType 12 13), (0, u "take"), (0, u "()[B"), (0, .methodref 15 16), (0, .class_ 17), (0, .nameAndType 18 19), (0, u "com/example/api_policy_gateway/apipolicygateway/net/BufferPoolTakePinLaw"), (0, u "fresh"), (0, u "([BI[B[B[B[B)Z"), (0, .methodref 7 21), (0, .nameAndType 22 23), (0, u "give"), (0, u "([B)V"), (3, u "law"), (0, u "(II)Z")] 4

def k1m0 : Method := { name := "<init>", desc := "()V", sig := { parameters := [], returnType := none }, accessFlags := 1, code := none }
def k1c1 : Code := { maxStack := 2, maxLocals := 6, code := method_2_code, exceptionTable := #[], attributes := #[] }
def k1m1 : Method := { name := "fresh", desc := "([BI[B[B[B[B)Z", sig := { parameters := [(.array .byte), .int, (.array .byte), (.array .byte), (.array .byte), (.array .byte)], returnType := some .boolean }, accessFlags := 10, code := some k1c1 }
def k1c2 : Code := { maxStack := 6, maxLocals := 15, code := code, exceptionTable := #[], attributes := #[] }
def k1m2 : Method := { name := "law", desc := "(II)Z", sig := { parameters := [.int, .int], returnType := some .boolean }, accessFlags := 9, code := some k1c2 }
/-- com/example/api_policy_gateway/apipolicygateway/net/BufferPoolTakePinLaw -/
def k1 : Class := { plain "com/example/api_policy_gateway/apipolicygateway/net/BufferPoolTakePinLaw" (some 0) with
  accessFlags := 49
  interfaces := #[]
  cf := some (fileOf pool1 15 #[] #[{ accessFlags := 1, nameIndex := 5, descriptorIndex := 6, attributes := #[] }, { accessFlags := 10, nameIndex := 18, descriptorIndex := 19, attributes := #[] }, { accessFlags := 9, nameIndex := 27, descriptorIndex := 28, attributes := #[] }] 49 2 #[] #[])
  fields := #[]
  methods := #[k1m0, k1m1, k1m2]
  instanceTypes := #[]
  staticTypes := #[]
  resolved := Array.replicate 33 none
  statics := none }

def pool2 : Array CpInfo := pool [(1, .methodref 2 3), (0, .class_ 4), (0, .nameAndType 5 6), (0, u "java/lang/Object"), (0, u "<init>"), (0, u "()V"), (0, .class_ 8), (0, u "com/example/api_policy_gateway/apipolicygateway/net/BufferPool"), (0, .class_ 10), (0, u "[B"), (0, .fieldref 7 12), (0, .nameAndType 13 14), (0, u "spare"), (0, u "[[B"), (0, .fieldref 7 16), (0, .nameAndType 17 18), (0, u "spareCount"), (0, u "I"), (9, u "SIZE"), (2, u "MAX_SPARE"), (3, u "take"), (0, u "()[B"), (1, u "give"), (0, u "([B)V")] 17

def k2c0 : Code := { maxStack := 2, maxLocals := 1, code := prog_16_method_1_code, exceptionTable := #[], attributes := #[] }
def k2m0 : Method := { name := "<init>", desc := "()V", sig := { parameters := [], returnType := none }, accessFlags := 1, code := some k2c0 }
def k2c1 : Code := { maxStack := 3, maxLocals := 2, code := prog_16_method_2_code, exceptionTable := #[], attributes := #[] }
def k2m1 : Method := { name := "take", desc := "()[B", sig := { parameters := [], returnType := some (.array .byte) }, accessFlags := 1, code := some k2c1 }
def k2c2 : Code := { maxStack := 3, maxLocals := 2, code := prog_16_method_3_code, exceptionTable := #[], attributes := #[] }
def k2m2 : Method := { name := "give", desc := "([B)V", sig := { parameters := [(.array .byte)], returnType := none }, accessFlags := 1, code := some k2c2 }
/-- com/example/api_policy_gateway/apipolicygateway/net/BufferPool -/
def k2 : Class := { plain "com/example/api_policy_gateway/apipolicygateway/net/BufferPool" (some 0) with
  accessFlags := 49
  interfaces := #[]
  cf := some (fileOf pool2 7 #[] #[{ accessFlags := 1, nameIndex := 5, descriptorIndex := 6, attributes := #[] }, { accessFlags := 1, nameIndex := 35, descriptorIndex := 36, attributes := #[] }, { accessFlags := 1, nameIndex := 38, descriptorIndex := 39, attributes := #[] }] 49 2 #[] #[{ accessFlags := 25, nameIndex := 28, descriptorIndex := 18, attributes := #[] }, { accessFlags := 26, nameIndex := 31, descriptorIndex := 18, attributes := #[] }, { accessFlags := 18, nameIndex := 13, descriptorIndex := 14, attributes := #[] }, { accessFlags := 2, nameIndex := 17, descriptorIndex := 18, attributes := #[] }])
  fields := #[{ name := "SIZE", type := .int, accessFlags := 25, slot := 0, constantValue := 0 }, { name := "MAX_SPARE", type := .int, accessFlags := 26, slot := 1, constantValue := 0 }, { name := "spare", type := (.array (.array .byte)), accessFlags := 18, slot := 0, constantValue := 0 }, { name := "spareCount", type := .int, accessFlags := 2, slot := 1, constantValue := 0 }]
  methods := #[k2m0, k2m1, k2m2]
  instanceTypes := #[(.array (.array .byte)), .int]
  staticTypes := #[.int, .int]
  resolved := Array.replicate 57 none
  statics := none }

def pool3 : Array CpInfo := pool [(1, u "java/lang/Cloneable"), (0, .class_ 1), (0, u "java/lang/Object"), (0, .class_ 3)] 3

/-- java/lang/Cloneable -/
def k3 : Class := { plain "java/lang/Cloneable" (some 0) with
  accessFlags := 1537
  interfaces := #[]
  cf := some (fileOf pool3 2 #[] #[] 1537 4 #[] #[])
  fields := #[]
  methods := #[]
  instanceTypes := #[]
  staticTypes := #[]
  resolved := Array.replicate 8 none
  statics := none }

def pool4 : Array CpInfo := pool [(1, u "java/io/Serializable"), (0, .class_ 1), (0, u "java/lang/Object"), (0, .class_ 3)] 3

/-- java/io/Serializable -/
def k4 : Class := { plain "java/io/Serializable" (some 0) with
  accessFlags := 1537
  interfaces := #[]
  cf := some (fileOf pool4 2 #[] #[] 1537 4 #[] #[])
  fields := #[]
  methods := #[]
  instanceTypes := #[]
  staticTypes := #[]
  resolved := Array.replicate 8 none
  statics := none }

/-- the primitive byte -/
def k5 : Class := { plain "byte" none with kind := .primitive 'B', accessFlags := 0x411 }
/-- [B -/
def k6 : Class := { plain "[B" (some 0) with kind := .array 5 .byte, interfaces := #[3, 4], accessFlags := 1041 }

/-- the primitive int -/
def k7 : Class := { plain "int" none with kind := .primitive 'I', accessFlags := 0x411 }
/-- [I -/
def k8 : Class := { plain "[I" (some 0) with kind := .array 7 .int, interfaces := #[3, 4], accessFlags := 1041 }

def heap : Heap := #[]
/-- [[B -/
def k9 : Class := { plain "[[B" (some 0) with kind := .array 6 (.array .byte), interfaces := #[3, 4], accessFlags := 1041 }
def classes : Array Class := #[k0, k1, k2, k3, k4, k5, k6, k7, k8, k9]
def interned : List (Array UInt16 × Addr) := []
def slotsUsed : Nat := 0
def theMethod : MethodId := ⟨1, 2⟩
def args0 : Array Value := #[.int 5, .int 7]
def aboutOver (below : List Frame) : State where
  vm := { classes := classes, interned := interned.toArray }
  heap := heap
  slotsUsed := slotsUsed
  threads := #[{ frames := .invoking theMethod args0 :: below }]
def below0 : List Frame := [.native { method := ⟨0, 0⟩, args := #[] }]
def about1 : State := aboutOver below0
def p0 : Program := .bare "" "" ""
def e0 : Env := launch0.env 0 0 0
theorem w_frames : about1.frames = Frame.invoking theMethod args0 :: below0 := rfl
set_option maxRecDepth 65536 in
theorem w_args : argsFit about1.vm theMethod args0 = true := by decide +kernel
set_option maxRecDepth 65536 in
theorem w_heap : heapFits about1 = true := by decide +kernel
set_option maxRecDepth 65536 in
theorem w_runnable : about1.curStatus? = some .runnable := by decide +kernel
set_option maxRecDepth 65536 in
theorem w_alone : about1.alone = true := by decide +kernel
set_option maxRecDepth 65536 in
theorem w_named : about1.methodNamed? x = some theMethod := by decide +kernel
set_option maxRecDepth 65536 in
theorem w_hears : about1.hears theMethod below0 = true := by decide +kernel
set_option maxRecDepth 65536 in
theorem w_ripe : about1.ripe theMethod args0 below0 = true := by decide +kernel
theorem w_running : about1.status = .running := rfl
set_option maxRecDepth 65536 in
theorem w_room : about1.hasRoom e0.platform room_1 = true :=
  launch0.hasRoom_least _ room_1 (by decide +kernel) (by decide +kernel) (by decide +kernel) (by decide +kernel) (by decide +kernel) (by decide +kernel)
theorem allAtoms_all (ts : List Jvm.Cond) (a : Array Jvm.Value) (st : Jvm.State) : (allAtoms ts).before a st = ts.all (fun c => c.before a st) := by
  induction ts with
  | nil => rfl
  | cons c t ih =>
    show (Jvm.Cond.and c (allAtoms t)).before a st = _
    rw [Jvm.Cond.before_and, ih, List.all_cons]
def words1 : List Jvm.Cond := Jvm.Cond.code x code maxLocals ret :: tables_1
/-- a 'code' word, met by the world's own term for the bytes: nothing is compared byte by byte -/
theorem code_word {y : MethodName} {bytes : ByteArray} {mx : Nat} {rt : Option FieldType} {a : Array Value} {s : State} {m : MethodId} {meth : Method} {c : Code} (h1 : s.methodNamed? y = some m) (h2 : s.vm.method? m = some meth) (h3 : meth.code = some c) (h4 : c.code = bytes)
    (h5 : (c.maxLocals == mx && c.exceptionTable.isEmpty && decide (c.maxStack ≤ mostOperands) && decide (meth.sig.returnType = rt) && !meth.locks && decide (parseMethodDescriptor y.desc = some meth.sig)) = true) : (Jvm.Cond.code y bytes mx rt).before a s = true := by
  simp only [Bool.and_eq_true, beq_iff_eq, Bool.not_eq_true', decide_eq_true_eq] at h5
  obtain ⟨⟨⟨⟨⟨g1, g2⟩, g3⟩, g4⟩, g5⟩, g6⟩ := h5
  simp [Cond.before, Cond.holds, Cond.value, h1, h2, h3, h4, g1, g2, g3, g4, g5, g6]
def isCode : Jvm.Cond → Bool
  | .code _ _ _ _ => true
  | _ => false
theorem all_split {L : List Jvm.Cond} {P : Jvm.Cond → Bool} (h1 : L.all (fun c => isCode c || P c) = true) (h2 : ∀ c ∈ L.filter isCode, P c = true) : L.all P = true := by
  refine List.all_eq_true.mpr fun c hc => ?_
  have h := List.all_eq_true.mp h1 c hc
  rcases Bool.eq_false_or_eq_true (isCode c) with hi | hi
  · exact h2 c (List.mem_filter.mpr ⟨hc, hi⟩)
  · simpa [hi] using h
set_option maxRecDepth 65536 in
theorem w_c0 : (Jvm.Cond.code x code maxLocals ret).before args0 about1 = true := code_word (m := ⟨1, 2⟩) (meth := k1m2) (c := k1c2) (by decide +kernel) rfl rfl rfl (by decide +kernel)
set_option maxRecDepth 65536 in
theorem w_c1 : (Jvm.Cond.code ({ cls := "com/example/api_policy_gateway/apipolicygateway/net/BufferPool", name := "<init>", desc := "()V" } : Jvm.MethodName) prog_16_method_1_code (1 : Nat) (Option.none : Option Jvm.ClassFile.FieldType)).before args0 about1 = true := code_word (m := ⟨2, 0⟩) (meth := k2m0) (c := k2c0) (by decide +kernel) rfl rfl rfl (by decide +kernel)
set_option maxRecDepth 65536 in
theorem w_c2 : (Jvm.Cond.code ({ cls := "java/lang/Object", name := "<init>", desc := "()V" } : Jvm.MethodName) object_method_1_code (1 : Nat) (Option.none : Option Jvm.ClassFile.FieldType)).before args0 about1 = true := code_word (m := ⟨0, 0⟩) (meth := k0m0) (c := k0c0) (by decide +kernel) rfl rfl rfl (by decide +kernel)
set_option maxRecDepth 65536 in
theorem w_c3 : (Jvm.Cond.code ({ cls := "com/example/api_policy_gateway/apipolicygateway/net/BufferPool", name := "take", desc := "()[B" } : Jvm.MethodName) prog_16_method_2_code (2 : Nat) (Option.some (Jvm.ClassFile.FieldType.array Jvm.ClassFile.FieldType.byte))).before args0 about1 = true := code_word (m := ⟨2, 1⟩) (meth := k2m1) (c := k2c1) (by decide +kernel) rfl rfl rfl (by decide +kernel)
set_option maxRecDepth 65536 in
theorem w_c4 : (Jvm.Cond.code ({ cls := "com/example/api_policy_gateway/apipolicygateway/net/BufferPoolTakePinLaw", name := "fresh", desc := "([BI[B[B[B[B)Z" } : Jvm.MethodName) method_2_code (6 : Nat) (Option.some Jvm.ClassFile.FieldType.boolean)).before args0 about1 = true := code_word (m := ⟨1, 1⟩) (meth := k1m1) (c := k1c1) (by decide +kernel) rfl rfl rfl (by decide +kernel)
set_option maxRecDepth 65536 in
theorem w_c5 : (Jvm.Cond.code ({ cls := "com/example/api_policy_gateway/apipolicygateway/net/BufferPool", name := "give", desc := "([B)V" } : Jvm.MethodName) prog_16_method_3_code (2 : Nat) (Option.none : Option Jvm.ClassFile.FieldType)).before args0 about1 = true := code_word (m := ⟨2, 2⟩) (meth := k2m2) (c := k2c2) (by decide +kernel) rfl rfl rfl (by decide +kernel)
def codes1 : List Jvm.Cond := [Jvm.Cond.code x code maxLocals ret, Jvm.Cond.code ({ cls := "com/example/api_policy_gateway/apipolicygateway/net/BufferPool", name := "<init>", desc := "()V" } : Jvm.MethodName) prog_16_method_1_code (1 : Nat) (Option.none : Option Jvm.ClassFile.FieldType), Jvm.Cond.code ({ cls := "java/lang/Object", name := "<init>", desc := "()V" } : Jvm.MethodName) object_method_1_code (1 : Nat) (Option.none : Option Jvm.ClassFile.FieldType), Jvm.Cond.code ({ cls := "com/example/api_policy_gateway/apipolicygateway/net/BufferPool", name := "take", desc := "()[B" } : Jvm.MethodName) prog_16_method_2_code (2 : Nat) (Option.some (Jvm.ClassFile.FieldType.array Jvm.ClassFile.FieldType.byte)), Jvm.Cond.code ({ cls := "com/example/api_policy_gateway/apipolicygateway/net/BufferPoolTakePinLaw", name := "fresh", desc := "([BI[B[B[B[B)Z" } : Jvm.MethodName) method_2_code (6 : Nat) (Option.some Jvm.ClassFile.FieldType.boolean), Jvm.Cond.code ({ cls := "com/example/api_policy_gateway/apipolicygateway/net/BufferPool", name := "give", desc := "([B)V" } : Jvm.MethodName) prog_16_method_3_code (2 : Nat) (Option.none : Option Jvm.ClassFile.FieldType)]
set_option maxRecDepth 65536 in
theorem codes_eq : words1.filter isCode = codes1 := rfl
theorem w_codes : ∀ c ∈ words1.filter isCode, c.before args0 about1 = true := by
  rw [codes_eq]
  intro c hc
  simp only [codes1, List.mem_cons, List.not_mem_nil, or_false] at hc
  rcases hc with rfl | rfl | rfl | rfl | rfl | rfl
  · exact w_c0
  · exact w_c1
  · exact w_c2
  · exact w_c3
  · exact w_c4
  · exact w_c5
set_option maxRecDepth 65536 in
theorem w_t1 : (words1.take 24).all (fun c => isCode c || c.before args0 about1) = true := by decide +kernel
set_option maxRecDepth 65536 in
theorem w_t2 : (words1.drop 24).all (fun c => isCode c || c.before args0 about1) = true := by decide +kernel
theorem w_tables : (allAtoms (Jvm.Cond.code x code maxLocals ret :: tables_1)).before args0 about1 = true := by
  rw [allAtoms_all]
  show words1.all (fun c => c.before args0 about1) = true
  refine all_split ?_ w_codes
  rw [← List.take_append_drop 24 words1, List.all_append, w_t1, w_t2]
  rfl
set_option maxRecDepth 65536 in
theorem w_case : (Jvm.Cond.and given_1 narrow_1).before args0 about1 = true := by decide +kernel
theorem w_applies : (headSpec (Jvm.Cond.code x code maxLocals ret :: tables_1) room_1).applies x e0.platform about1 = true :=
  (Spec.applies_iff w_frames).mpr ⟨w_running, w_runnable, w_alone, w_named, w_hears, w_ripe, w_room, w_tables⟩
theorem atStart : AtStart classFile x code maxLocals ret World_1 tables_1 room_1 Calls_1 rest_1 Pre_1 launch0 p0 e0 about1 theMethod args0 below0 :=
  ⟨lists_1, trivial, launch0.admits_env _ _ _, launch0.least_env, fairChoices_fair.cas, fairChoices_fair.clock, w_frames, w_args, w_heap, w_applies, trivial, trivial, w_case⟩
end start1
theorem witness_1 : WitnessClaimed_1 := ⟨start1.p0, start1.e0, start1.about1, start1.theMethod, start1.args0, start1.below0, start1.atStart⟩
end Jvm.Pilot.@@N@@
