import JvmDerived
import JvmDerived.Pilot.@@N@@Statement
import JvmDerived.Pilot.@@N@@Code
set_option linter.unusedVariables false
set_option linter.unusedSimpArgs false
@@BLOCK:NumsL.lean.txt@@
namespace Jvm.Pilot.@@N@@
open Jvm Jvm.ClassFile Sem Op Lib Jvm.Free Jvm.Stand Jvm.LawKit Jvm.RoadKit Bundle Jvm.Pilot.@@N@@.Jvm.D
/-- from the state T with the frame g on top the method comes to its end, and Q holds there -/
def Goes (p : Program) (l : Launch) (e : Env) (R : Room) (s : State) (m : MethodId) (args : Array Value) (below : List Frame) (meth : Method) (c : Code) (Q : Option Value → Heap → List Loc → Prop) (T : State) (g : JFrame) : Prop :=
  ∃ (T' : State) (v : Option Value) (L : List Loc) (k n : Nat), Stand p l e R s m args below meth c T' L k n ∧ k ≤ R.cells ∧ n ≤ R.slots ∧ (meth.sig.returnType = none → v = none) ∧ Q v T'.heap L ∧
    ∀ fs, (∀ (f : JFrame) (acts : List Action), f.method = m → f.locked = none → f.entered = [] → (doReturn e (T'.setTop f) acts v).1 = T'.setFrames fs) → Steps p.tables e below (T.setTop g) (T'.setFrames fs)
section OwnGoes
variable {p : Program} {l : Launch} {e : Env} {R : Room} {s : State} {m : MethodId} {args : Array Value} {below : List Frame} {meth : Method} {c : Code} {Q : Option Value → Heap → List Loc → Prop} {T T2 : State} {g g2 : JFrame} {L : List Loc} {k n : Nat}
theorem Goes.step (st : ∀ target, Steps p.tables e below (T2.setTop g2) target → Steps p.tables e below (T.setTop g) target) (F : Goes p l e R s m args below meth c Q T2 g2) : Goes p l e R s m args below meth c Q T g := by
  obtain ⟨T', v, L, k, n, X, hk, hn, hv, hq, hs⟩ := F
  exact ⟨T', v, L, k, n, X, hk, hn, hv, hq, fun fs h => st _ (hs fs h)⟩
theorem Goes.cast (q : g = g2) (F : Goes p l e R s m args below meth c Q T g2) : Goes p l e R s m args below meth c Q T g := q ▸ F
theorem Goes.out {maxL : Nat} {s₁ : State} (hl : meth.locks = false) (F : Goes p l e R s m args below meth c Q s₁ (entryFrame m args maxL)) :
    ∃ s₂ o, Steps p.tables e below (s₁.setTop (entryFrame m args maxL)) s₂ ∧ s₂.status = .running ∧ Ended s₂ below o ∧ ∃ v L, o = .returned v ∧ Q v s₂.heap L ∧ FrameEnd s o s₂ L R.cells R.slots := by
  obtain ⟨T', v, L, k, n, X, hk, hn, hv, hq, hs⟩ := F
  obtain ⟨fs, hr, hrun, hended, hW, hsame⟩ := X.leave (v := v) hv hl
  exact ⟨_, _, hs fs hr, hrun, hended, v, L, rfl, hq, ⟨_, rfl⟩, hW, hsame.mono hk hn⟩
theorem Goes.ret {v : Option Value} (X : Stand p l e R s m args below meth c T L k n) (hk : k ≤ R.cells) (hn : n ≤ R.slots) (hv : meth.sig.returnType = none → v = none) (hq : Q v T.heap L)
    (hs : ∀ fs, (∀ (f : JFrame) (acts : List Action), f.method = m → f.locked = none → f.entered = [] → (doReturn e (T.setTop f) acts v).1 = T.setFrames fs) → Steps p.tables e below (T.setTop g) (T.setFrames fs)) : Goes p l e R s m args below meth c Q T g :=
  ⟨T, v, L, k, n, X, hk, hn, hv, hq, hs⟩
/-- the same where String constants may have been interned on the road -/
def GoesW (p : Program) (l : Launch) (e : Env) (R : Room) (s : State) (m : MethodId) (args : Array Value) (below : List Frame) (meth : Method) (c : Code) (Q : Option Value → Heap → List Loc → Prop) (T : State) (g : JFrame) : Prop :=
  ∃ (T' : State) (v : Option Value) (L : List Loc) (k n : Nat) (vm : Vm) (j : Nat), Stand p l e R (s.setVm vm) m args below meth c T' L k n ∧ s.Since vm j ∧ j ≤ T'.heap.size ∧ k ≤ R.cells ∧ n ≤ R.slots ∧ (meth.sig.returnType = none → v = none) ∧ Q v T'.heap L ∧
    ∀ fs, (∀ (f : JFrame) (acts : List Action), f.method = m → f.locked = none → f.entered = [] → (doReturn e (T'.setTop f) acts v).1 = T'.setFrames fs) → Steps p.tables e below (T.setTop g) (T'.setFrames fs)
theorem GoesW.step (st : ∀ target, Steps p.tables e below (T2.setTop g2) target → Steps p.tables e below (T.setTop g) target) (F : GoesW p l e R s m args below meth c Q T2 g2) : GoesW p l e R s m args below meth c Q T g := by
  obtain ⟨T', v, L, k, n, vm, j, X, hS, hj, hk, hn, hv, hq, hs⟩ := F
  exact ⟨T', v, L, k, n, vm, j, X, hS, hj, hk, hn, hv, hq, fun fs h => st _ (hs fs h)⟩
theorem GoesW.cast (q : g = g2) (F : GoesW p l e R s m args below meth c Q T g2) : GoesW p l e R s m args below meth c Q T g := q ▸ F
theorem GoesW.out {maxL : Nat} {s₁ : State} (hl : meth.locks = false) (F : GoesW p l e R s m args below meth c Q s₁ (entryFrame m args maxL)) :
    ∃ s₂ o, Steps p.tables e below (s₁.setTop (entryFrame m args maxL)) s₂ ∧ s₂.status = .running ∧ Ended s₂ below o ∧ ∃ v L, o = .returned v ∧ Q v s₂.heap L ∧ ReturnedEndW s o s₂ L R.cells R.slots := by
  obtain ⟨T', v, L, k, n, vm, j, X, hS, hj, hk, hn, hv, hq, hs⟩ := F
  obtain ⟨fs, hr, hrun, hended, h1, h2, h3, hsame⟩ := X.leaveW (v := v) hS hj hv hl
  exact ⟨_, _, hs fs hr, hrun, hended, v, L, rfl, hq, h1, h2, h3, hsame.mono hk hn⟩
theorem GoesW.ret {v : Option Value} {vm : Vm} {j : Nat} (X : Stand p l e R (s.setVm vm) m args below meth c T L k n) (hS : s.Since vm j) (hj : j ≤ T.heap.size) (hk : k ≤ R.cells) (hn : n ≤ R.slots) (hv : meth.sig.returnType = none → v = none) (hq : Q v T.heap L)
    (hs : ∀ fs, (∀ (f : JFrame) (acts : List Action), f.method = m → f.locked = none → f.entered = [] → (doReturn e (T.setTop f) acts v).1 = T.setFrames fs) → Steps p.tables e below (T.setTop g) (T.setFrames fs)) : GoesW p l e R s m args below meth c Q T g :=
  ⟨T, v, L, k, n, vm, j, X, hS, hj, hk, hn, hv, hq, hs⟩
theorem tw {a0 : Array Value} {Z : State} (hw : ∀ d ∈ tables_1, d.before a0 Z = true) (i : Nat) {d : Jvm.Cond} (h : tables_1[i]? = some d) : d.before a0 Z = true := hw d (List.mem_of_getElem? h)
theorem own_at {T : State} {h : Heap} {a : Addr} {c : Cell} (e : T.heap = h) (q : h[a]? = some c) : T.heap[a]? = some c := by rw [e]; exact q
theorem cmpL_self (x : Int64) : Jvm.Free.XT.cmpL x x = (0 : Int32) := by simp [Jvm.Free.XT.cmpL, Int64.lt_iff_toInt_lt]
theorem own_mvMN {Z s : State} {a0 args : Array Value} {own host : String} {index : Nat} {y : MethodName} (hZ : Z.Warmed39 s.vm) (w : (Jvm.Cond.methodLinkNest own index y host).before a0 Z = true) : (Jvm.Cond.methodLinkNest own index y host).before args s = true := (Cond.methodLinkNest_wide hZ w :)
end OwnGoes
theorem pd_0 : parseMethodDescriptor "(I)I" = some ⟨[.int], some .int⟩ := by decide +kernel
theorem pd_1 : parseMethodDescriptor "(I)[B" = some ⟨[.int], some (.array .byte)⟩ := by decide +kernel
theorem pd_2 : parseMethodDescriptor "([BII)V" = some ⟨[(.array .byte), .int, .int], none⟩ := by decide +kernel
theorem pd_3 : parseMethodDescriptor "([CI[BII)I" = some ⟨[(.array .char), .int, (.array .byte), .int, .int], some .int⟩ := by decide +kernel
theorem pd_4 : parseMethodDescriptor "([CII)[B" = some ⟨[(.array .char), .int, .int], some (.array .byte)⟩ := by decide +kernel
theorem pd_5 : parseMethodDescriptor "([BI)C" = some ⟨[(.array .byte), .int], some .char⟩ := by decide +kernel
theorem pd_6 : parseMethodDescriptor "([BI)B" = some ⟨[(.array .byte), .int], some .byte⟩ := by decide +kernel
theorem pd_7 : parseMethodDescriptor "([CIILjava/lang/Void;)V" = some ⟨[(.array .char), .int, .int, (.object "java/lang/Void")], none⟩ := by decide +kernel
theorem pd_8 : parseMethodDescriptor "(IILjava/util/function/BiFunction;)I" = some ⟨[.int, .int, (.object "java/util/function/BiFunction")], some .int⟩ := by decide +kernel
theorem pd_9 : parseMethodDescriptor "(II)V" = some ⟨[.int, .int], none⟩ := by decide +kernel
theorem pd_10 : parseMethodDescriptor "([B)I" = some ⟨[(.array .byte)], some .int⟩ := by decide +kernel
theorem pd_11 : parseMethodDescriptor "(I[B)V" = some ⟨[.int, (.array .byte)], none⟩ := by decide +kernel
theorem pd_12 : parseMethodDescriptor "()Z" = some ⟨[], some .boolean⟩ := by decide +kernel
theorem pd_13 : parseMethodDescriptor "(I)C" = some ⟨[.int], some .char⟩ := by decide +kernel
theorem pd_14 : parseMethodDescriptor "([C)V" = some ⟨[(.array .char)], none⟩ := by decide +kernel
theorem pd_15 : parseMethodDescriptor "(CIII)Z" = some ⟨[.char, .int, .int, .int], some .boolean⟩ := by decide +kernel
theorem pd_16 : parseMethodDescriptor "(Ljava/lang/String;II)Z" = some ⟨[(.object "java/lang/String"), .int, .int], some .boolean⟩ := by decide +kernel
abbrev Y0 : MethodName := (⟨"java/lang/StringUTF16", "compress", "([CI[BII)I"⟩ : MethodName)
abbrev Y1 : MethodName := (⟨"java/lang/StringUTF16", "newBytesLength", "(I)I"⟩ : MethodName)
abbrev Y2 : MethodName := (⟨"java/lang/StringUTF16", "newBytesFor", "(I)[B"⟩ : MethodName)
abbrev Y3 : MethodName := (⟨"java/lang/StringUTF16", "putChar", "([BII)V"⟩ : MethodName)
abbrev Y4 : MethodName := (⟨"java/lang/StringUTF16", "toBytes", "([CII)[B"⟩ : MethodName)
abbrev Y5 : MethodName := (⟨"java/lang/StringUTF16", "getChar", "([BI)C"⟩ : MethodName)
abbrev Y6 : MethodName := (⟨"java/lang/StringUTF16", "compress", "([CII)[B"⟩ : MethodName)
abbrev Y7 : MethodName := (⟨"java/lang/StringUTF16", "coderFromArrayLen", "([BI)B"⟩ : MethodName)
abbrev Y8 : MethodName := (⟨"java/lang/String", "<init>", "([CIILjava/lang/Void;)V"⟩ : MethodName)
abbrev Y9 : MethodName := (⟨"java/lang/String", "<init>", "([C)V"⟩ : MethodName)
abbrev Y10 : MethodName := (⟨"java/lang/String", "isLatin1", "()Z"⟩ : MethodName)
abbrev Y11 : MethodName := (⟨"jdk/internal/util/Preconditions", "checkIndex", "(IILjava/util/function/BiFunction;)I"⟩ : MethodName)
abbrev Y12 : MethodName := (⟨"java/lang/String", "checkIndex", "(II)V"⟩ : MethodName)
abbrev Y13 : MethodName := (⟨"java/lang/StringUTF16", "length", "([B)I"⟩ : MethodName)
abbrev Y14 : MethodName := (⟨"java/lang/StringLatin1", "charAt", "([BI)C"⟩ : MethodName)
abbrev Y15 : MethodName := (⟨"java/lang/StringUTF16", "checkIndex", "(I[B)V"⟩ : MethodName)
abbrev Y16 : MethodName := (⟨"java/lang/StringUTF16", "charAt", "([BI)C"⟩ : MethodName)
abbrev Y17 : MethodName := (⟨"java/lang/String", "charAt", "(I)C"⟩ : MethodName)
abbrev Y18 : MethodName := (⟨"com/example/api_policy_gateway/apipolicygateway/proxy/HeaderFields", "allDigits", "(Ljava/lang/String;II)Z"⟩ : MethodName)
abbrev Y19 : MethodName := (⟨"com/example/api_policy_gateway/apipolicygateway/proxy/HeaderFieldsAllDigitsPinLaw", "ok", "(CIII)Z"⟩ : MethodName)
theorem own_cs {s : State} {args : Array Value} {t : Term} {k : Int32} (ev : t.eval args s none [] s = some (.int k)) (h : (Jvm.Cond.not (.eq t (.int 0))).value args s none s [] = some true) : ¬ (k = (0 : Int32)) := by
  have h2 := not_v h
  simp only [Cond.value, ev, Term.eval] at h2
  simpa using h2
theorem own_mod5 (x : Int32) : (x &&& (2147483647 : Int32)) % (5 : Int32) = (0 : Int32) ∨ (x &&& (2147483647 : Int32)) % (5 : Int32) = (1 : Int32) ∨ (x &&& (2147483647 : Int32)) % (5 : Int32) = (2 : Int32) ∨ (x &&& (2147483647 : Int32)) % (5 : Int32) = (3 : Int32) ∨ (x &&& (2147483647 : Int32)) % (5 : Int32) = (4 : Int32) := by
  have e1 : (x &&& 2147483647).toInt = x.toInt % 2 ^ 31 := Jvm.Kit.i32_mask x 2147483647 (k := 31) (by decide) (by decide)
  have e2 : ((x &&& 2147483647) % 5).toInt = (x &&& 2147483647).toInt % 5 := Jvm.Kit.i32_rem_nonneg (by omega)
  have e3 : ((x &&& 2147483647) % 5).toInt = 0 ∨ ((x &&& 2147483647) % 5).toInt = 1 ∨ ((x &&& 2147483647) % 5).toInt = 2 ∨ ((x &&& 2147483647) % 5).toInt = 3 ∨ ((x &&& 2147483647) % 5).toInt = 4 := by omega
  simp only [← Int32.toInt_inj]
  rcases e3 with h | h | h | h | h <;> rw [h] <;> decide
theorem own_getc (c : Int32) (h0 : 0 ≤ c.toInt) (h1 : c.toInt < 65536) :
  (((((c >>> ((0:Int32) &&& 31)).toInt8.toInt32.toInt8.toInt32 &&& 255) <<< ((0:Int32) &&& 31)) ||| (((c >>> ((8:Int32) &&& 31)).toInt8.toInt32.toInt8.toInt32 &&& 255) <<< ((8:Int32) &&& 31))).toUInt32.toUInt16.toUInt32.toInt32) = c := by
  have e0 : ((0:Int32) &&& 31) = 0 := by decide
  have e8 : ((8:Int32) &&& 31) = 8 := by decide
  have s0 : (Int32.toBitVec 0).smod 32 = 0#32 := by decide
  have s8 : (Int32.toBitVec 8).smod 32 = 8#32 := by decide
  have s255 : Int32.toBitVec 255 = 255#32 := by decide
  have hc : c.toBitVec.toNat < 65536 := by
    have h2 : c.toInt = c.toBitVec.toInt := rfl
    rw [h2, BitVec.toInt_eq_toNat_cond] at h0 h1
    have := c.toBitVec.isLt
    split at h0 <;> omega
  rw [e0, e8]
  apply Int32.toBitVec_inj.mp
  apply BitVec.eq_of_getLsbD_eq
  intro i hi
  simp only [Int32.toBitVec_or, Int32.toBitVec_and, Int32.toBitVec_shiftLeft, Int32.toBitVec_shiftRight, UInt32.toBitVec_toInt32, UInt16.toBitVec_toUInt32, UInt32.toBitVec_toUInt16, Int32.toBitVec_toUInt32, Int8.toBitVec_toInt32, Int32.toBitVec_toInt8, s0, s8, s255]
  by_cases h16 : i < 16
  · have hh : i = 0 ∨ i = 1 ∨ i = 2 ∨ i = 3 ∨ i = 4 ∨ i = 5 ∨ i = 6 ∨ i = 7 ∨ i = 8 ∨ i = 9 ∨ i = 10 ∨ i = 11 ∨ i = 12 ∨ i = 13 ∨ i = 14 ∨ i = 15 := by omega
    rcases hh with rfl | rfl | rfl | rfl | rfl | rfl | rfl | rfl | rfl | rfl | rfl | rfl | rfl | rfl | rfl | rfl <;> simp [BitVec.getElem_sshiftRight, BitVec.getElem_signExtend, BitVec.getLsbD_signExtend, BitVec.getLsbD_setWidth, BitVec.getLsbD_sshiftRight, BitVec.sshiftRight', BitVec.getLsbD_shiftLeft, BitVec.getLsbD_and, BitVec.getLsbD_or]
  · have hr : c.toBitVec.getLsbD i = false := by
      rw [BitVec.getLsbD]; exact Nat.testBit_lt_two_pow (Nat.lt_of_lt_of_le hc (by have := Nat.pow_le_pow_right (n := 2) (by decide) (show 16 ≤ i by omega); simpa using this))
    rw [hr, BitVec.getLsbD_setWidth, BitVec.getLsbD_setWidth]
    simp [h16]
-- latin1: (b & 255) as char of a low byte
theorem own_getl (c : Int32) (h0 : 0 ≤ c.toInt) (h1 : ¬ ((255 : Int32) < c)) : (c.toInt8.toInt32.toInt8.toInt32 &&& (255 : Int32)).toUInt32.toUInt16.toUInt32.toInt32 = c := by
  have s255 : Int32.toBitVec 255 = 255#32 := by decide
  have hc : c.toBitVec.toNat < 256 := by
    rw [Int32.lt_iff_toInt_lt] at h1
    have a1 : (255 : Int32).toInt = 255 := by decide
    have h2 : c.toInt = c.toBitVec.toInt := rfl
    rw [a1] at h1
    rw [h2, BitVec.toInt_eq_toNat_cond] at h0 h1
    have := c.toBitVec.isLt
    split at h0 <;> omega
  apply Int32.toBitVec_inj.mp
  apply BitVec.eq_of_getLsbD_eq
  intro i hi
  simp only [Int32.toBitVec_and, UInt32.toBitVec_toInt32, UInt16.toBitVec_toUInt32, UInt32.toBitVec_toUInt16, Int32.toBitVec_toUInt32, Int8.toBitVec_toInt32, Int32.toBitVec_toInt8, s255]
  by_cases h8 : i < 8
  · have hh : i = 0 ∨ i = 1 ∨ i = 2 ∨ i = 3 ∨ i = 4 ∨ i = 5 ∨ i = 6 ∨ i = 7 := by omega
    rcases hh with rfl | rfl | rfl | rfl | rfl | rfl | rfl | rfl <;> simp [BitVec.getElem_signExtend]
  · have hr : c.toBitVec.getLsbD i = false := by
      rw [BitVec.getLsbD]; exact Nat.testBit_lt_two_pow (Nat.lt_of_lt_of_le hc (by have := Nat.pow_le_pow_right (n := 2) (by decide) (show 8 ≤ i by omega); simpa using this))
    have hm : (255#32).getLsbD i = false := by
      rw [BitVec.getLsbD]; exact Nat.testBit_lt_two_pow (Nat.lt_of_lt_of_le (show (255#32).toNat < 256 by decide) (by have := Nat.pow_le_pow_right (n := 2) (by decide) (show 8 ≤ i by omega); simpa using this))
    rw [hr, BitVec.getLsbD_setWidth, BitVec.getLsbD_setWidth, BitVec.getLsbD_and, hm]
    simp

def bLo (c : Int32) : Int32 := nar .byte ((c >>> ((0 : Int32) &&& 31)).toInt8.toInt32)
def bHi (c : Int32) : Int32 := nar .byte ((c >>> ((8 : Int32) &&& 31)).toInt8.toInt32)
def bL1 (c : Int32) : Int32 := nar .byte (c.toInt8.toInt32)
theorem bLo_eq (c : Int32) : nar .byte ((c >>> ((0 : Int32) &&& 31)).toInt8.toInt32) = bLo c := rfl
theorem bHi_eq (c : Int32) : nar .byte ((c >>> ((8 : Int32) &&& 31)).toInt8.toInt32) = bHi c := rfl
theorem bL1_eq (c : Int32) : nar .byte (c.toInt8.toInt32) = bL1 c := rfl
def B16 (c : Int32) : Prop := 0 ≤ c.toInt ∧ c.toInt < 65536
theorem own_gc {c : Int32} (h : B16 c) : ((((bLo c &&& (255 : Int32)) <<< ((0 : Int32) &&& 31)) ||| ((bHi c &&& (255 : Int32)) <<< ((8 : Int32) &&& 31))).toUInt32.toUInt16.toUInt32.toInt32) = c := own_getc c h.1 h.2
theorem own_gl {c : Int32} (h : B16 c) (h1 : ¬ ((255 : Int32) < c)) : ((bL1 c &&& (255 : Int32)).toUInt32.toUInt16.toUInt32.toInt32) = c := own_getl c h.1 h1
theorem own_nc {c : Int32} (h : B16 c) : nar .char c = c := by
  show c.toUInt32.toUInt16.toUInt32.toInt32 = c
  have hc : c.toBitVec.toNat < 65536 := by
    have h2 : c.toInt = c.toBitVec.toInt := rfl
    obtain ⟨h0, h1⟩ := h
    rw [h2, BitVec.toInt_eq_toNat_cond] at h0 h1
    have := c.toBitVec.isLt
    split at h0 <;> omega
  apply Int32.toBitVec_inj.mp
  apply BitVec.eq_of_toNat_eq
  have e : c.toUInt32.toUInt16.toUInt32.toInt32.toBitVec.toNat = c.toUInt32.toUInt16.toUInt32.toNat := rfl
  rw [e, UInt16.toNat_toUInt32, UInt32.toNat_toUInt16]
  show c.toBitVec.toNat % 2 ^ 16 = _
  omega
theorem own_nw {c : Int32} (h : B16 c) : narrow .char (.int c) = .int c := by
  show Value.int (nar .char c) = .int c
  rw [own_nc h]
theorem own_b16 (x : Int32) : B16 (nar .char x) := by
  have h := fits_nar_char x
  simp only [fits, Bool.and_eq_true, decide_eq_true_eq, Int32.le_iff_toInt_le] at h
  have a0 : (0 : Int32).toInt = 0 := by decide
  have a1 : (65535 : Int32).toInt = 65535 := by decide
  exact ⟨by omega, by omega⟩
def dg (c : Int32) : Int32 := if c < (48 : Int32) ∨ (57 : Int32) < c then (0 : Int32) else (1 : Int32)
theorem dg_lo {c : Int32} (h : c < (48 : Int32)) : dg c = (0 : Int32) := by simp [dg, h]
theorem dg_hi {c : Int32} (h : (57 : Int32) < c) : dg c = (0 : Int32) := by simp [dg, h]
theorem dg_yes {c : Int32} (h : ¬ (c < (48 : Int32))) (h2 : ¬ ((57 : Int32) < c)) : dg c = (1 : Int32) := by simp [dg, h, h2]
theorem dg_one {c : Int32} (h : ¬ (dg c = (0 : Int32))) : dg c = (1 : Int32) := by
  unfold dg at h ⊢
  split <;> simp_all
def allD : List Int32 → Int32
  | [] => (1 : Int32)
  | c :: r => if dg c = (0 : Int32) then (0 : Int32) else allD r
theorem allD_no {c : Int32} {r : List Int32} (h : dg c = (0 : Int32)) : allD (c :: r) = (0 : Int32) := by simp [allD, h]
theorem allD_go {c : Int32} {r : List Int32} {z : Int32} (h : dg c = (1 : Int32)) (q : allD r = z) : allD (c :: r) = z := by
  simp only [allD, h]
  exact q
theorem d0_0 : decode jdk_52_method_21_code 0 = .ok (.iconst 0, 1) := by decide +kernel
theorem d0_1 : decode jdk_52_method_21_code 1 = .ok (.istore 5, 2) := by decide +kernel
theorem d0_3 : decode jdk_52_method_21_code 3 = .ok (.iload 5, 2) := by decide +kernel
theorem d0_5 : decode jdk_52_method_21_code 5 = .ok (.iload 4, 2) := by decide +kernel
theorem d0_7 : decode jdk_52_method_21_code 7 = .ok (.if_icmp .ge 37, 3) := by decide +kernel
theorem d0_10 : decode jdk_52_method_21_code 10 = .ok (.aload_n 0, 1) := by decide +kernel
theorem d0_11 : decode jdk_52_method_21_code 11 = .ok (.iload_n 1, 1) := by decide +kernel
theorem d0_12 : decode jdk_52_method_21_code 12 = .ok (.caload, 1) := by decide +kernel
theorem d0_13 : decode jdk_52_method_21_code 13 = .ok (.istore 6, 2) := by decide +kernel
theorem d0_15 : decode jdk_52_method_21_code 15 = .ok (.iload 6, 2) := by decide +kernel
theorem d0_17 : decode jdk_52_method_21_code 17 = .ok (.sipush 255, 3) := by decide +kernel
theorem d0_20 : decode jdk_52_method_21_code 20 = .ok (.if_icmp .le 6, 3) := by decide +kernel
theorem d0_23 : decode jdk_52_method_21_code 23 = .ok (.iload 5, 2) := by decide +kernel
theorem d0_25 : decode jdk_52_method_21_code 25 = .ok (.ireturn, 1) := by decide +kernel
theorem pn_java_lang_StringUTF16 : plainName "java/lang/StringUTF16" = true := by first | (simp [plainName, overriddenIn]; done) | decide +kernel
def Q_rm_cmp0 (Z : State) (a2 : Addr) (k2 : ClassId) (a3 : Addr) (k3 : ClassId) (c0 : Int32) (c1 : Int32) (c2 : Int32) (c3 : Int32) (h0 : Heap) (n0 : Nat) (v : Option Value) (h : Heap) (L : List Loc) : Prop := v = some (.int (0 : Int32)) ∧ Fr n0 L ∧ Keep h0 h [a3]
set_option maxRecDepth 65536 in
set_option maxHeartbeats 40000000 in
theorem rm_cmp0 (l : Launch) (Z : State) (a0 : Array Value) (hw : ∀ d ∈ tables_1, d.before a0 Z = true) (ws : List Jvm.Cond) (a2 : Addr) (k2 : ClassId) (a3 : Addr) (k3 : ClassId) (c0 : Int32) (c1 : Int32) (c2 : Int32) (c3 : Int32) (h0 : Heap) (n0 : Nat) (Z0 : n0 ≤ h0.size) (O0 : Old Z n0 h0) (V_a2 : Arv Z h0 a2 k2 .char (4 : Int32) [(.int c0), (.int c1), (.int c2), (.int c3)] (.int (0 : Int32))) (V_a3 : Arv Z h0 a3 k3 .byte (4 : Int32) [(.int (0 : Int32)), (.int (0 : Int32)), (.int (0 : Int32)), (.int (0 : Int32))] (.int (0 : Int32))) (ge_a3 : n0 ≤ a3) (ne_a2_a3 : a2 ≠ a3) (hhigh0 : (255 : Int32) < c0) :
    MetFree l Y0 (head1 (Jvm.Cond.code Y0 jdk_52_method_21_code 7 (some .int) :: ws) ({ frames := 0, cells := 0, slots := 0, locals := 0 } : Room)) (fun a U => a = #[(.ref a2), (.int (0 : Int32)), (.ref a3), (.int (0 : Int32)), (.int (4 : Int32))] ∧ Z.Warmed39 U.vm ∧ U.heap = h0) (fun _ _ _ _ _ => True) (fun _ U o U' => ∃ v L, o = .returned v ∧ Q_rm_cmp0 Z a2 k2 a3 k3 c0 c1 c2 c3 h0 n0 v U'.heap L ∧ FrameEnd U o U' L ({ frames := 0, cells := 0, slots := 0, locals := 0 } : Room).cells ({ frames := 0, cells := 0, slots := 0, locals := 0 } : Room).slots) := by
  refine MetFree.of_bodySF (plainFor_of_name pn_java_lang_StringUTF16) hisR ?_
  intro p e s m args below meth c s₁ Bd hml0 hP hK
  obtain ⟨rfl, hZ, hh⟩ := hP
  have hx := Bd.exec
  have hby := Bd.bytes
  have hml : c.maxLocals = 7 := hml0
  have hown : s.vm.findClass "java/lang/StringUTF16" = some m.cls := findClass_of_methodNamed Bd.named
  have hnm := (name_of_methodNamed Bd.named Bd.method).1
  have X0 : Stand p l e ({ frames := 0, cells := 0, slots := 0, locals := 0 } : Room) s m #[(.ref a2), (.int (0 : Int32)), (.ref a3), (.int (0 : Int32)), (.int (4 : Int32))] below meth c s₁ [] 0 0 := Stand.of_body Bd
  have e0 : s₁.heap = h0 := by rw [← hh, Bd.state]; rfl
  have N0 := Fr.nil n0
  refine Goes.out (l := l) (c := c) (R := ({ frames := 0, cells := 0, slots := 0, locals := 0 } : Room)) (Q := Q_rm_cmp0 Z a2 k2 a3 k3 c0 c1 c2 c3 h0 n0) Bd.notSynchronized ?_
  refine Goes.cast (g2 := mkF m 0 #[rv a2, iv 0, rv a3, iv 0, iv 4, .unset, .unset] []) (by first | (simp [entryFrame, mkF, argsToLocals, Value.category]; done) | rfl) ?_
  have K0 : Keep h0 h0 [a3] := Keep.refl h0 _
  have hws : ∀ x ∈ [a3], n0 ≤ x := (allS ge_a3 all0)
  refine Goes.step (T2 := s₁) (g2 := (mkF m 1 #[rv a2, iv 0, rv a3, iv 0, iv 4, .unset, .unset] [(.int (0 : Int32))])) (fun _ hr => XS.iconst X0.here hx rfl (hb hby d0_0) hr) ?_
  refine Goes.step (T2 := s₁) (g2 := (mkF m 3 #[rv a2, iv 0, rv a3, iv 0, iv 4, iv 0, .unset] [])) (fun _ hr => XS.istore X0.here hx rfl (hb hby d0_1) rfl (l' := #[rv a2, iv 0, rv a3, iv 0, iv 4, iv 0, .unset]) rfl hr) ?_
  refine Goes.step (T2 := s₁) (g2 := (mkF m 5 #[rv a2, iv 0, rv a3, iv 0, iv 4, iv 0, .unset] [(.int (0 : Int32))])) (fun _ hr => XS.iload X0.here hx rfl (hb hby d0_3) rfl  hr) ?_
  refine Goes.step (T2 := s₁) (g2 := (mkF m 7 #[rv a2, iv 0, rv a3, iv 0, iv 4, iv 0, .unset] [(.int (4 : Int32)), (.int (0 : Int32))])) (fun _ hr => XS.iload X0.here hx rfl (hb hby d0_5) rfl  hr) ?_
  refine Goes.step (T2 := s₁) (g2 := (mkF m 10 #[rv a2, iv 0, rv a3, iv 0, iv 4, iv 0, .unset] [])) (fun _ hr => XS.icmpNo X0.here hx rfl (hb hby d0_7) rfl (tlt (by decide : (0 : Int32) < (4 : Int32))).2.1 hr) ?_
  refine Goes.step (T2 := s₁) (g2 := (mkF m 11 #[rv a2, iv 0, rv a3, iv 0, iv 4, iv 0, .unset] [(.ref a2)])) (fun _ hr => XS.aloadN X0.here hx rfl (hb hby d0_10) rfl rfl hr) ?_
  refine Goes.step (T2 := s₁) (g2 := (mkF m 12 #[rv a2, iv 0, rv a3, iv 0, iv 4, iv 0, .unset] [(.int (0 : Int32)), (.ref a2)])) (fun _ hr => XS.iloadN X0.here hx rfl (hb hby d0_11) rfl  hr) ?_
  obtain ⟨cl1, Ar1, q1, S1, Nn1, H1, G1⟩ := id V_a2
  have hin1 : ¬ ((0 : Int32) < 0 ∨ cl1.slots.size ≤ ((0 : Int32)).toNatClampNeg) := inb_of S1 ⟨by decide, by decide⟩
  refine Goes.step (T2 := s₁) (g2 := (mkF m 13 #[rv a2, iv 0, rv a3, iv 0, iv 4, iv 0, .unset] [(.int c0)])) (X0.caload hx (j := (0 : Int32)) (v := (.int c0)) (own_at e0 Ar1.1) (State.isArrayOf_alike hZ.alike Ar1.2.1) Ar1.2.2 hin1 (H1.at hin1 rfl) (g := (mkF m 12 #[rv a2, iv 0, rv a3, iv 0, iv 4, iv 0, .unset] [(.int (0 : Int32)), (.ref a2)])) rfl rfl (hb hby d0_12)) ?_
  refine Goes.step (T2 := s₁) (g2 := (mkF m 15 #[rv a2, iv 0, rv a3, iv 0, iv 4, iv 0, iv c0] [])) (fun _ hr => XS.istore X0.here hx rfl (hb hby d0_13) rfl (l' := #[rv a2, iv 0, rv a3, iv 0, iv 4, iv 0, iv c0]) rfl hr) ?_
  refine Goes.step (T2 := s₁) (g2 := (mkF m 17 #[rv a2, iv 0, rv a3, iv 0, iv 4, iv 0, iv c0] [(.int c0)])) (fun _ hr => XS.iload X0.here hx rfl (hb hby d0_15) rfl  hr) ?_
  refine Goes.step (T2 := s₁) (g2 := (mkF m 20 #[rv a2, iv 0, rv a3, iv 0, iv 4, iv 0, iv c0] [(.int (255 : Int32)), (.int c0)])) (fun _ hr => XS.sipush X0.here hx rfl (hb hby d0_17) hr) ?_
  refine Goes.step (T2 := s₁) (g2 := (mkF m 23 #[rv a2, iv 0, rv a3, iv 0, iv 4, iv 0, iv c0] [])) (fun _ hr => XS.icmpNo X0.here hx rfl (hb hby d0_20) rfl (tlt (hhigh0 : (255 : Int32) < c0)).2.2.2 hr) ?_
  refine Goes.step (T2 := s₁) (g2 := (mkF m 25 #[rv a2, iv 0, rv a3, iv 0, iv 4, iv 0, iv c0] [(.int (0 : Int32))])) (fun _ hr => XS.iload X0.here hx rfl (hb hby d0_23) rfl  hr) ?_
  exact Goes.ret (v := some (.int (0 : Int32))) X0 (by decide) (by decide) (fun h => by rw [Bd.returns] at h; cases h) (by show Q_rm_cmp0 Z a2 k2 a3 k3 c0 c1 c2 c3 h0 n0 _ s₁.heap _; rw [e0]; exact ⟨rfl, N0, K0⟩) (fun fs hr => retOut X0 hx Bd.returns rfl (Or.inl ⟨rfl, Or.inl rfl, _, rfl⟩) (hb hby d0_25) hr)
theorem d0_26 : decode jdk_52_method_21_code 26 = .ok (.aload_n 2, 1) := by decide +kernel
theorem d0_27 : decode jdk_52_method_21_code 27 = .ok (.iload_n 3, 1) := by decide +kernel
theorem d0_28 : decode jdk_52_method_21_code 28 = .ok (.iload 6, 2) := by decide +kernel
theorem d0_30 : decode jdk_52_method_21_code 30 = .ok (.i2b, 1) := by decide +kernel
theorem d0_31 : decode jdk_52_method_21_code 31 = .ok (.bastore, 1) := by decide +kernel
theorem d0_32 : decode jdk_52_method_21_code 32 = .ok (.iinc 1 1, 3) := by decide +kernel
theorem d0_35 : decode jdk_52_method_21_code 35 = .ok (.iinc 3 1, 3) := by decide +kernel
theorem d0_38 : decode jdk_52_method_21_code 38 = .ok (.iinc 5 1, 3) := by decide +kernel
theorem d0_41 : decode jdk_52_method_21_code 41 = .ok (.goto (-38), 3) := by decide +kernel
def Q_rm_cmp1 (Z : State) (a2 : Addr) (k2 : ClassId) (a3 : Addr) (k3 : ClassId) (c0 : Int32) (c1 : Int32) (c2 : Int32) (c3 : Int32) (h0 : Heap) (n0 : Nat) (v : Option Value) (h : Heap) (L : List Loc) : Prop := v = some (.int (1 : Int32)) ∧ Fr n0 L ∧ Keep h0 h [a3]
set_option maxRecDepth 65536 in
set_option maxHeartbeats 40000000 in
theorem rm_cmp1 (l : Launch) (Z : State) (a0 : Array Value) (hw : ∀ d ∈ tables_1, d.before a0 Z = true) (ws : List Jvm.Cond) (a2 : Addr) (k2 : ClassId) (a3 : Addr) (k3 : ClassId) (c0 : Int32) (c1 : Int32) (c2 : Int32) (c3 : Int32) (h0 : Heap) (n0 : Nat) (Z0 : n0 ≤ h0.size) (O0 : Old Z n0 h0) (V_a2 : Arv Z h0 a2 k2 .char (4 : Int32) [(.int c0), (.int c1), (.int c2), (.int c3)] (.int (0 : Int32))) (V_a3 : Arv Z h0 a3 k3 .byte (4 : Int32) [(.int (0 : Int32)), (.int (0 : Int32)), (.int (0 : Int32)), (.int (0 : Int32))] (.int (0 : Int32))) (ge_a3 : n0 ≤ a3) (ne_a2_a3 : a2 ≠ a3) (hlow0 : ¬ ((255 : Int32) < c0)) (hhigh1 : (255 : Int32) < c1) :
    MetFree l Y0 (head1 (Jvm.Cond.code Y0 jdk_52_method_21_code 7 (some .int) :: ws) ({ frames := 0, cells := 0, slots := 0, locals := 0 } : Room)) (fun a U => a = #[(.ref a2), (.int (0 : Int32)), (.ref a3), (.int (0 : Int32)), (.int (4 : Int32))] ∧ Z.Warmed39 U.vm ∧ U.heap = h0) (fun _ _ _ _ _ => True) (fun _ U o U' => ∃ v L, o = .returned v ∧ Q_rm_cmp1 Z a2 k2 a3 k3 c0 c1 c2 c3 h0 n0 v U'.heap L ∧ FrameEnd U o U' L ({ frames := 0, cells := 0, slots := 0, locals := 0 } : Room).cells ({ frames := 0, cells := 0, slots := 0, locals := 0 } : Room).slots) := by
  refine MetFree.of_bodySF (plainFor_of_name pn_java_lang_StringUTF16) hisR ?_
  intro p e s m args below meth c s₁ Bd hml0 hP hK
  obtain ⟨rfl, hZ, hh⟩ := hP
  have hx := Bd.exec
  have hby := Bd.bytes
  have hml : c.maxLocals = 7 := hml0
  have hown : s.vm.findClass "java/lang/StringUTF16" = some m.cls := findClass_of_methodNamed Bd.named
  have hnm := (name_of_methodNamed Bd.named Bd.method).1
  have X0 : Stand p l e ({ frames := 0, cells := 0, slots := 0, locals := 0 } : Room) s m #[(.ref a2), (.int (0 : Int32)), (.ref a3), (.int (0 : Int32)), (.int (4 : Int32))] below meth c s₁ [] 0 0 := Stand.of_body Bd
  have e0 : s₁.heap = h0 := by rw [← hh, Bd.state]; rfl
  have N0 := Fr.nil n0
  refine Goes.out (l := l) (c := c) (R := ({ frames := 0, cells := 0, slots := 0, locals := 0 } : Room)) (Q := Q_rm_cmp1 Z a2 k2 a3 k3 c0 c1 c2 c3 h0 n0) Bd.notSynchronized ?_
  refine Goes.cast (g2 := mkF m 0 #[rv a2, iv 0, rv a3, iv 0, iv 4, .unset, .unset] []) (by first | (simp [entryFrame, mkF, argsToLocals, Value.category]; done) | rfl) ?_
  have K0 : Keep h0 h0 [a3] := Keep.refl h0 _
  have hws : ∀ x ∈ [a3], n0 ≤ x := (allS ge_a3 all0)
  refine Goes.step (T2 := s₁) (g2 := (mkF m 1 #[rv a2, iv 0, rv a3, iv 0, iv 4, .unset, .unset] [(.int (0 : Int32))])) (fun _ hr => XS.iconst X0.here hx rfl (hb hby d0_0) hr) ?_
  refine Goes.step (T2 := s₁) (g2 := (mkF m 3 #[rv a2, iv 0, rv a3, iv 0, iv 4, iv 0, .unset] [])) (fun _ hr => XS.istore X0.here hx rfl (hb hby d0_1) rfl (l' := #[rv a2, iv 0, rv a3, iv 0, iv 4, iv 0, .unset]) rfl hr) ?_
  refine Goes.step (T2 := s₁) (g2 := (mkF m 5 #[rv a2, iv 0, rv a3, iv 0, iv 4, iv 0, .unset] [(.int (0 : Int32))])) (fun _ hr => XS.iload X0.here hx rfl (hb hby d0_3) rfl  hr) ?_
  refine Goes.step (T2 := s₁) (g2 := (mkF m 7 #[rv a2, iv 0, rv a3, iv 0, iv 4, iv 0, .unset] [(.int (4 : Int32)), (.int (0 : Int32))])) (fun _ hr => XS.iload X0.here hx rfl (hb hby d0_5) rfl  hr) ?_
  refine Goes.step (T2 := s₁) (g2 := (mkF m 10 #[rv a2, iv 0, rv a3, iv 0, iv 4, iv 0, .unset] [])) (fun _ hr => XS.icmpNo X0.here hx rfl (hb hby d0_7) rfl (tlt (by decide : (0 : Int32) < (4 : Int32))).2.1 hr) ?_
  refine Goes.step (T2 := s₁) (g2 := (mkF m 11 #[rv a2, iv 0, rv a3, iv 0, iv 4, iv 0, .unset] [(.ref a2)])) (fun _ hr => XS.aloadN X0.here hx rfl (hb hby d0_10) rfl rfl hr) ?_
  refine Goes.step (T2 := s₁) (g2 := (mkF m 12 #[rv a2, iv 0, rv a3, iv 0, iv 4, iv 0, .unset] [(.int (0 : Int32)), (.ref a2)])) (fun _ hr => XS.iloadN X0.here hx rfl (hb hby d0_11) rfl  hr) ?_
  obtain ⟨cl2, Ar2, q2, S2, Nn2, H2, G2⟩ := id V_a2
  have hin2 : ¬ ((0 : Int32) < 0 ∨ cl2.slots.size ≤ ((0 : Int32)).toNatClampNeg) := inb_of S2 ⟨by decide, by decide⟩
  refine Goes.step (T2 := s₁) (g2 := (mkF m 13 #[rv a2, iv 0, rv a3, iv 0, iv 4, iv 0, .unset] [(.int c0)])) (X0.caload hx (j := (0 : Int32)) (v := (.int c0)) (own_at e0 Ar2.1) (State.isArrayOf_alike hZ.alike Ar2.2.1) Ar2.2.2 hin2 (H2.at hin2 rfl) (g := (mkF m 12 #[rv a2, iv 0, rv a3, iv 0, iv 4, iv 0, .unset] [(.int (0 : Int32)), (.ref a2)])) rfl rfl (hb hby d0_12)) ?_
  refine Goes.step (T2 := s₁) (g2 := (mkF m 15 #[rv a2, iv 0, rv a3, iv 0, iv 4, iv 0, iv c0] [])) (fun _ hr => XS.istore X0.here hx rfl (hb hby d0_13) rfl (l' := #[rv a2, iv 0, rv a3, iv 0, iv 4, iv 0, iv c0]) rfl hr) ?_
  refine Goes.step (T2 := s₁) (g2 := (mkF m 17 #[rv a2, iv 0, rv a3, iv 0, iv 4, iv 0, iv c0] [(.int c0)])) (fun _ hr => XS.iload X0.here hx rfl (hb hby d0_15) rfl  hr) ?_
  refine Goes.step (T2 := s₁) (g2 := (mkF m 20 #[rv a2, iv 0, rv a3, iv 0, iv 4, iv 0, iv c0] [(.int (255 : Int32)), (.int c0)])) (fun _ hr => XS.sipush X0.here hx rfl (hb hby d0_17) hr) ?_
  refine Goes.step (T2 := s₁) (g2 := (mkF m 26 #[rv a2, iv 0, rv a3, iv 0, iv 4, iv 0, iv c0] [])) (fun _ hr => XS.icmpYes X0.here hx rfl (pc0 := 20) (pc' := 26) rfl (hb hby d0_20) rfl (flt (hlow0 : ¬ ((255 : Int32) < c0))).2.2.2 (by decide) (by decide) hr) ?_
  refine Goes.step (T2 := s₁) (g2 := (mkF m 27 #[rv a2, iv 0, rv a3, iv 0, iv 4, iv 0, iv c0] [(.ref a3)])) (fun _ hr => XS.aloadN X0.here hx rfl (hb hby d0_26) rfl rfl hr) ?_
  refine Goes.step (T2 := s₁) (g2 := (mkF m 28 #[rv a2, iv 0, rv a3, iv 0, iv 4, iv 0, iv c0] [(.int (0 : Int32)), (.ref a3)])) (fun _ hr => XS.iloadN X0.here hx rfl (hb hby d0_27) rfl  hr) ?_
  refine Goes.step (T2 := s₁) (g2 := (mkF m 30 #[rv a2, iv 0, rv a3, iv 0, iv 4, iv 0, iv c0] [(.int c0), (.int (0 : Int32)), (.ref a3)])) (fun _ hr => XS.iload X0.here hx rfl (hb hby d0_28) rfl  hr) ?_
  refine Goes.step (T2 := s₁) (g2 := (mkF m 31 #[rv a2, iv 0, rv a3, iv 0, iv 4, iv 0, iv c0] [(.int (c0.toInt8.toInt32)), (.int (0 : Int32)), (.ref a3)])) (fun _ hr => Jvm.Free.XT.i2b X0.here hx rfl (hb hby d0_30) rfl hr) ?_
  obtain ⟨cl3, Ar3, q3, S3, Nn3, H3, G3⟩ := id V_a3
  have hin3 : ¬ ((0 : Int32) < 0 ∨ cl3.slots.size ≤ ((0 : Int32)).toNatClampNeg) := inb_of S3 ⟨by decide, by decide⟩
  obtain ⟨T3, h3, X3, e3, W3, st3⟩ := stB X0 hx hZ e0 Ar3 (j := (0 : Int32)) hin3 (g := (mkF m 31 #[rv a2, iv 0, rv a3, iv 0, iv 4, iv 0, iv c0] [(.int (c0.toInt8.toInt32)), (.int (0 : Int32)), (.ref a3)])) rfl rfl (hb hby d0_31)
  have W3' := W3
  rw [show (nar .byte (c0.toInt8.toInt32)) = (bL1 c0) from bL1_eq c0] at W3'
  have V_a2_3 : Arv Z h3 a2 k2 .char (4 : Int32) [(.int c0), (.int c1), (.int c2), (.int c3)] (.int (0 : Int32)) := V_a2.other W3 ne_a2_a3
  have K3 : Keep h0 h3 [a3] := K0.wr W3 (Or.inl (List.mem_of_getElem? (i := 0) rfl))
  have N3 := Fr.snoc X3 N0 ge_a3
  have V_a3_3 : Arv Z h3 a3 k3 .byte (4 : Int32) [(.int (bL1 c0)), (.int (0 : Int32)), (.int (0 : Int32)), (.int (0 : Int32))] (.int (0 : Int32)) := Arv.set Ar3 q3 S3 Nn3 H3 G3 (by have := (show fits .byte (.int (nar .byte (c0.toInt8.toInt32))) = true from (fits_nar_byte _)); rwa [show (nar .byte (c0.toInt8.toInt32)) = (bL1 c0) from bL1_eq c0] at this) W3' 0 rfl (Nat.le_of_ble_eq_true rfl)
  refine Goes.step (T2 := T3) (g2 := (mkF m 32 #[rv a2, iv 0, rv a3, iv 0, iv 4, iv 0, iv c0] [])) st3 ?_
  refine Goes.step (T2 := T3) (g2 := (mkF m 35 #[rv a2, iv 1, rv a3, iv 0, iv 4, iv 0, iv c0] [])) (fun _ hr => XS.iinc X3.here hx rfl (hb hby d0_32) rfl (l' := #[rv a2, iv 1, rv a3, iv 0, iv 4, iv 0, iv c0]) rfl hr) ?_
  refine Goes.step (T2 := T3) (g2 := (mkF m 38 #[rv a2, iv 1, rv a3, iv 1, iv 4, iv 0, iv c0] [])) (fun _ hr => XS.iinc X3.here hx rfl (hb hby d0_35) rfl (l' := #[rv a2, iv 1, rv a3, iv 1, iv 4, iv 0, iv c0]) rfl hr) ?_
  refine Goes.step (T2 := T3) (g2 := (mkF m 41 #[rv a2, iv 1, rv a3, iv 1, iv 4, iv 1, iv c0] [])) (fun _ hr => XS.iinc X3.here hx rfl (hb hby d0_38) rfl (l' := #[rv a2, iv 1, rv a3, iv 1, iv 4, iv 1, iv c0]) rfl hr) ?_
  refine Goes.step (T2 := T3) (g2 := (mkF m 3 #[rv a2, iv 1, rv a3, iv 1, iv 4, iv 1, iv c0] [])) (fun _ hr => XS.goto X3.here hx rfl (pc0 := 41) (pc' := 3) rfl (hb hby d0_41) (by decide) (by decide) hr) ?_
  refine Goes.step (T2 := T3) (g2 := (mkF m 5 #[rv a2, iv 1, rv a3, iv 1, iv 4, iv 1, iv c0] [(.int (1 : Int32))])) (fun _ hr => XS.iload X3.here hx rfl (hb hby d0_3) rfl  hr) ?_
  refine Goes.step (T2 := T3) (g2 := (mkF m 7 #[rv a2, iv 1, rv a3, iv 1, iv 4, iv 1, iv c0] [(.int (4 : Int32)), (.int (1 : Int32))])) (fun _ hr => XS.iload X3.here hx rfl (hb hby d0_5) rfl  hr) ?_
  refine Goes.step (T2 := T3) (g2 := (mkF m 10 #[rv a2, iv 1, rv a3, iv 1, iv 4, iv 1, iv c0] [])) (fun _ hr => XS.icmpNo X3.here hx rfl (hb hby d0_7) rfl (tlt (by decide : (1 : Int32) < (4 : Int32))).2.1 hr) ?_
  refine Goes.step (T2 := T3) (g2 := (mkF m 11 #[rv a2, iv 1, rv a3, iv 1, iv 4, iv 1, iv c0] [(.ref a2)])) (fun _ hr => XS.aloadN X3.here hx rfl (hb hby d0_10) rfl rfl hr) ?_
  refine Goes.step (T2 := T3) (g2 := (mkF m 12 #[rv a2, iv 1, rv a3, iv 1, iv 4, iv 1, iv c0] [(.int (1 : Int32)), (.ref a2)])) (fun _ hr => XS.iloadN X3.here hx rfl (hb hby d0_11) rfl  hr) ?_
  obtain ⟨cl4, Ar4, q4, S4, Nn4, H4, G4⟩ := id V_a2_3
  have hin4 : ¬ ((1 : Int32) < 0 ∨ cl4.slots.size ≤ ((1 : Int32)).toNatClampNeg) := inb_of S4 ⟨by decide, by decide⟩
  refine Goes.step (T2 := T3) (g2 := (mkF m 13 #[rv a2, iv 1, rv a3, iv 1, iv 4, iv 1, iv c0] [(.int c1)])) (X3.caload hx (j := (1 : Int32)) (v := (.int c1)) (own_at e3 Ar4.1) (State.isArrayOf_alike hZ.alike Ar4.2.1) Ar4.2.2 hin4 (H4.at hin4 rfl) (g := (mkF m 12 #[rv a2, iv 1, rv a3, iv 1, iv 4, iv 1, iv c0] [(.int (1 : Int32)), (.ref a2)])) rfl rfl (hb hby d0_12)) ?_
  refine Goes.step (T2 := T3) (g2 := (mkF m 15 #[rv a2, iv 1, rv a3, iv 1, iv 4, iv 1, iv c1] [])) (fun _ hr => XS.istore X3.here hx rfl (hb hby d0_13) rfl (l' := #[rv a2, iv 1, rv a3, iv 1, iv 4, iv 1, iv c1]) rfl hr) ?_
  refine Goes.step (T2 := T3) (g2 := (mkF m 17 #[rv a2, iv 1, rv a3, iv 1, iv 4, iv 1, iv c1] [(.int c1)])) (fun _ hr => XS.iload X3.here hx rfl (hb hby d0_15) rfl  hr) ?_
  refine Goes.step (T2 := T3) (g2 := (mkF m 20 #[rv a2, iv 1, rv a3, iv 1, iv 4, iv 1, iv c1] [(.int (255 : Int32)), (.int c1)])) (fun _ hr => XS.sipush X3.here hx rfl (hb hby d0_17) hr) ?_
  refine Goes.step (T2 := T3) (g2 := (mkF m 23 #[rv a2, iv 1, rv a3, iv 1, iv 4, iv 1, iv c1] [])) (fun _ hr => XS.icmpNo X3.here hx rfl (hb hby d0_20) rfl (tlt (hhigh1 : (255 : Int32) < c1)).2.2.2 hr) ?_
  refine Goes.step (T2 := T3) (g2 := (mkF m 25 #[rv a2, iv 1, rv a3, iv 1, iv 4, iv 1, iv c1] [(.int (1 : Int32))])) (fun _ hr => XS.iload X3.here hx rfl (hb hby d0_23) rfl  hr) ?_
  exact Goes.ret (v := some (.int (1 : Int32))) X3 (by decide) (by decide) (fun h => by rw [Bd.returns] at h; cases h) (by show Q_rm_cmp1 Z a2 k2 a3 k3 c0 c1 c2 c3 h0 n0 _ T3.heap _; rw [e3]; exact ⟨rfl, N3, K3⟩) (fun fs hr => retOut X3 hx Bd.returns rfl (Or.inl ⟨rfl, Or.inl rfl, _, rfl⟩) (hb hby d0_25) hr)
def Q_rm_cmp2 (Z : State) (a2 : Addr) (k2 : ClassId) (a3 : Addr) (k3 : ClassId) (c0 : Int32) (c1 : Int32) (c2 : Int32) (c3 : Int32) (h0 : Heap) (n0 : Nat) (v : Option Value) (h : Heap) (L : List Loc) : Prop := v = some (.int (2 : Int32)) ∧ Fr n0 L ∧ Keep h0 h [a3]
set_option maxRecDepth 65536 in
set_option maxHeartbeats 40000000 in
theorem rm_cmp2 (l : Launch) (Z : State) (a0 : Array Value) (hw : ∀ d ∈ tables_1, d.before a0 Z = true) (ws : List Jvm.Cond) (a2 : Addr) (k2 : ClassId) (a3 : Addr) (k3 : ClassId) (c0 : Int32) (c1 : Int32) (c2 : Int32) (c3 : Int32) (h0 : Heap) (n0 : Nat) (Z0 : n0 ≤ h0.size) (O0 : Old Z n0 h0) (V_a2 : Arv Z h0 a2 k2 .char (4 : Int32) [(.int c0), (.int c1), (.int c2), (.int c3)] (.int (0 : Int32))) (V_a3 : Arv Z h0 a3 k3 .byte (4 : Int32) [(.int (0 : Int32)), (.int (0 : Int32)), (.int (0 : Int32)), (.int (0 : Int32))] (.int (0 : Int32))) (ge_a3 : n0 ≤ a3) (ne_a2_a3 : a2 ≠ a3) (hlow0 : ¬ ((255 : Int32) < c0)) (hlow1 : ¬ ((255 : Int32) < c1)) (hhigh2 : (255 : Int32) < c2) :
    MetFree l Y0 (head1 (Jvm.Cond.code Y0 jdk_52_method_21_code 7 (some .int) :: ws) ({ frames := 0, cells := 0, slots := 0, locals := 0 } : Room)) (fun a U => a = #[(.ref a2), (.int (0 : Int32)), (.ref a3), (.int (0 : Int32)), (.int (4 : Int32))] ∧ Z.Warmed39 U.vm ∧ U.heap = h0) (fun _ _ _ _ _ => True) (fun _ U o U' => ∃ v L, o = .returned v ∧ Q_rm_cmp2 Z a2 k2 a3 k3 c0 c1 c2 c3 h0 n0 v U'.heap L ∧ FrameEnd U o U' L ({ frames := 0, cells := 0, slots := 0, locals := 0 } : Room).cells ({ frames := 0, cells := 0, slots := 0, locals := 0 } : Room).slots) := by
  refine MetFree.of_bodySF (plainFor_of_name pn_java_lang_StringUTF16) hisR ?_
  intro p e s m args below meth c s₁ Bd hml0 hP hK
  obtain ⟨rfl, hZ, hh⟩ := hP
  have hx := Bd.exec
  have hby := Bd.bytes
  have hml : c.maxLocals = 7 := hml0
  have hown : s.vm.findClass "java/lang/StringUTF16" = some m.cls := findClass_of_methodNamed Bd.named
  have hnm := (name_of_methodNamed Bd.named Bd.method).1
  have X0 : Stand p l e ({ frames := 0, cells := 0, slots := 0, locals := 0 } : Room) s m #[(.ref a2), (.int (0 : Int32)), (.ref a3), (.int (0 : Int32)), (.int (4 : Int32))] below meth c s₁ [] 0 0 := Stand.of_body Bd
  have e0 : s₁.heap = h0 := by rw [← hh, Bd.state]; rfl
  have N0 := Fr.nil n0
  refine Goes.out (l := l) (c := c) (R := ({ frames := 0, cells := 0, slots := 0, locals := 0 } : Room)) (Q := Q_rm_cmp2 Z a2 k2 a3 k3 c0 c1 c2 c3 h0 n0) Bd.notSynchronized ?_
  refine Goes.cast (g2 := mkF m 0 #[rv a2, iv 0, rv a3, iv 0, iv 4, .unset, .unset] []) (by first | (simp [entryFrame, mkF, argsToLocals, Value.category]; done) | rfl) ?_
  have K0 : Keep h0 h0 [a3] := Keep.refl h0 _
  have hws : ∀ x ∈ [a3], n0 ≤ x := (allS ge_a3 all0)
  refine Goes.step (T2 := s₁) (g2 := (mkF m 1 #[rv a2, iv 0, rv a3, iv 0, iv 4, .unset, .unset] [(.int (0 : Int32))])) (fun _ hr => XS.iconst X0.here hx rfl (hb hby d0_0) hr) ?_
  refine Goes.step (T2 := s₁) (g2 := (mkF m 3 #[rv a2, iv 0, rv a3, iv 0, iv 4, iv 0, .unset] [])) (fun _ hr => XS.istore X0.here hx rfl (hb hby d0_1) rfl (l' := #[rv a2, iv 0, rv a3, iv 0, iv 4, iv 0, .unset]) rfl hr) ?_
  refine Goes.step (T2 := s₁) (g2 := (mkF m 5 #[rv a2, iv 0, rv a3, iv 0, iv 4, iv 0, .unset] [(.int (0 : Int32))])) (fun _ hr => XS.iload X0.here hx rfl (hb hby d0_3) rfl  hr) ?_
  refine Goes.step (T2 := s₁) (g2 := (mkF m 7 #[rv a2, iv 0, rv a3, iv 0, iv 4, iv 0, .unset] [(.int (4 : Int32)), (.int (0 : Int32))])) (fun _ hr => XS.iload X0.here hx rfl (hb hby d0_5) rfl  hr) ?_
  refine Goes.step (T2 := s₁) (g2 := (mkF m 10 #[rv a2, iv 0, rv a3, iv 0, iv 4, iv 0, .unset] [])) (fun _ hr => XS.icmpNo X0.here hx rfl (hb hby d0_7) rfl (tlt (by decide : (0 : Int32) < (4 : Int32))).2.1 hr) ?_
  refine Goes.step (T2 := s₁) (g2 := (mkF m 11 #[rv a2, iv 0, rv a3, iv 0, iv 4, iv 0, .unset] [(.ref a2)])) (fun _ hr => XS.aloadN X0.here hx rfl (hb hby d0_10) rfl rfl hr) ?_
  refine Goes.step (T2 := s₁) (g2 := (mkF m 12 #[rv a2, iv 0, rv a3, iv 0, iv 4, iv 0, .unset] [(.int (0 : Int32)), (.ref a2)])) (fun _ hr => XS.iloadN X0.here hx rfl (hb hby d0_11) rfl  hr) ?_
  obtain ⟨cl5, Ar5, q5, S5, Nn5, H5, G5⟩ := id V_a2
  have hin5 : ¬ ((0 : Int32) < 0 ∨ cl5.slots.size ≤ ((0 : Int32)).toNatClampNeg) := inb_of S5 ⟨by decide, by decide⟩
  refine Goes.step (T2 := s₁) (g2 := (mkF m 13 #[rv a2, iv 0, rv a3, iv 0, iv 4, iv 0, .unset] [(.int c0)])) (X0.caload hx (j := (0 : Int32)) (v := (.int c0)) (own_at e0 Ar5.1) (State.isArrayOf_alike hZ.alike Ar5.2.1) Ar5.2.2 hin5 (H5.at hin5 rfl) (g := (mkF m 12 #[rv a2, iv 0, rv a3, iv 0, iv 4, iv 0, .unset] [(.int (0 : Int32)), (.ref a2)])) rfl rfl (hb hby d0_12)) ?_
  refine Goes.step (T2 := s₁) (g2 := (mkF m 15 #[rv a2, iv 0, rv a3, iv 0, iv 4, iv 0, iv c0] [])) (fun _ hr => XS.istore X0.here hx rfl (hb hby d0_13) rfl (l' := #[rv a2, iv 0, rv a3, iv 0, iv 4, iv 0, iv c0]) rfl hr) ?_
  refine Goes.step (T2 := s₁) (g2 := (mkF m 17 #[rv a2, iv 0, rv a3, iv 0, iv 4, iv 0, iv c0] [(.int c0)])) (fun _ hr => XS.iload X0.here hx rfl (hb hby d0_15) rfl  hr) ?_
  refine Goes.step (T2 := s₁) (g2 := (mkF m 20 #[rv a2, iv 0, rv a3, iv 0, iv 4, iv 0, iv c0] [(.int (255 : Int32)), (.int c0)])) (fun _ hr => XS.sipush X0.here hx rfl (hb hby d0_17) hr) ?_
  refine Goes.step (T2 := s₁) (g2 := (mkF m 26 #[rv a2, iv 0, rv a3, iv 0, iv 4, iv 0, iv c0] [])) (fun _ hr => XS.icmpYes X0.here hx rfl (pc0 := 20) (pc' := 26) rfl (hb hby d0_20) rfl (flt (hlow0 : ¬ ((255 : Int32) < c0))).2.2.2 (by decide) (by decide) hr) ?_
  refine Goes.step (T2 := s₁) (g2 := (mkF m 27 #[rv a2, iv 0, rv a3, iv 0, iv 4, iv 0, iv c0] [(.ref a3)])) (fun _ hr => XS.aloadN X0.here hx rfl (hb hby d0_26) rfl rfl hr) ?_
  refine Goes.step (T2 := s₁) (g2 := (mkF m 28 #[rv a2, iv 0, rv a3, iv 0, iv 4, iv 0, iv c0] [(.int (0 : Int32)), (.ref a3)])) (fun _ hr => XS.iloadN X0.here hx rfl (hb hby d0_27) rfl  hr) ?_
  refine Goes.step (T2 := s₁) (g2 := (mkF m 30 #[rv a2, iv 0, rv a3, iv 0, iv 4, iv 0, iv c0] [(.int c0), (.int (0 : Int32)), (.ref a3)])) (fun _ hr => XS.iload X0.here hx rfl (hb hby d0_28) rfl  hr) ?_
  refine Goes.step (T2 := s₁) (g2 := (mkF m 31 #[rv a2, iv 0, rv a3, iv 0, iv 4, iv 0, iv c0] [(.int (c0.toInt8.toInt32)), (.int (0 : Int32)), (.ref a3)])) (fun _ hr => Jvm.Free.XT.i2b X0.here hx rfl (hb hby d0_30) rfl hr) ?_
  obtain ⟨cl6, Ar6, q6, S6, Nn6, H6, G6⟩ := id V_a3
  have hin6 : ¬ ((0 : Int32) < 0 ∨ cl6.slots.size ≤ ((0 : Int32)).toNatClampNeg) := inb_of S6 ⟨by decide, by decide⟩
  obtain ⟨T6, h6, X6, e6, W6, st6⟩ := stB X0 hx hZ e0 Ar6 (j := (0 : Int32)) hin6 (g := (mkF m 31 #[rv a2, iv 0, rv a3, iv 0, iv 4, iv 0, iv c0] [(.int (c0.toInt8.toInt32)), (.int (0 : Int32)), (.ref a3)])) rfl rfl (hb hby d0_31)
  have W6' := W6
  rw [show (nar .byte (c0.toInt8.toInt32)) = (bL1 c0) from bL1_eq c0] at W6'
  have V_a2_6 : Arv Z h6 a2 k2 .char (4 : Int32) [(.int c0), (.int c1), (.int c2), (.int c3)] (.int (0 : Int32)) := V_a2.other W6 ne_a2_a3
  have K6 : Keep h0 h6 [a3] := K0.wr W6 (Or.inl (List.mem_of_getElem? (i := 0) rfl))
  have N6 := Fr.snoc X6 N0 ge_a3
  have V_a3_6 : Arv Z h6 a3 k3 .byte (4 : Int32) [(.int (bL1 c0)), (.int (0 : Int32)), (.int (0 : Int32)), (.int (0 : Int32))] (.int (0 : Int32)) := Arv.set Ar6 q6 S6 Nn6 H6 G6 (by have := (show fits .byte (.int (nar .byte (c0.toInt8.toInt32))) = true from (fits_nar_byte _)); rwa [show (nar .byte (c0.toInt8.toInt32)) = (bL1 c0) from bL1_eq c0] at this) W6' 0 rfl (Nat.le_of_ble_eq_true rfl)
  refine Goes.step (T2 := T6) (g2 := (mkF m 32 #[rv a2, iv 0, rv a3, iv 0, iv 4, iv 0, iv c0] [])) st6 ?_
  refine Goes.step (T2 := T6) (g2 := (mkF m 35 #[rv a2, iv 1, rv a3, iv 0, iv 4, iv 0, iv c0] [])) (fun _ hr => XS.iinc X6.here hx rfl (hb hby d0_32) rfl (l' := #[rv a2, iv 1, rv a3, iv 0, iv 4, iv 0, iv c0]) rfl hr) ?_
  refine Goes.step (T2 := T6) (g2 := (mkF m 38 #[rv a2, iv 1, rv a3, iv 1, iv 4, iv 0, iv c0] [])) (fun _ hr => XS.iinc X6.here hx rfl (hb hby d0_35) rfl (l' := #[rv a2, iv 1, rv a3, iv 1, iv 4, iv 0, iv c0]) rfl hr) ?_
  refine Goes.step (T2 := T6) (g2 := (mkF m 41 #[rv a2, iv 1, rv a3, iv 1, iv 4, iv 1, iv c0] [])) (fun _ hr => XS.iinc X6.here hx rfl (hb hby d0_38) rfl (l' := #[rv a2, iv 1, rv a3, iv 1, iv 4, iv 1, iv c0]) rfl hr) ?_
  refine Goes.step (T2 := T6) (g2 := (mkF m 3 #[rv a2, iv 1, rv a3, iv 1, iv 4, iv 1, iv c0] [])) (fun _ hr => XS.goto X6.here hx rfl (pc0 := 41) (pc' := 3) rfl (hb hby d0_41) (by decide) (by decide) hr) ?_
  refine Goes.step (T2 := T6) (g2 := (mkF m 5 #[rv a2, iv 1, rv a3, iv 1, iv 4, iv 1, iv c0] [(.int (1 : Int32))])) (fun _ hr => XS.iload X6.here hx rfl (hb hby d0_3) rfl  hr) ?_
  refine Goes.step (T2 := T6) (g2 := (mkF m 7 #[rv a2, iv 1, rv a3, iv 1, iv 4, iv 1, iv c0] [(.int (4 : Int32)), (.int (1 : Int32))])) (fun _ hr => XS.iload X6.here hx rfl (hb hby d0_5) rfl  hr) ?_
  refine Goes.step (T2 := T6) (g2 := (mkF m 10 #[rv a2, iv 1, rv a3, iv 1, iv 4, iv 1, iv c0] [])) (fun _ hr => XS.icmpNo X6.here hx rfl (hb hby d0_7) rfl (tlt (by decide : (1 : Int32) < (4 : Int32))).2.1 hr) ?_
  refine Goes.step (T2 := T6) (g2 := (mkF m 11 #[rv a2, iv 1, rv a3, iv 1, iv 4, iv 1, iv c0] [(.ref a2)])) (fun _ hr => XS.aloadN X6.here hx rfl (hb hby d0_10) rfl rfl hr) ?_
  refine Goes.step (T2 := T6) (g2 := (mkF m 12 #[rv a2, iv 1, rv a3, iv 1, iv 4, iv 1, iv c0] [(.int (1 : Int32)), (.ref a2)])) (fun _ hr => XS.iloadN X6.here hx rfl (hb hby d0_11) rfl  hr) ?_
  obtain ⟨cl7, Ar7, q7, S7, Nn7, H7, G7⟩ := id V_a2_6
  have hin7 : ¬ ((1 : Int32) < 0 ∨ cl7.slots.size ≤ ((1 : Int32)).toNatClampNeg) := inb_of S7 ⟨by decide, by decide⟩
  refine Goes.step (T2 := T6) (g2 := (mkF m 13 #[rv a2, iv 1, rv a3, iv 1, iv 4, iv 1, iv c0] [(.int c1)])) (X6.caload hx (j := (1 : Int32)) (v := (.int c1)) (own_at e6 Ar7.1) (State.isArrayOf_alike hZ.alike Ar7.2.1) Ar7.2.2 hin7 (H7.at hin7 rfl) (g := (mkF m 12 #[rv a2, iv 1, rv a3, iv 1, iv 4, iv 1, iv c0] [(.int (1 : Int32)), (.ref a2)])) rfl rfl (hb hby d0_12)) ?_
  refine Goes.step (T2 := T6) (g2 := (mkF m 15 #[rv a2, iv 1, rv a3, iv 1, iv 4, iv 1, iv c1] [])) (fun _ hr => XS.istore X6.here hx rfl (hb hby d0_13) rfl (l' := #[rv a2, iv 1, rv a3, iv 1, iv 4, iv 1, iv c1]) rfl hr) ?_
  refine Goes.step (T2 := T6) (g2 := (mkF m 17 #[rv a2, iv 1, rv a3, iv 1, iv 4, iv 1, iv c1] [(.int c1)])) (fun _ hr => XS.iload X6.here hx rfl (hb hby d0_15) rfl  hr) ?_
  refine Goes.step (T2 := T6) (g2 := (mkF m 20 #[rv a2, iv 1, rv a3, iv 1, iv 4, iv 1, iv c1] [(.int (255 : Int32)), (.int c1)])) (fun _ hr => XS.sipush X6.here hx rfl (hb hby d0_17) hr) ?_
  refine Goes.step (T2 := T6) (g2 := (mkF m 26 #[rv a2, iv 1, rv a3, iv 1, iv 4, iv 1, iv c1] [])) (fun _ hr => XS.icmpYes X6.here hx rfl (pc0 := 20) (pc' := 26) rfl (hb hby d0_20) rfl (flt (hlow1 : ¬ ((255 : Int32) < c1))).2.2.2 (by decide) (by decide) hr) ?_
  refine Goes.step (T2 := T6) (g2 := (mkF m 27 #[rv a2, iv 1, rv a3, iv 1, iv 4, iv 1, iv c1] [(.ref a3)])) (fun _ hr => XS.aloadN X6.here hx rfl (hb hby d0_26) rfl rfl hr) ?_
  refine Goes.step (T2 := T6) (g2 := (mkF m 28 #[rv a2, iv 1, rv a3, iv 1, iv 4, iv 1, iv c1] [(.int (1 : Int32)), (.ref a3)])) (fun _ hr => XS.iloadN X6.here hx rfl (hb hby d0_27) rfl  hr) ?_
  refine Goes.step (T2 := T6) (g2 := (mkF m 30 #[rv a2, iv 1, rv a3, iv 1, iv 4, iv 1, iv c1] [(.int c1), (.int (1 : Int32)), (.ref a3)])) (fun _ hr => XS.iload X6.here hx rfl (hb hby d0_28) rfl  hr) ?_
  refine Goes.step (T2 := T6) (g2 := (mkF m 31 #[rv a2, iv 1, rv a3, iv 1, iv 4, iv 1, iv c1] [(.int (c1.toInt8.toInt32)), (.int (1 : Int32)), (.ref a3)])) (fun _ hr => Jvm.Free.XT.i2b X6.here hx rfl (hb hby d0_30) rfl hr) ?_
  obtain ⟨cl8, Ar8, q8, S8, Nn8, H8, G8⟩ := id V_a3_6
  have hin8 : ¬ ((1 : Int32) < 0 ∨ cl8.slots.size ≤ ((1 : Int32)).toNatClampNeg) := inb_of S8 ⟨by decide, by decide⟩
  obtain ⟨T8, h8, X8, e8, W8, st8⟩ := stB X6 hx hZ e6 Ar8 (j := (1 : Int32)) hin8 (g := (mkF m 31 #[rv a2, iv 1, rv a3, iv 1, iv 4, iv 1, iv c1] [(.int (c1.toInt8.toInt32)), (.int (1 : Int32)), (.ref a3)])) rfl rfl (hb hby d0_31)
  have W8' := W8
  rw [show (nar .byte (c1.toInt8.toInt32)) = (bL1 c1) from bL1_eq c1] at W8'
  have V_a2_8 : Arv Z h8 a2 k2 .char (4 : Int32) [(.int c0), (.int c1), (.int c2), (.int c3)] (.int (0 : Int32)) := V_a2_6.other W8 ne_a2_a3
  have K8 : Keep h0 h8 [a3] := K6.wr W8 (Or.inl (List.mem_of_getElem? (i := 0) rfl))
  have N8 := Fr.snoc X8 N6 ge_a3
  have V_a3_8 : Arv Z h8 a3 k3 .byte (4 : Int32) [(.int (bL1 c0)), (.int (bL1 c1)), (.int (0 : Int32)), (.int (0 : Int32))] (.int (0 : Int32)) := Arv.set Ar8 q8 S8 Nn8 H8 G8 (by have := (show fits .byte (.int (nar .byte (c1.toInt8.toInt32))) = true from (fits_nar_byte _)); rwa [show (nar .byte (c1.toInt8.toInt32)) = (bL1 c1) from bL1_eq c1] at this) W8' 1 rfl (Nat.le_of_ble_eq_true rfl)
  refine Goes.step (T2 := T8) (g2 := (mkF m 32 #[rv a2, iv 1, rv a3, iv 1, iv 4, iv 1, iv c1] [])) st8 ?_
  refine Goes.step (T2 := T8) (g2 := (mkF m 35 #[rv a2, iv 2, rv a3, iv 1, iv 4, iv 1, iv c1] [])) (fun _ hr => XS.iinc X8.here hx rfl (hb hby d0_32) rfl (l' := #[rv a2, iv 2, rv a3, iv 1, iv 4, iv 1, iv c1]) rfl hr) ?_
  refine Goes.step (T2 := T8) (g2 := (mkF m 38 #[rv a2, iv 2, rv a3, iv 2, iv 4, iv 1, iv c1] [])) (fun _ hr => XS.iinc X8.here hx rfl (hb hby d0_35) rfl (l' := #[rv a2, iv 2, rv a3, iv 2, iv 4, iv 1, iv c1]) rfl hr) ?_
  refine Goes.step (T2 := T8) (g2 := (mkF m 41 #[rv a2, iv 2, rv a3, iv 2, iv 4, iv 2, iv c1] [])) (fun _ hr => XS.iinc X8.here hx rfl (hb hby d0_38) rfl (l' := #[rv a2, iv 2, rv a3, iv 2, iv 4, iv 2, iv c1]) rfl hr) ?_
  refine Goes.step (T2 := T8) (g2 := (mkF m 3 #[rv a2, iv 2, rv a3, iv 2, iv 4, iv 2, iv c1] [])) (fun _ hr => XS.goto X8.here hx rfl (pc0 := 41) (pc' := 3) rfl (hb hby d0_41) (by decide) (by decide) hr) ?_
  refine Goes.step (T2 := T8) (g2 := (mkF m 5 #[rv a2, iv 2, rv a3, iv 2, iv 4, iv 2, iv c1] [(.int (2 : Int32))])) (fun _ hr => XS.iload X8.here hx rfl (hb hby d0_3) rfl  hr) ?_
  refine Goes.step (T2 := T8) (g2 := (mkF m 7 #[rv a2, iv 2, rv a3, iv 2, iv 4, iv 2, iv c1] [(.int (4 : Int32)), (.int (2 : Int32))])) (fun _ hr => XS.iload X8.here hx rfl (hb hby d0_5) rfl  hr) ?_
  refine Goes.step (T2 := T8) (g2 := (mkF m 10 #[rv a2, iv 2, rv a3, iv 2, iv 4, iv 2, iv c1] [])) (fun _ hr => XS.icmpNo X8.here hx rfl (hb hby d0_7) rfl (tlt (by decide : (2 : Int32) < (4 : Int32))).2.1 hr) ?_
  refine Goes.step (T2 := T8) (g2 := (mkF m 11 #[rv a2, iv 2, rv a3, iv 2, iv 4, iv 2, iv c1] [(.ref a2)])) (fun _ hr => XS.aloadN X8.here hx rfl (hb hby d0_10) rfl rfl hr) ?_
  refine Goes.step (T2 := T8) (g2 := (mkF m 12 #[rv a2, iv 2, rv a3, iv 2, iv 4, iv 2, iv c1] [(.int (2 : Int32)), (.ref a2)])) (fun _ hr => XS.iloadN X8.here hx rfl (hb hby d0_11) rfl  hr) ?_
  obtain ⟨cl9, Ar9, q9, S9, Nn9, H9, G9⟩ := id V_a2_8
  have hin9 : ¬ ((2 : Int32) < 0 ∨ cl9.slots.size ≤ ((2 : Int32)).toNatClampNeg) := inb_of S9 ⟨by decide, by decide⟩
  refine Goes.step (T2 := T8) (g2 := (mkF m 13 #[rv a2, iv 2, rv a3, iv 2, iv 4, iv 2, iv c1] [(.int c2)])) (X8.caload hx (j := (2 : Int32)) (v := (.int c2)) (own_at e8 Ar9.1) (State.isArrayOf_alike hZ.alike Ar9.2.1) Ar9.2.2 hin9 (H9.at hin9 rfl) (g := (mkF m 12 #[rv a2, iv 2, rv a3, iv 2, iv 4, iv 2, iv c1] [(.int (2 : Int32)), (.ref a2)])) rfl rfl (hb hby d0_12)) ?_
  refine Goes.step (T2 := T8) (g2 := (mkF m 15 #[rv a2, iv 2, rv a3, iv 2, iv 4, iv 2, iv c2] [])) (fun _ hr => XS.istore X8.here hx rfl (hb hby d0_13) rfl (l' := #[rv a2, iv 2, rv a3, iv 2, iv 4, iv 2, iv c2]) rfl hr) ?_
  refine Goes.step (T2 := T8) (g2 := (mkF m 17 #[rv a2, iv 2, rv a3, iv 2, iv 4, iv 2, iv c2] [(.int c2)])) (fun _ hr => XS.iload X8.here hx rfl (hb hby d0_15) rfl  hr) ?_
  refine Goes.step (T2 := T8) (g2 := (mkF m 20 #[rv a2, iv 2, rv a3, iv 2, iv 4, iv 2, iv c2] [(.int (255 : Int32)), (.int c2)])) (fun _ hr => XS.sipush X8.here hx rfl (hb hby d0_17) hr) ?_
  refine Goes.step (T2 := T8) (g2 := (mkF m 23 #[rv a2, iv 2, rv a3, iv 2, iv 4, iv 2, iv c2] [])) (fun _ hr => XS.icmpNo X8.here hx rfl (hb hby d0_20) rfl (tlt (hhigh2 : (255 : Int32) < c2)).2.2.2 hr) ?_
  refine Goes.step (T2 := T8) (g2 := (mkF m 25 #[rv a2, iv 2, rv a3, iv 2, iv 4, iv 2, iv c2] [(.int (2 : Int32))])) (fun _ hr => XS.iload X8.here hx rfl (hb hby d0_23) rfl  hr) ?_
  exact Goes.ret (v := some (.int (2 : Int32))) X8 (by decide) (by decide) (fun h => by rw [Bd.returns] at h; cases h) (by show Q_rm_cmp2 Z a2 k2 a3 k3 c0 c1 c2 c3 h0 n0 _ T8.heap _; rw [e8]; exact ⟨rfl, N8, K8⟩) (fun fs hr => retOut X8 hx Bd.returns rfl (Or.inl ⟨rfl, Or.inl rfl, _, rfl⟩) (hb hby d0_25) hr)
def Q_rm_cmp3 (Z : State) (a2 : Addr) (k2 : ClassId) (a3 : Addr) (k3 : ClassId) (c0 : Int32) (c1 : Int32) (c2 : Int32) (c3 : Int32) (h0 : Heap) (n0 : Nat) (v : Option Value) (h : Heap) (L : List Loc) : Prop := v = some (.int (3 : Int32)) ∧ Fr n0 L ∧ Keep h0 h [a3]
set_option maxRecDepth 65536 in
set_option maxHeartbeats 40000000 in
theorem rm_cmp3 (l : Launch) (Z : State) (a0 : Array Value) (hw : ∀ d ∈ tables_1, d.before a0 Z = true) (ws : List Jvm.Cond) (a2 : Addr) (k2 : ClassId) (a3 : Addr) (k3 : ClassId) (c0 : Int32) (c1 : Int32) (c2 : Int32) (c3 : Int32) (h0 : Heap) (n0 : Nat) (Z0 : n0 ≤ h0.size) (O0 : Old Z n0 h0) (V_a2 : Arv Z h0 a2 k2 .char (4 : Int32) [(.int c0), (.int c1), (.int c2), (.int c3)] (.int (0 : Int32))) (V_a3 : Arv Z h0 a3 k3 .byte (4 : Int32) [(.int (0 : Int32)), (.int (0 : Int32)), (.int (0 : Int32)), (.int (0 : Int32))] (.int (0 : Int32))) (ge_a3 : n0 ≤ a3) (ne_a2_a3 : a2 ≠ a3) (hlow0 : ¬ ((255 : Int32) < c0)) (hlow1 : ¬ ((255 : Int32) < c1)) (hlow2 : ¬ ((255 : Int32) < c2)) (hhigh3 : (255 : Int32) < c3) :
    MetFree l Y0 (head1 (Jvm.Cond.code Y0 jdk_52_method_21_code 7 (some .int) :: ws) ({ frames := 0, cells := 0, slots := 0, locals := 0 } : Room)) (fun a U => a = #[(.ref a2), (.int (0 : Int32)), (.ref a3), (.int (0 : Int32)), (.int (4 : Int32))] ∧ Z.Warmed39 U.vm ∧ U.heap = h0) (fun _ _ _ _ _ => True) (fun _ U o U' => ∃ v L, o = .returned v ∧ Q_rm_cmp3 Z a2 k2 a3 k3 c0 c1 c2 c3 h0 n0 v U'.heap L ∧ FrameEnd U o U' L ({ frames := 0, cells := 0, slots := 0, locals := 0 } : Room).cells ({ frames := 0, cells := 0, slots := 0, locals := 0 } : Room).slots) := by
  refine MetFree.of_bodySF (plainFor_of_name pn_java_lang_StringUTF16) hisR ?_
  intro p e s m args below meth c s₁ Bd hml0 hP hK
  obtain ⟨rfl, hZ, hh⟩ := hP
  have hx := Bd.exec
  have hby := Bd.bytes
  have hml : c.maxLocals = 7 := hml0
  have hown : s.vm.findClass "java/lang/StringUTF16" = some m.cls := findClass_of_methodNamed Bd.named
  have hnm := (name_of_methodNamed Bd.named Bd.method).1
  have X0 : Stand p l e ({ frames := 0, cells := 0, slots := 0, locals := 0 } : Room) s m #[(.ref a2), (.int (0 : Int32)), (.ref a3), (.int (0 : Int32)), (.int (4 : Int32))] below meth c s₁ [] 0 0 := Stand.of_body Bd
  have e0 : s₁.heap = h0 := by rw [← hh, Bd.state]; rfl
  have N0 := Fr.nil n0
  refine Goes.out (l := l) (c := c) (R := ({ frames := 0, cells := 0, slots := 0, locals := 0 } : Room)) (Q := Q_rm_cmp3 Z a2 k2 a3 k3 c0 c1 c2 c3 h0 n0) Bd.notSynchronized ?_
  refine Goes.cast (g2 := mkF m 0 #[rv a2, iv 0, rv a3, iv 0, iv 4, .unset, .unset] []) (by first | (simp [entryFrame, mkF, argsToLocals, Value.category]; done) | rfl) ?_
  have K0 : Keep h0 h0 [a3] := Keep.refl h0 _
  have hws : ∀ x ∈ [a3], n0 ≤ x := (allS ge_a3 all0)
  refine Goes.step (T2 := s₁) (g2 := (mkF m 1 #[rv a2, iv 0, rv a3, iv 0, iv 4, .unset, .unset] [(.int (0 : Int32))])) (fun _ hr => XS.iconst X0.here hx rfl (hb hby d0_0) hr) ?_
  refine Goes.step (T2 := s₁) (g2 := (mkF m 3 #[rv a2, iv 0, rv a3, iv 0, iv 4, iv 0, .unset] [])) (fun _ hr => XS.istore X0.here hx rfl (hb hby d0_1) rfl (l' := #[rv a2, iv 0, rv a3, iv 0, iv 4, iv 0, .unset]) rfl hr) ?_
  refine Goes.step (T2 := s₁) (g2 := (mkF m 5 #[rv a2, iv 0, rv a3, iv 0, iv 4, iv 0, .unset] [(.int (0 : Int32))])) (fun _ hr => XS.iload X0.here hx rfl (hb hby d0_3) rfl  hr) ?_
  refine Goes.step (T2 := s₁) (g2 := (mkF m 7 #[rv a2, iv 0, rv a3, iv 0, iv 4, iv 0, .unset] [(.int (4 : Int32)), (.int (0 : Int32))])) (fun _ hr => XS.iload X0.here hx rfl (hb hby d0_5) rfl  hr) ?_
  refine Goes.step (T2 := s₁) (g2 := (mkF m 10 #[rv a2, iv 0, rv a3, iv 0, iv 4, iv 0, .unset] [])) (fun _ hr => XS.icmpNo X0.here hx rfl (hb hby d0_7) rfl (tlt (by decide : (0 : Int32) < (4 : Int32))).2.1 hr) ?_
  refine Goes.step (T2 := s₁) (g2 := (mkF m 11 #[rv a2, iv 0, rv a3, iv 0, iv 4, iv 0, .unset] [(.ref a2)])) (fun _ hr => XS.aloadN X0.here hx rfl (hb hby d0_10) rfl rfl hr) ?_
  refine Goes.step (T2 := s₁) (g2 := (mkF m 12 #[rv a2, iv 0, rv a3, iv 0, iv 4, iv 0, .unset] [(.int (0 : Int32)), (.ref a2)])) (fun _ hr => XS.iloadN X0.here hx rfl (hb hby d0_11) rfl  hr) ?_
  obtain ⟨cl10, Ar10, q10, S10, Nn10, H10, G10⟩ := id V_a2
  have hin10 : ¬ ((0 : Int32) < 0 ∨ cl10.slots.size ≤ ((0 : Int32)).toNatClampNeg) := inb_of S10 ⟨by decide, by decide⟩
  refine Goes.step (T2 := s₁) (g2 := (mkF m 13 #[rv a2, iv 0, rv a3, iv 0, iv 4, iv 0, .unset] [(.int c0)])) (X0.caload hx (j := (0 : Int32)) (v := (.int c0)) (own_at e0 Ar10.1) (State.isArrayOf_alike hZ.alike Ar10.2.1) Ar10.2.2 hin10 (H10.at hin10 rfl) (g := (mkF m 12 #[rv a2, iv 0, rv a3, iv 0, iv 4, iv 0, .unset] [(.int (0 : Int32)), (.ref a2)])) rfl rfl (hb hby d0_12)) ?_
  refine Goes.step (T2 := s₁) (g2 := (mkF m 15 #[rv a2, iv 0, rv a3, iv 0, iv 4, iv 0, iv c0] [])) (fun _ hr => XS.istore X0.here hx rfl (hb hby d0_13) rfl (l' := #[rv a2, iv 0, rv a3, iv 0, iv 4, iv 0, iv c0]) rfl hr) ?_
  refine Goes.step (T2 := s₁) (g2 := (mkF m 17 #[rv a2, iv 0, rv a3, iv 0, iv 4, iv 0, iv c0] [(.int c0)])) (fun _ hr => XS.iload X0.here hx rfl (hb hby d0_15) rfl  hr) ?_
  refine Goes.step (T2 := s₁) (g2 := (mkF m 20 #[rv a2, iv 0, rv a3, iv 0, iv 4, iv 0, iv c0] [(.int (255 : Int32)), (.int c0)])) (fun _ hr => XS.sipush X0.here hx rfl (hb hby d0_17) hr) ?_
  refine Goes.step (T2 := s₁) (g2 := (mkF m 26 #[rv a2, iv 0, rv a3, iv 0, iv 4, iv 0, iv c0] [])) (fun _ hr => XS.icmpYes X0.here hx rfl (pc0 := 20) (pc' := 26) rfl (hb hby d0_20) rfl (flt (hlow0 : ¬ ((255 : Int32) < c0))).2.2.2 (by decide) (by decide) hr) ?_
  refine Goes.step (T2 := s₁) (g2 := (mkF m 27 #[rv a2, iv 0, rv a3, iv 0, iv 4, iv 0, iv c0] [(.ref a3)])) (fun _ hr => XS.aloadN X0.here hx rfl (hb hby d0_26) rfl rfl hr) ?_
  refine Goes.step (T2 := s₁) (g2 := (mkF m 28 #[rv a2, iv 0, rv a3, iv 0, iv 4, iv 0, iv c0] [(.int (0 : Int32)), (.ref a3)])) (fun _ hr => XS.iloadN X0.here hx rfl (hb hby d0_27) rfl  hr) ?_
  refine Goes.step (T2 := s₁) (g2 := (mkF m 30 #[rv a2, iv 0, rv a3, iv 0, iv 4, iv 0, iv c0] [(.int c0), (.int (0 : Int32)), (.ref a3)])) (fun _ hr => XS.iload X0.here hx rfl (hb hby d0_28) rfl  hr) ?_
  refine Goes.step (T2 := s₁) (g2 := (mkF m 31 #[rv a2, iv 0, rv a3, iv 0, iv 4, iv 0, iv c0] [(.int (c0.toInt8.toInt32)), (.int (0 : Int32)), (.ref a3)])) (fun _ hr => Jvm.Free.XT.i2b X0.here hx rfl (hb hby d0_30) rfl hr) ?_
  obtain ⟨cl11, Ar11, q11, S11, Nn11, H11, G11⟩ := id V_a3
  have hin11 : ¬ ((0 : Int32) < 0 ∨ cl11.slots.size ≤ ((0 : Int32)).toNatClampNeg) := inb_of S11 ⟨by decide, by decide⟩
  obtain ⟨T11, h11, X11, e11, W11, st11⟩ := stB X0 hx hZ e0 Ar11 (j := (0 : Int32)) hin11 (g := (mkF m 31 #[rv a2, iv 0, rv a3, iv 0, iv 4, iv 0, iv c0] [(.int (c0.toInt8.toInt32)), (.int (0 : Int32)), (.ref a3)])) rfl rfl (hb hby d0_31)
  have W11' := W11
  rw [show (nar .byte (c0.toInt8.toInt32)) = (bL1 c0) from bL1_eq c0] at W11'
  have V_a2_11 : Arv Z h11 a2 k2 .char (4 : Int32) [(.int c0), (.int c1), (.int c2), (.int c3)] (.int (0 : Int32)) := V_a2.other W11 ne_a2_a3
  have K11 : Keep h0 h11 [a3] := K0.wr W11 (Or.inl (List.mem_of_getElem? (i := 0) rfl))
  have N11 := Fr.snoc X11 N0 ge_a3
  have V_a3_11 : Arv Z h11 a3 k3 .byte (4 : Int32) [(.int (bL1 c0)), (.int (0 : Int32)), (.int (0 : Int32)), (.int (0 : Int32))] (.int (0 : Int32)) := Arv.set Ar11 q11 S11 Nn11 H11 G11 (by have := (show fits .byte (.int (nar .byte (c0.toInt8.toInt32))) = true from (fits_nar_byte _)); rwa [show (nar .byte (c0.toInt8.toInt32)) = (bL1 c0) from bL1_eq c0] at this) W11' 0 rfl (Nat.le_of_ble_eq_true rfl)
  refine Goes.step (T2 := T11) (g2 := (mkF m 32 #[rv a2, iv 0, rv a3, iv 0, iv 4, iv 0, iv c0] [])) st11 ?_
  refine Goes.step (T2 := T11) (g2 := (mkF m 35 #[rv a2, iv 1, rv a3, iv 0, iv 4, iv 0, iv c0] [])) (fun _ hr => XS.iinc X11.here hx rfl (hb hby d0_32) rfl (l' := #[rv a2, iv 1, rv a3, iv 0, iv 4, iv 0, iv c0]) rfl hr) ?_
  refine Goes.step (T2 := T11) (g2 := (mkF m 38 #[rv a2, iv 1, rv a3, iv 1, iv 4, iv 0, iv c0] [])) (fun _ hr => XS.iinc X11.here hx rfl (hb hby d0_35) rfl (l' := #[rv a2, iv 1, rv a3, iv 1, iv 4, iv 0, iv c0]) rfl hr) ?_
  refine Goes.step (T2 := T11) (g2 := (mkF m 41 #[rv a2, iv 1, rv a3, iv 1, iv 4, iv 1, iv c0] [])) (fun _ hr => XS.iinc X11.here hx rfl (hb hby d0_38) rfl (l' := #[rv a2, iv 1, rv a3, iv 1, iv 4, iv 1, iv c0]) rfl hr) ?_
  refine Goes.step (T2 := T11) (g2 := (mkF m 3 #[rv a2, iv 1, rv a3, iv 1, iv 4, iv 1, iv c0] [])) (fun _ hr => XS.goto X11.here hx rfl (pc0 := 41) (pc' := 3) rfl (hb hby d0_41) (by decide) (by decide) hr) ?_
  refine Goes.step (T2 := T11) (g2 := (mkF m 5 #[rv a2, iv 1, rv a3, iv 1, iv 4, iv 1, iv c0] [(.int (1 : Int32))])) (fun _ hr => XS.iload X11.here hx rfl (hb hby d0_3) rfl  hr) ?_
  refine Goes.step (T2 := T11) (g2 := (mkF m 7 #[rv a2, iv 1, rv a3, iv 1, iv 4, iv 1, iv c0] [(.int (4 : Int32)), (.int (1 : Int32))])) (fun _ hr => XS.iload X11.here hx rfl (hb hby d0_5) rfl  hr) ?_
  refine Goes.step (T2 := T11) (g2 := (mkF m 10 #[rv a2, iv 1, rv a3, iv 1, iv 4, iv 1, iv c0] [])) (fun _ hr => XS.icmpNo X11.here hx rfl (hb hby d0_7) rfl (tlt (by decide : (1 : Int32) < (4 : Int32))).2.1 hr) ?_
  refine Goes.step (T2 := T11) (g2 := (mkF m 11 #[rv a2, iv 1, rv a3, iv 1, iv 4, iv 1, iv c0] [(.ref a2)])) (fun _ hr => XS.aloadN X11.here hx rfl (hb hby d0_10) rfl rfl hr) ?_
  refine Goes.step (T2 := T11) (g2 := (mkF m 12 #[rv a2, iv 1, rv a3, iv 1, iv 4, iv 1, iv c0] [(.int (1 : Int32)), (.ref a2)])) (fun _ hr => XS.iloadN X11.here hx rfl (hb hby d0_11) rfl  hr) ?_
  obtain ⟨cl12, Ar12, q12, S12, Nn12, H12, G12⟩ := id V_a2_11
  have hin12 : ¬ ((1 : Int32) < 0 ∨ cl12.slots.size ≤ ((1 : Int32)).toNatClampNeg) := inb_of S12 ⟨by decide, by decide⟩
  refine Goes.step (T2 := T11) (g2 := (mkF m 13 #[rv a2, iv 1, rv a3, iv 1, iv 4, iv 1, iv c0] [(.int c1)])) (X11.caload hx (j := (1 : Int32)) (v := (.int c1)) (own_at e11 Ar12.1) (State.isArrayOf_alike hZ.alike Ar12.2.1) Ar12.2.2 hin12 (H12.at hin12 rfl) (g := (mkF m 12 #[rv a2, iv 1, rv a3, iv 1, iv 4, iv 1, iv c0] [(.int (1 : Int32)), (.ref a2)])) rfl rfl (hb hby d0_12)) ?_
  refine Goes.step (T2 := T11) (g2 := (mkF m 15 #[rv a2, iv 1, rv a3, iv 1, iv 4, iv 1, iv c1] [])) (fun _ hr => XS.istore X11.here hx rfl (hb hby d0_13) rfl (l' := #[rv a2, iv 1, rv a3, iv 1, iv 4, iv 1, iv c1]) rfl hr) ?_
  refine Goes.step (T2 := T11) (g2 := (mkF m 17 #[rv a2, iv 1, rv a3, iv 1, iv 4, iv 1, iv c1] [(.int c1)])) (fun _ hr => XS.iload X11.here hx rfl (hb hby d0_15) rfl  hr) ?_
  refine Goes.step (T2 := T11) (g2 := (mkF m 20 #[rv a2, iv 1, rv a3, iv 1, iv 4, iv 1, iv c1] [(.int (255 : Int32)), (.int c1)])) (fun _ hr => XS.sipush X11.here hx rfl (hb hby d0_17) hr) ?_
  refine Goes.step (T2 := T11) (g2 := (mkF m 26 #[rv a2, iv 1, rv a3, iv 1, iv 4, iv 1, iv c1] [])) (fun _ hr => XS.icmpYes X11.here hx rfl (pc0 := 20) (pc' := 26) rfl (hb hby d0_20) rfl (flt (hlow1 : ¬ ((255 : Int32) < c1))).2.2.2 (by decide) (by decide) hr) ?_
  refine Goes.step (T2 := T11) (g2 := (mkF m 27 #[rv a2, iv 1, rv a3, iv 1, iv 4, iv 1, iv c1] [(.ref a3)])) (fun _ hr => XS.aloadN X11.here hx rfl (hb hby d0_26) rfl rfl hr) ?_
  refine Goes.step (T2 := T11) (g2 := (mkF m 28 #[rv a2, iv 1, rv a3, iv 1, iv 4, iv 1, iv c1] [(.int (1 : Int32)), (.ref a3)])) (fun _ hr => XS.iloadN X11.here hx rfl (hb hby d0_27) rfl  hr) ?_
  refine Goes.step (T2 := T11) (g2 := (mkF m 30 #[rv a2, iv 1, rv a3, iv 1, iv 4, iv 1, iv c1] [(.int c1), (.int (1 : Int32)), (.ref a3)])) (fun _ hr => XS.iload X11.here hx rfl (hb hby d0_28) rfl  hr) ?_
  refine Goes.step (T2 := T11) (g2 := (mkF m 31 #[rv a2, iv 1, rv a3, iv 1, iv 4, iv 1, iv c1] [(.int (c1.toInt8.toInt32)), (.int (1 : Int32)), (.ref a3)])) (fun _ hr => Jvm.Free.XT.i2b X11.here hx rfl (hb hby d0_30) rfl hr) ?_
  obtain ⟨cl13, Ar13, q13, S13, Nn13, H13, G13⟩ := id V_a3_11
  have hin13 : ¬ ((1 : Int32) < 0 ∨ cl13.slots.size ≤ ((1 : Int32)).toNatClampNeg) := inb_of S13 ⟨by decide, by decide⟩
  obtain ⟨T13, h13, X13, e13, W13, st13⟩ := stB X11 hx hZ e11 Ar13 (j := (1 : Int32)) hin13 (g := (mkF m 31 #[rv a2, iv 1, rv a3, iv 1, iv 4, iv 1, iv c1] [(.int (c1.toInt8.toInt32)), (.int (1 : Int32)), (.ref a3)])) rfl rfl (hb hby d0_31)
  have W13' := W13
  rw [show (nar .byte (c1.toInt8.toInt32)) = (bL1 c1) from bL1_eq c1] at W13'
  have V_a2_13 : Arv Z h13 a2 k2 .char (4 : Int32) [(.int c0), (.int c1), (.int c2), (.int c3)] (.int (0 : Int32)) := V_a2_11.other W13 ne_a2_a3
  have K13 : Keep h0 h13 [a3] := K11.wr W13 (Or.inl (List.mem_of_getElem? (i := 0) rfl))
  have N13 := Fr.snoc X13 N11 ge_a3
  have V_a3_13 : Arv Z h13 a3 k3 .byte (4 : Int32) [(.int (bL1 c0)), (.int (bL1 c1)), (.int (0 : Int32)), (.int (0 : Int32))] (.int (0 : Int32)) := Arv.set Ar13 q13 S13 Nn13 H13 G13 (by have := (show fits .byte (.int (nar .byte (c1.toInt8.toInt32))) = true from (fits_nar_byte _)); rwa [show (nar .byte (c1.toInt8.toInt32)) = (bL1 c1) from bL1_eq c1] at this) W13' 1 rfl (Nat.le_of_ble_eq_true rfl)
  refine Goes.step (T2 := T13) (g2 := (mkF m 32 #[rv a2, iv 1, rv a3, iv 1, iv 4, iv 1, iv c1] [])) st13 ?_
  refine Goes.step (T2 := T13) (g2 := (mkF m 35 #[rv a2, iv 2, rv a3, iv 1, iv 4, iv 1, iv c1] [])) (fun _ hr => XS.iinc X13.here hx rfl (hb hby d0_32) rfl (l' := #[rv a2, iv 2, rv a3, iv 1, iv 4, iv 1, iv c1]) rfl hr) ?_
  refine Goes.step (T2 := T13) (g2 := (mkF m 38 #[rv a2, iv 2, rv a3, iv 2, iv 4, iv 1, iv c1] [])) (fun _ hr => XS.iinc X13.here hx rfl (hb hby d0_35) rfl (l' := #[rv a2, iv 2, rv a3, iv 2, iv 4, iv 1, iv c1]) rfl hr) ?_
  refine Goes.step (T2 := T13) (g2 := (mkF m 41 #[rv a2, iv 2, rv a3, iv 2, iv 4, iv 2, iv c1] [])) (fun _ hr => XS.iinc X13.here hx rfl (hb hby d0_38) rfl (l' := #[rv a2, iv 2, rv a3, iv 2, iv 4, iv 2, iv c1]) rfl hr) ?_
  refine Goes.step (T2 := T13) (g2 := (mkF m 3 #[rv a2, iv 2, rv a3, iv 2, iv 4, iv 2, iv c1] [])) (fun _ hr => XS.goto X13.here hx rfl (pc0 := 41) (pc' := 3) rfl (hb hby d0_41) (by decide) (by decide) hr) ?_
  refine Goes.step (T2 := T13) (g2 := (mkF m 5 #[rv a2, iv 2, rv a3, iv 2, iv 4, iv 2, iv c1] [(.int (2 : Int32))])) (fun _ hr => XS.iload X13.here hx rfl (hb hby d0_3) rfl  hr) ?_
  refine Goes.step (T2 := T13) (g2 := (mkF m 7 #[rv a2, iv 2, rv a3, iv 2, iv 4, iv 2, iv c1] [(.int (4 : Int32)), (.int (2 : Int32))])) (fun _ hr => XS.iload X13.here hx rfl (hb hby d0_5) rfl  hr) ?_
  refine Goes.step (T2 := T13) (g2 := (mkF m 10 #[rv a2, iv 2, rv a3, iv 2, iv 4, iv 2, iv c1] [])) (fun _ hr => XS.icmpNo X13.here hx rfl (hb hby d0_7) rfl (tlt (by decide : (2 : Int32) < (4 : Int32))).2.1 hr) ?_
  refine Goes.step (T2 := T13) (g2 := (mkF m 11 #[rv a2, iv 2, rv a3, iv 2, iv 4, iv 2, iv c1] [(.ref a2)])) (fun _ hr => XS.aloadN X13.here hx rfl (hb hby d0_10) rfl rfl hr) ?_
  refine Goes.step (T2 := T13) (g2 := (mkF m 12 #[rv a2, iv 2, rv a3, iv 2, iv 4, iv 2, iv c1] [(.int (2 : Int32)), (.ref a2)])) (fun _ hr => XS.iloadN X13.here hx rfl (hb hby d0_11) rfl  hr) ?_
  obtain ⟨cl14, Ar14, q14, S14, Nn14, H14, G14⟩ := id V_a2_13
  have hin14 : ¬ ((2 : Int32) < 0 ∨ cl14.slots.size ≤ ((2 : Int32)).toNatClampNeg) := inb_of S14 ⟨by decide, by decide⟩
  refine Goes.step (T2 := T13) (g2 := (mkF m 13 #[rv a2, iv 2, rv a3, iv 2, iv 4, iv 2, iv c1] [(.int c2)])) (X13.caload hx (j := (2 : Int32)) (v := (.int c2)) (own_at e13 Ar14.1) (State.isArrayOf_alike hZ.alike Ar14.2.1) Ar14.2.2 hin14 (H14.at hin14 rfl) (g := (mkF m 12 #[rv a2, iv 2, rv a3, iv 2, iv 4, iv 2, iv c1] [(.int (2 : Int32)), (.ref a2)])) rfl rfl (hb hby d0_12)) ?_
  refine Goes.step (T2 := T13) (g2 := (mkF m 15 #[rv a2, iv 2, rv a3, iv 2, iv 4, iv 2, iv c2] [])) (fun _ hr => XS.istore X13.here hx rfl (hb hby d0_13) rfl (l' := #[rv a2, iv 2, rv a3, iv 2, iv 4, iv 2, iv c2]) rfl hr) ?_
  refine Goes.step (T2 := T13) (g2 := (mkF m 17 #[rv a2, iv 2, rv a3, iv 2, iv 4, iv 2, iv c2] [(.int c2)])) (fun _ hr => XS.iload X13.here hx rfl (hb hby d0_15) rfl  hr) ?_
  refine Goes.step (T2 := T13) (g2 := (mkF m 20 #[rv a2, iv 2, rv a3, iv 2, iv 4, iv 2, iv c2] [(.int (255 : Int32)), (.int c2)])) (fun _ hr => XS.sipush X13.here hx rfl (hb hby d0_17) hr) ?_
  refine Goes.step (T2 := T13) (g2 := (mkF m 26 #[rv a2, iv 2, rv a3, iv 2, iv 4, iv 2, iv c2] [])) (fun _ hr => XS.icmpYes X13.here hx rfl (pc0 := 20) (pc' := 26) rfl (hb hby d0_20) rfl (flt (hlow2 : ¬ ((255 : Int32) < c2))).2.2.2 (by decide) (by decide) hr) ?_
  refine Goes.step (T2 := T13) (g2 := (mkF m 27 #[rv a2, iv 2, rv a3, iv 2, iv 4, iv 2, iv c2] [(.ref a3)])) (fun _ hr => XS.aloadN X13.here hx rfl (hb hby d0_26) rfl rfl hr) ?_
  refine Goes.step (T2 := T13) (g2 := (mkF m 28 #[rv a2, iv 2, rv a3, iv 2, iv 4, iv 2, iv c2] [(.int (2 : Int32)), (.ref a3)])) (fun _ hr => XS.iloadN X13.here hx rfl (hb hby d0_27) rfl  hr) ?_
  refine Goes.step (T2 := T13) (g2 := (mkF m 30 #[rv a2, iv 2, rv a3, iv 2, iv 4, iv 2, iv c2] [(.int c2), (.int (2 : Int32)), (.ref a3)])) (fun _ hr => XS.iload X13.here hx rfl (hb hby d0_28) rfl  hr) ?_
  refine Goes.step (T2 := T13) (g2 := (mkF m 31 #[rv a2, iv 2, rv a3, iv 2, iv 4, iv 2, iv c2] [(.int (c2.toInt8.toInt32)), (.int (2 : Int32)), (.ref a3)])) (fun _ hr => Jvm.Free.XT.i2b X13.here hx rfl (hb hby d0_30) rfl hr) ?_
  obtain ⟨cl15, Ar15, q15, S15, Nn15, H15, G15⟩ := id V_a3_13
  have hin15 : ¬ ((2 : Int32) < 0 ∨ cl15.slots.size ≤ ((2 : Int32)).toNatClampNeg) := inb_of S15 ⟨by decide, by decide⟩
  obtain ⟨T15, h15, X15, e15, W15, st15⟩ := stB X13 hx hZ e13 Ar15 (j := (2 : Int32)) hin15 (g := (mkF m 31 #[rv a2, iv 2, rv a3, iv 2, iv 4, iv 2, iv c2] [(.int (c2.toInt8.toInt32)), (.int (2 : Int32)), (.ref a3)])) rfl rfl (hb hby d0_31)
  have W15' := W15
  rw [show (nar .byte (c2.toInt8.toInt32)) = (bL1 c2) from bL1_eq c2] at W15'
  have V_a2_15 : Arv Z h15 a2 k2 .char (4 : Int32) [(.int c0), (.int c1), (.int c2), (.int c3)] (.int (0 : Int32)) := V_a2_13.other W15 ne_a2_a3
  have K15 : Keep h0 h15 [a3] := K13.wr W15 (Or.inl (List.mem_of_getElem? (i := 0) rfl))
  have N15 := Fr.snoc X15 N13 ge_a3
  have V_a3_15 : Arv Z h15 a3 k3 .byte (4 : Int32) [(.int (bL1 c0)), (.int (bL1 c1)), (.int (bL1 c2)), (.int (0 : Int32))] (.int (0 : Int32)) := Arv.set Ar15 q15 S15 Nn15 H15 G15 (by have := (show fits .byte (.int (nar .byte (c2.toInt8.toInt32))) = true from (fits_nar_byte _)); rwa [show (nar .byte (c2.toInt8.toInt32)) = (bL1 c2) from bL1_eq c2] at this) W15' 2 rfl (Nat.le_of_ble_eq_true rfl)
  refine Goes.step (T2 := T15) (g2 := (mkF m 32 #[rv a2, iv 2, rv a3, iv 2, iv 4, iv 2, iv c2] [])) st15 ?_
  refine Goes.step (T2 := T15) (g2 := (mkF m 35 #[rv a2, iv 3, rv a3, iv 2, iv 4, iv 2, iv c2] [])) (fun _ hr => XS.iinc X15.here hx rfl (hb hby d0_32) rfl (l' := #[rv a2, iv 3, rv a3, iv 2, iv 4, iv 2, iv c2]) rfl hr) ?_
  refine Goes.step (T2 := T15) (g2 := (mkF m 38 #[rv a2, iv 3, rv a3, iv 3, iv 4, iv 2, iv c2] [])) (fun _ hr => XS.iinc X15.here hx rfl (hb hby d0_35) rfl (l' := #[rv a2, iv 3, rv a3, iv 3, iv 4, iv 2, iv c2]) rfl hr) ?_
  refine Goes.step (T2 := T15) (g2 := (mkF m 41 #[rv a2, iv 3, rv a3, iv 3, iv 4, iv 3, iv c2] [])) (fun _ hr => XS.iinc X15.here hx rfl (hb hby d0_38) rfl (l' := #[rv a2, iv 3, rv a3, iv 3, iv 4, iv 3, iv c2]) rfl hr) ?_
  refine Goes.step (T2 := T15) (g2 := (mkF m 3 #[rv a2, iv 3, rv a3, iv 3, iv 4, iv 3, iv c2] [])) (fun _ hr => XS.goto X15.here hx rfl (pc0 := 41) (pc' := 3) rfl (hb hby d0_41) (by decide) (by decide) hr) ?_
  refine Goes.step (T2 := T15) (g2 := (mkF m 5 #[rv a2, iv 3, rv a3, iv 3, iv 4, iv 3, iv c2] [(.int (3 : Int32))])) (fun _ hr => XS.iload X15.here hx rfl (hb hby d0_3) rfl  hr) ?_
  refine Goes.step (T2 := T15) (g2 := (mkF m 7 #[rv a2, iv 3, rv a3, iv 3, iv 4, iv 3, iv c2] [(.int (4 : Int32)), (.int (3 : Int32))])) (fun _ hr => XS.iload X15.here hx rfl (hb hby d0_5) rfl  hr) ?_
  refine Goes.step (T2 := T15) (g2 := (mkF m 10 #[rv a2, iv 3, rv a3, iv 3, iv 4, iv 3, iv c2] [])) (fun _ hr => XS.icmpNo X15.here hx rfl (hb hby d0_7) rfl (tlt (by decide : (3 : Int32) < (4 : Int32))).2.1 hr) ?_
  refine Goes.step (T2 := T15) (g2 := (mkF m 11 #[rv a2, iv 3, rv a3, iv 3, iv 4, iv 3, iv c2] [(.ref a2)])) (fun _ hr => XS.aloadN X15.here hx rfl (hb hby d0_10) rfl rfl hr) ?_
  refine Goes.step (T2 := T15) (g2 := (mkF m 12 #[rv a2, iv 3, rv a3, iv 3, iv 4, iv 3, iv c2] [(.int (3 : Int32)), (.ref a2)])) (fun _ hr => XS.iloadN X15.here hx rfl (hb hby d0_11) rfl  hr) ?_
  obtain ⟨cl16, Ar16, q16, S16, Nn16, H16, G16⟩ := id V_a2_15
  have hin16 : ¬ ((3 : Int32) < 0 ∨ cl16.slots.size ≤ ((3 : Int32)).toNatClampNeg) := inb_of S16 ⟨by decide, by decide⟩
  refine Goes.step (T2 := T15) (g2 := (mkF m 13 #[rv a2, iv 3, rv a3, iv 3, iv 4, iv 3, iv c2] [(.int c3)])) (X15.caload hx (j := (3 : Int32)) (v := (.int c3)) (own_at e15 Ar16.1) (State.isArrayOf_alike hZ.alike Ar16.2.1) Ar16.2.2 hin16 (H16.at hin16 rfl) (g := (mkF m 12 #[rv a2, iv 3, rv a3, iv 3, iv 4, iv 3, iv c2] [(.int (3 : Int32)), (.ref a2)])) rfl rfl (hb hby d0_12)) ?_
  refine Goes.step (T2 := T15) (g2 := (mkF m 15 #[rv a2, iv 3, rv a3, iv 3, iv 4, iv 3, iv c3] [])) (fun _ hr => XS.istore X15.here hx rfl (hb hby d0_13) rfl (l' := #[rv a2, iv 3, rv a3, iv 3, iv 4, iv 3, iv c3]) rfl hr) ?_
  refine Goes.step (T2 := T15) (g2 := (mkF m 17 #[rv a2, iv 3, rv a3, iv 3, iv 4, iv 3, iv c3] [(.int c3)])) (fun _ hr => XS.iload X15.here hx rfl (hb hby d0_15) rfl  hr) ?_
  refine Goes.step (T2 := T15) (g2 := (mkF m 20 #[rv a2, iv 3, rv a3, iv 3, iv 4, iv 3, iv c3] [(.int (255 : Int32)), (.int c3)])) (fun _ hr => XS.sipush X15.here hx rfl (hb hby d0_17) hr) ?_
  refine Goes.step (T2 := T15) (g2 := (mkF m 23 #[rv a2, iv 3, rv a3, iv 3, iv 4, iv 3, iv c3] [])) (fun _ hr => XS.icmpNo X15.here hx rfl (hb hby d0_20) rfl (tlt (hhigh3 : (255 : Int32) < c3)).2.2.2 hr) ?_
  refine Goes.step (T2 := T15) (g2 := (mkF m 25 #[rv a2, iv 3, rv a3, iv 3, iv 4, iv 3, iv c3] [(.int (3 : Int32))])) (fun _ hr => XS.iload X15.here hx rfl (hb hby d0_23) rfl  hr) ?_
  exact Goes.ret (v := some (.int (3 : Int32))) X15 (by decide) (by decide) (fun h => by rw [Bd.returns] at h; cases h) (by show Q_rm_cmp3 Z a2 k2 a3 k3 c0 c1 c2 c3 h0 n0 _ T15.heap _; rw [e15]; exact ⟨rfl, N15, K15⟩) (fun fs hr => retOut X15 hx Bd.returns rfl (Or.inl ⟨rfl, Or.inl rfl, _, rfl⟩) (hb hby d0_25) hr)
theorem d0_44 : decode jdk_52_method_21_code 44 = .ok (.iload 4, 2) := by decide +kernel
theorem d0_46 : decode jdk_52_method_21_code 46 = .ok (.ireturn, 1) := by decide +kernel
def Q_rm_cmp4 (Z : State) (a2 : Addr) (k2 : ClassId) (a3 : Addr) (k3 : ClassId) (c0 : Int32) (c1 : Int32) (c2 : Int32) (c3 : Int32) (h0 : Heap) (n0 : Nat) (v : Option Value) (h : Heap) (L : List Loc) : Prop := v = some (.int (4 : Int32)) ∧ Fr n0 L ∧ Keep h0 h [a3] ∧ Arv Z h a3 k3 .byte (4 : Int32) [(.int (bL1 c0)), (.int (bL1 c1)), (.int (bL1 c2)), (.int (bL1 c3))] (.int (0 : Int32))
set_option maxRecDepth 65536 in
set_option maxHeartbeats 40000000 in
theorem rm_cmp4 (l : Launch) (Z : State) (a0 : Array Value) (hw : ∀ d ∈ tables_1, d.before a0 Z = true) (ws : List Jvm.Cond) (a2 : Addr) (k2 : ClassId) (a3 : Addr) (k3 : ClassId) (c0 : Int32) (c1 : Int32) (c2 : Int32) (c3 : Int32) (h0 : Heap) (n0 : Nat) (Z0 : n0 ≤ h0.size) (O0 : Old Z n0 h0) (V_a2 : Arv Z h0 a2 k2 .char (4 : Int32) [(.int c0), (.int c1), (.int c2), (.int c3)] (.int (0 : Int32))) (V_a3 : Arv Z h0 a3 k3 .byte (4 : Int32) [(.int (0 : Int32)), (.int (0 : Int32)), (.int (0 : Int32)), (.int (0 : Int32))] (.int (0 : Int32))) (ge_a3 : n0 ≤ a3) (ne_a2_a3 : a2 ≠ a3) (hlow0 : ¬ ((255 : Int32) < c0)) (hlow1 : ¬ ((255 : Int32) < c1)) (hlow2 : ¬ ((255 : Int32) < c2)) (hlow3 : ¬ ((255 : Int32) < c3)) :
    MetFree l Y0 (head1 (Jvm.Cond.code Y0 jdk_52_method_21_code 7 (some .int) :: ws) ({ frames := 0, cells := 0, slots := 0, locals := 0 } : Room)) (fun a U => a = #[(.ref a2), (.int (0 : Int32)), (.ref a3), (.int (0 : Int32)), (.int (4 : Int32))] ∧ Z.Warmed39 U.vm ∧ U.heap = h0) (fun _ _ _ _ _ => True) (fun _ U o U' => ∃ v L, o = .returned v ∧ Q_rm_cmp4 Z a2 k2 a3 k3 c0 c1 c2 c3 h0 n0 v U'.heap L ∧ FrameEnd U o U' L ({ frames := 0, cells := 0, slots := 0, locals := 0 } : Room).cells ({ frames := 0, cells := 0, slots := 0, locals := 0 } : Room).slots) := by
  refine MetFree.of_bodySF (plainFor_of_name pn_java_lang_StringUTF16) hisR ?_
  intro p e s m args below meth c s₁ Bd hml0 hP hK
  obtain ⟨rfl, hZ, hh⟩ := hP
  have hx := Bd.exec
  have hby := Bd.bytes
  have hml : c.maxLocals = 7 := hml0
  have hown : s.vm.findClass "java/lang/StringUTF16" = some m.cls := findClass_of_methodNamed Bd.named
  have hnm := (name_of_methodNamed Bd.named Bd.method).1
  have X0 : Stand p l e ({ frames := 0, cells := 0, slots := 0, locals := 0 } : Room) s m #[(.ref a2), (.int (0 : Int32)), (.ref a3), (.int (0 : Int32)), (.int (4 : Int32))] below meth c s₁ [] 0 0 := Stand.of_body Bd
  have e0 : s₁.heap = h0 := by rw [← hh, Bd.state]; rfl
  have N0 := Fr.nil n0
  refine Goes.out (l := l) (c := c) (R := ({ frames := 0, cells := 0, slots := 0, locals := 0 } : Room)) (Q := Q_rm_cmp4 Z a2 k2 a3 k3 c0 c1 c2 c3 h0 n0) Bd.notSynchronized ?_
  refine Goes.cast (g2 := mkF m 0 #[rv a2, iv 0, rv a3, iv 0, iv 4, .unset, .unset] []) (by first | (simp [entryFrame, mkF, argsToLocals, Value.category]; done) | rfl) ?_
  have K0 : Keep h0 h0 [a3] := Keep.refl h0 _
  have hws : ∀ x ∈ [a3], n0 ≤ x := (allS ge_a3 all0)
  refine Goes.step (T2 := s₁) (g2 := (mkF m 1 #[rv a2, iv 0, rv a3, iv 0, iv 4, .unset, .unset] [(.int (0 : Int32))])) (fun _ hr => XS.iconst X0.here hx rfl (hb hby d0_0) hr) ?_
  refine Goes.step (T2 := s₁) (g2 := (mkF m 3 #[rv a2, iv 0, rv a3, iv 0, iv 4, iv 0, .unset] [])) (fun _ hr => XS.istore X0.here hx rfl (hb hby d0_1) rfl (l' := #[rv a2, iv 0, rv a3, iv 0, iv 4, iv 0, .unset]) rfl hr) ?_
  refine Goes.step (T2 := s₁) (g2 := (mkF m 5 #[rv a2, iv 0, rv a3, iv 0, iv 4, iv 0, .unset] [(.int (0 : Int32))])) (fun _ hr => XS.iload X0.here hx rfl (hb hby d0_3) rfl  hr) ?_
  refine Goes.step (T2 := s₁) (g2 := (mkF m 7 #[rv a2, iv 0, rv a3, iv 0, iv 4, iv 0, .unset] [(.int (4 : Int32)), (.int (0 : Int32))])) (fun _ hr => XS.iload X0.here hx rfl (hb hby d0_5) rfl  hr) ?_
  refine Goes.step (T2 := s₁) (g2 := (mkF m 10 #[rv a2, iv 0, rv a3, iv 0, iv 4, iv 0, .unset] [])) (fun _ hr => XS.icmpNo X0.here hx rfl (hb hby d0_7) rfl (tlt (by decide : (0 : Int32) < (4 : Int32))).2.1 hr) ?_
  refine Goes.step (T2 := s₁) (g2 := (mkF m 11 #[rv a2, iv 0, rv a3, iv 0, iv 4, iv 0, .unset] [(.ref a2)])) (fun _ hr => XS.aloadN X0.here hx rfl (hb hby d0_10) rfl rfl hr) ?_
  refine Goes.step (T2 := s₁) (g2 := (mkF m 12 #[rv a2, iv 0, rv a3, iv 0, iv 4, iv 0, .unset] [(.int (0 : Int32)), (.ref a2)])) (fun _ hr => XS.iloadN X0.here hx rfl (hb hby d0_11) rfl  hr) ?_
  obtain ⟨cl17, Ar17, q17, S17, Nn17, H17, G17⟩ := id V_a2
  have hin17 : ¬ ((0 : Int32) < 0 ∨ cl17.slots.size ≤ ((0 : Int32)).toNatClampNeg) := inb_of S17 ⟨by decide, by decide⟩
  refine Goes.step (T2 := s₁) (g2 := (mkF m 13 #[rv a2, iv 0, rv a3, iv 0, iv 4, iv 0, .unset] [(.int c0)])) (X0.caload hx (j := (0 : Int32)) (v := (.int c0)) (own_at e0 Ar17.1) (State.isArrayOf_alike hZ.alike Ar17.2.1) Ar17.2.2 hin17 (H17.at hin17 rfl) (g := (mkF m 12 #[rv a2, iv 0, rv a3, iv 0, iv 4, iv 0, .unset] [(.int (0 : Int32)), (.ref a2)])) rfl rfl (hb hby d0_12)) ?_
  refine Goes.step (T2 := s₁) (g2 := (mkF m 15 #[rv a2, iv 0, rv a3, iv 0, iv 4, iv 0, iv c0] [])) (fun _ hr => XS.istore X0.here hx rfl (hb hby d0_13) rfl (l' := #[rv a2, iv 0, rv a3, iv 0, iv 4, iv 0, iv c0]) rfl hr) ?_
  refine Goes.step (T2 := s₁) (g2 := (mkF m 17 #[rv a2, iv 0, rv a3, iv 0, iv 4, iv 0, iv c0] [(.int c0)])) (fun _ hr => XS.iload X0.here hx rfl (hb hby d0_15) rfl  hr) ?_
  refine Goes.step (T2 := s₁) (g2 := (mkF m 20 #[rv a2, iv 0, rv a3, iv 0, iv 4, iv 0, iv c0] [(.int (255 : Int32)), (.int c0)])) (fun _ hr => XS.sipush X0.here hx rfl (hb hby d0_17) hr) ?_
  refine Goes.step (T2 := s₁) (g2 := (mkF m 26 #[rv a2, iv 0, rv a3, iv 0, iv 4, iv 0, iv c0] [])) (fun _ hr => XS.icmpYes X0.here hx rfl (pc0 := 20) (pc' := 26) rfl (hb hby d0_20) rfl (flt (hlow0 : ¬ ((255 : Int32) < c0))).2.2.2 (by decide) (by decide) hr) ?_
  refine Goes.step (T2 := s₁) (g2 := (mkF m 27 #[rv a2, iv 0, rv a3, iv 0, iv 4, iv 0, iv c0] [(.ref a3)])) (fun _ hr => XS.aloadN X0.here hx rfl (hb hby d0_26) rfl rfl hr) ?_
  refine Goes.step (T2 := s₁) (g2 := (mkF m 28 #[rv a2, iv 0, rv a3, iv 0, iv 4, iv 0, iv c0] [(.int (0 : Int32)), (.ref a3)])) (fun _ hr => XS.iloadN X0.here hx rfl (hb hby d0_27) rfl  hr) ?_
  refine Goes.step (T2 := s₁) (g2 := (mkF m 30 #[rv a2, iv 0, rv a3, iv 0, iv 4, iv 0, iv c0] [(.int c0), (.int (0 : Int32)), (.ref a3)])) (fun _ hr => XS.iload X0.here hx rfl (hb hby d0_28) rfl  hr) ?_
  refine Goes.step (T2 := s₁) (g2 := (mkF m 31 #[rv a2, iv 0, rv a3, iv 0, iv 4, iv 0, iv c0] [(.int (c0.toInt8.toInt32)), (.int (0 : Int32)), (.ref a3)])) (fun _ hr => Jvm.Free.XT.i2b X0.here hx rfl (hb hby d0_30) rfl hr) ?_
  obtain ⟨cl18, Ar18, q18, S18, Nn18, H18, G18⟩ := id V_a3
  have hin18 : ¬ ((0 : Int32) < 0 ∨ cl18.slots.size ≤ ((0 : Int32)).toNatClampNeg) := inb_of S18 ⟨by decide, by decide⟩
  obtain ⟨T18, h18, X18, e18, W18, st18⟩ := stB X0 hx hZ e0 Ar18 (j := (0 : Int32)) hin18 (g := (mkF m 31 #[rv a2, iv 0, rv a3, iv 0, iv 4, iv 0, iv c0] [(.int (c0.toInt8.toInt32)), (.int (0 : Int32)), (.ref a3)])) rfl rfl (hb hby d0_31)
  have W18' := W18
  rw [show (nar .byte (c0.toInt8.toInt32)) = (bL1 c0) from bL1_eq c0] at W18'
  have V_a2_18 : Arv Z h18 a2 k2 .char (4 : Int32) [(.int c0), (.int c1), (.int c2), (.int c3)] (.int (0 : Int32)) := V_a2.other W18 ne_a2_a3
  have K18 : Keep h0 h18 [a3] := K0.wr W18 (Or.inl (List.mem_of_getElem? (i := 0) rfl))
  have N18 := Fr.snoc X18 N0 ge_a3
  have V_a3_18 : Arv Z h18 a3 k3 .byte (4 : Int32) [(.int (bL1 c0)), (.int (0 : Int32)), (.int (0 : Int32)), (.int (0 : Int32))] (.int (0 : Int32)) := Arv.set Ar18 q18 S18 Nn18 H18 G18 (by have := (show fits .byte (.int (nar .byte (c0.toInt8.toInt32))) = true from (fits_nar_byte _)); rwa [show (nar .byte (c0.toInt8.toInt32)) = (bL1 c0) from bL1_eq c0] at this) W18' 0 rfl (Nat.le_of_ble_eq_true rfl)
  refine Goes.step (T2 := T18) (g2 := (mkF m 32 #[rv a2, iv 0, rv a3, iv 0, iv 4, iv 0, iv c0] [])) st18 ?_
  refine Goes.step (T2 := T18) (g2 := (mkF m 35 #[rv a2, iv 1, rv a3, iv 0, iv 4, iv 0, iv c0] [])) (fun _ hr => XS.iinc X18.here hx rfl (hb hby d0_32) rfl (l' := #[rv a2, iv 1, rv a3, iv 0, iv 4, iv 0, iv c0]) rfl hr) ?_
  refine Goes.step (T2 := T18) (g2 := (mkF m 38 #[rv a2, iv 1, rv a3, iv 1, iv 4, iv 0, iv c0] [])) (fun _ hr => XS.iinc X18.here hx rfl (hb hby d0_35) rfl (l' := #[rv a2, iv 1, rv a3, iv 1, iv 4, iv 0, iv c0]) rfl hr) ?_
  refine Goes.step (T2 := T18) (g2 := (mkF m 41 #[rv a2, iv 1, rv a3, iv 1, iv 4, iv 1, iv c0] [])) (fun _ hr => XS.iinc X18.here hx rfl (hb hby d0_38) rfl (l' := #[rv a2, iv 1, rv a3, iv 1, iv 4, iv 1, iv c0]) rfl hr) ?_
  refine Goes.step (T2 := T18) (g2 := (mkF m 3 #[rv a2, iv 1, rv a3, iv 1, iv 4, iv 1, iv c0] [])) (fun _ hr => XS.goto X18.here hx rfl (pc0 := 41) (pc' := 3) rfl (hb hby d0_41) (by decide) (by decide) hr) ?_
  refine Goes.step (T2 := T18) (g2 := (mkF m 5 #[rv a2, iv 1, rv a3, iv 1, iv 4, iv 1, iv c0] [(.int (1 : Int32))])) (fun _ hr => XS.iload X18.here hx rfl (hb hby d0_3) rfl  hr) ?_
  refine Goes.step (T2 := T18) (g2 := (mkF m 7 #[rv a2, iv 1, rv a3, iv 1, iv 4, iv 1, iv c0] [(.int (4 : Int32)), (.int (1 : Int32))])) (fun _ hr => XS.iload X18.here hx rfl (hb hby d0_5) rfl  hr) ?_
  refine Goes.step (T2 := T18) (g2 := (mkF m 10 #[rv a2, iv 1, rv a3, iv 1, iv 4, iv 1, iv c0] [])) (fun _ hr => XS.icmpNo X18.here hx rfl (hb hby d0_7) rfl (tlt (by decide : (1 : Int32) < (4 : Int32))).2.1 hr) ?_
  refine Goes.step (T2 := T18) (g2 := (mkF m 11 #[rv a2, iv 1, rv a3, iv 1, iv 4, iv 1, iv c0] [(.ref a2)])) (fun _ hr => XS.aloadN X18.here hx rfl (hb hby d0_10) rfl rfl hr) ?_
  refine Goes.step (T2 := T18) (g2 := (mkF m 12 #[rv a2, iv 1, rv a3, iv 1, iv 4, iv 1, iv c0] [(.int (1 : Int32)), (.ref a2)])) (fun _ hr => XS.iloadN X18.here hx rfl (hb hby d0_11) rfl  hr) ?_
  obtain ⟨cl19, Ar19, q19, S19, Nn19, H19, G19⟩ := id V_a2_18
  have hin19 : ¬ ((1 : Int32) < 0 ∨ cl19.slots.size ≤ ((1 : Int32)).toNatClampNeg) := inb_of S19 ⟨by decide, by decide⟩
  refine Goes.step (T2 := T18) (g2 := (mkF m 13 #[rv a2, iv 1, rv a3, iv 1, iv 4, iv 1, iv c0] [(.int c1)])) (X18.caload hx (j := (1 : Int32)) (v := (.int c1)) (own_at e18 Ar19.1) (State.isArrayOf_alike hZ.alike Ar19.2.1) Ar19.2.2 hin19 (H19.at hin19 rfl) (g := (mkF m 12 #[rv a2, iv 1, rv a3, iv 1, iv 4, iv 1, iv c0] [(.int (1 : Int32)), (.ref a2)])) rfl rfl (hb hby d0_12)) ?_
  refine Goes.step (T2 := T18) (g2 := (mkF m 15 #[rv a2, iv 1, rv a3, iv 1, iv 4, iv 1, iv c1] [])) (fun _ hr => XS.istore X18.here hx rfl (hb hby d0_13) rfl (l' := #[rv a2, iv 1, rv a3, iv 1, iv 4, iv 1, iv c1]) rfl hr) ?_
  refine Goes.step (T2 := T18) (g2 := (mkF m 17 #[rv a2, iv 1, rv a3, iv 1, iv 4, iv 1, iv c1] [(.int c1)])) (fun _ hr => XS.iload X18.here hx rfl (hb hby d0_15) rfl  hr) ?_
  refine Goes.step (T2 := T18) (g2 := (mkF m 20 #[rv a2, iv 1, rv a3, iv 1, iv 4, iv 1, iv c1] [(.int (255 : Int32)), (.int c1)])) (fun _ hr => XS.sipush X18.here hx rfl (hb hby d0_17) hr) ?_
  refine Goes.step (T2 := T18) (g2 := (mkF m 26 #[rv a2, iv 1, rv a3, iv 1, iv 4, iv 1, iv c1] [])) (fun _ hr => XS.icmpYes X18.here hx rfl (pc0 := 20) (pc' := 26) rfl (hb hby d0_20) rfl (flt (hlow1 : ¬ ((255 : Int32) < c1))).2.2.2 (by decide) (by decide) hr) ?_
  refine Goes.step (T2 := T18) (g2 := (mkF m 27 #[rv a2, iv 1, rv a3, iv 1, iv 4, iv 1, iv c1] [(.ref a3)])) (fun _ hr => XS.aloadN X18.here hx rfl (hb hby d0_26) rfl rfl hr) ?_
  refine Goes.step (T2 := T18) (g2 := (mkF m 28 #[rv a2, iv 1, rv a3, iv 1, iv 4, iv 1, iv c1] [(.int (1 : Int32)), (.ref a3)])) (fun _ hr => XS.iloadN X18.here hx rfl (hb hby d0_27) rfl  hr) ?_
  refine Goes.step (T2 := T18) (g2 := (mkF m 30 #[rv a2, iv 1, rv a3, iv 1, iv 4, iv 1, iv c1] [(.int c1), (.int (1 : Int32)), (.ref a3)])) (fun _ hr => XS.iload X18.here hx rfl (hb hby d0_28) rfl  hr) ?_
  refine Goes.step (T2 := T18) (g2 := (mkF m 31 #[rv a2, iv 1, rv a3, iv 1, iv 4, iv 1, iv c1] [(.int (c1.toInt8.toInt32)), (.int (1 : Int32)), (.ref a3)])) (fun _ hr => Jvm.Free.XT.i2b X18.here hx rfl (hb hby d0_30) rfl hr) ?_
  obtain ⟨cl20, Ar20, q20, S20, Nn20, H20, G20⟩ := id V_a3_18
  have hin20 : ¬ ((1 : Int32) < 0 ∨ cl20.slots.size ≤ ((1 : Int32)).toNatClampNeg) := inb_of S20 ⟨by decide, by decide⟩
  obtain ⟨T20, h20, X20, e20, W20, st20⟩ := stB X18 hx hZ e18 Ar20 (j := (1 : Int32)) hin20 (g := (mkF m 31 #[rv a2, iv 1, rv a3, iv 1, iv 4, iv 1, iv c1] [(.int (c1.toInt8.toInt32)), (.int (1 : Int32)), (.ref a3)])) rfl rfl (hb hby d0_31)
  have W20' := W20
  rw [show (nar .byte (c1.toInt8.toInt32)) = (bL1 c1) from bL1_eq c1] at W20'
  have V_a2_20 : Arv Z h20 a2 k2 .char (4 : Int32) [(.int c0), (.int c1), (.int c2), (.int c3)] (.int (0 : Int32)) := V_a2_18.other W20 ne_a2_a3
  have K20 : Keep h0 h20 [a3] := K18.wr W20 (Or.inl (List.mem_of_getElem? (i := 0) rfl))
  have N20 := Fr.snoc X20 N18 ge_a3
  have V_a3_20 : Arv Z h20 a3 k3 .byte (4 : Int32) [(.int (bL1 c0)), (.int (bL1 c1)), (.int (0 : Int32)), (.int (0 : Int32))] (.int (0 : Int32)) := Arv.set Ar20 q20 S20 Nn20 H20 G20 (by have := (show fits .byte (.int (nar .byte (c1.toInt8.toInt32))) = true from (fits_nar_byte _)); rwa [show (nar .byte (c1.toInt8.toInt32)) = (bL1 c1) from bL1_eq c1] at this) W20' 1 rfl (Nat.le_of_ble_eq_true rfl)
  refine Goes.step (T2 := T20) (g2 := (mkF m 32 #[rv a2, iv 1, rv a3, iv 1, iv 4, iv 1, iv c1] [])) st20 ?_
  refine Goes.step (T2 := T20) (g2 := (mkF m 35 #[rv a2, iv 2, rv a3, iv 1, iv 4, iv 1, iv c1] [])) (fun _ hr => XS.iinc X20.here hx rfl (hb hby d0_32) rfl (l' := #[rv a2, iv 2, rv a3, iv 1, iv 4, iv 1, iv c1]) rfl hr) ?_
  refine Goes.step (T2 := T20) (g2 := (mkF m 38 #[rv a2, iv 2, rv a3, iv 2, iv 4, iv 1, iv c1] [])) (fun _ hr => XS.iinc X20.here hx rfl (hb hby d0_35) rfl (l' := #[rv a2, iv 2, rv a3, iv 2, iv 4, iv 1, iv c1]) rfl hr) ?_
  refine Goes.step (T2 := T20) (g2 := (mkF m 41 #[rv a2, iv 2, rv a3, iv 2, iv 4, iv 2, iv c1] [])) (fun _ hr => XS.iinc X20.here hx rfl (hb hby d0_38) rfl (l' := #[rv a2, iv 2, rv a3, iv 2, iv 4, iv 2, iv c1]) rfl hr) ?_
  refine Goes.step (T2 := T20) (g2 := (mkF m 3 #[rv a2, iv 2, rv a3, iv 2, iv 4, iv 2, iv c1] [])) (fun _ hr => XS.goto X20.here hx rfl (pc0 := 41) (pc' := 3) rfl (hb hby d0_41) (by decide) (by decide) hr) ?_
  refine Goes.step (T2 := T20) (g2 := (mkF m 5 #[rv a2, iv 2, rv a3, iv 2, iv 4, iv 2, iv c1] [(.int (2 : Int32))])) (fun _ hr => XS.iload X20.here hx rfl (hb hby d0_3) rfl  hr) ?_
  refine Goes.step (T2 := T20) (g2 := (mkF m 7 #[rv a2, iv 2, rv a3, iv 2, iv 4, iv 2, iv c1] [(.int (4 : Int32)), (.int (2 : Int32))])) (fun _ hr => XS.iload X20.here hx rfl (hb hby d0_5) rfl  hr) ?_
  refine Goes.step (T2 := T20) (g2 := (mkF m 10 #[rv a2, iv 2, rv a3, iv 2, iv 4, iv 2, iv c1] [])) (fun _ hr => XS.icmpNo X20.here hx rfl (hb hby d0_7) rfl (tlt (by decide : (2 : Int32) < (4 : Int32))).2.1 hr) ?_
  refine Goes.step (T2 := T20) (g2 := (mkF m 11 #[rv a2, iv 2, rv a3, iv 2, iv 4, iv 2, iv c1] [(.ref a2)])) (fun _ hr => XS.aloadN X20.here hx rfl (hb hby d0_10) rfl rfl hr) ?_
  refine Goes.step (T2 := T20) (g2 := (mkF m 12 #[rv a2, iv 2, rv a3, iv 2, iv 4, iv 2, iv c1] [(.int (2 : Int32)), (.ref a2)])) (fun _ hr => XS.iloadN X20.here hx rfl (hb hby d0_11) rfl  hr) ?_
  obtain ⟨cl21, Ar21, q21, S21, Nn21, H21, G21⟩ := id V_a2_20
  have hin21 : ¬ ((2 : Int32) < 0 ∨ cl21.slots.size ≤ ((2 : Int32)).toNatClampNeg) := inb_of S21 ⟨by decide, by decide⟩
  refine Goes.step (T2 := T20) (g2 := (mkF m 13 #[rv a2, iv 2, rv a3, iv 2, iv 4, iv 2, iv c1] [(.int c2)])) (X20.caload hx (j := (2 : Int32)) (v := (.int c2)) (own_at e20 Ar21.1) (State.isArrayOf_alike hZ.alike Ar21.2.1) Ar21.2.2 hin21 (H21.at hin21 rfl) (g := (mkF m 12 #[rv a2, iv 2, rv a3, iv 2, iv 4, iv 2, iv c1] [(.int (2 : Int32)), (.ref a2)])) rfl rfl (hb hby d0_12)) ?_
  refine Goes.step (T2 := T20) (g2 := (mkF m 15 #[rv a2, iv 2, rv a3, iv 2, iv 4, iv 2, iv c2] [])) (fun _ hr => XS.istore X20.here hx rfl (hb hby d0_13) rfl (l' := #[rv a2, iv 2, rv a3, iv 2, iv 4, iv 2, iv c2]) rfl hr) ?_
  refine Goes.step (T2 := T20) (g2 := (mkF m 17 #[rv a2, iv 2, rv a3, iv 2, iv 4, iv 2, iv c2] [(.int c2)])) (fun _ hr => XS.iload X20.here hx rfl (hb hby d0_15) rfl  hr) ?_
  refine Goes.step (T2 := T20) (g2 := (mkF m 20 #[rv a2, iv 2, rv a3, iv 2, iv 4, iv 2, iv c2] [(.int (255 : Int32)), (.int c2)])) (fun _ hr => XS.sipush X20.here hx rfl (hb hby d0_17) hr) ?_
  refine Goes.step (T2 := T20) (g2 := (mkF m 26 #[rv a2, iv 2, rv a3, iv 2, iv 4, iv 2, iv c2] [])) (fun _ hr => XS.icmpYes X20.here hx rfl (pc0 := 20) (pc' := 26) rfl (hb hby d0_20) rfl (flt (hlow2 : ¬ ((255 : Int32) < c2))).2.2.2 (by decide) (by decide) hr) ?_
  refine Goes.step (T2 := T20) (g2 := (mkF m 27 #[rv a2, iv 2, rv a3, iv 2, iv 4, iv 2, iv c2] [(.ref a3)])) (fun _ hr => XS.aloadN X20.here hx rfl (hb hby d0_26) rfl rfl hr) ?_
  refine Goes.step (T2 := T20) (g2 := (mkF m 28 #[rv a2, iv 2, rv a3, iv 2, iv 4, iv 2, iv c2] [(.int (2 : Int32)), (.ref a3)])) (fun _ hr => XS.iloadN X20.here hx rfl (hb hby d0_27) rfl  hr) ?_
  refine Goes.step (T2 := T20) (g2 := (mkF m 30 #[rv a2, iv 2, rv a3, iv 2, iv 4, iv 2, iv c2] [(.int c2), (.int (2 : Int32)), (.ref a3)])) (fun _ hr => XS.iload X20.here hx rfl (hb hby d0_28) rfl  hr) ?_
  refine Goes.step (T2 := T20) (g2 := (mkF m 31 #[rv a2, iv 2, rv a3, iv 2, iv 4, iv 2, iv c2] [(.int (c2.toInt8.toInt32)), (.int (2 : Int32)), (.ref a3)])) (fun _ hr => Jvm.Free.XT.i2b X20.here hx rfl (hb hby d0_30) rfl hr) ?_
  obtain ⟨cl22, Ar22, q22, S22, Nn22, H22, G22⟩ := id V_a3_20
  have hin22 : ¬ ((2 : Int32) < 0 ∨ cl22.slots.size ≤ ((2 : Int32)).toNatClampNeg) := inb_of S22 ⟨by decide, by decide⟩
  obtain ⟨T22, h22, X22, e22, W22, st22⟩ := stB X20 hx hZ e20 Ar22 (j := (2 : Int32)) hin22 (g := (mkF m 31 #[rv a2, iv 2, rv a3, iv 2, iv 4, iv 2, iv c2] [(.int (c2.toInt8.toInt32)), (.int (2 : Int32)), (.ref a3)])) rfl rfl (hb hby d0_31)
  have W22' := W22
  rw [show (nar .byte (c2.toInt8.toInt32)) = (bL1 c2) from bL1_eq c2] at W22'
  have V_a2_22 : Arv Z h22 a2 k2 .char (4 : Int32) [(.int c0), (.int c1), (.int c2), (.int c3)] (.int (0 : Int32)) := V_a2_20.other W22 ne_a2_a3
  have K22 : Keep h0 h22 [a3] := K20.wr W22 (Or.inl (List.mem_of_getElem? (i := 0) rfl))
  have N22 := Fr.snoc X22 N20 ge_a3
  have V_a3_22 : Arv Z h22 a3 k3 .byte (4 : Int32) [(.int (bL1 c0)), (.int (bL1 c1)), (.int (bL1 c2)), (.int (0 : Int32))] (.int (0 : Int32)) := Arv.set Ar22 q22 S22 Nn22 H22 G22 (by have := (show fits .byte (.int (nar .byte (c2.toInt8.toInt32))) = true from (fits_nar_byte _)); rwa [show (nar .byte (c2.toInt8.toInt32)) = (bL1 c2) from bL1_eq c2] at this) W22' 2 rfl (Nat.le_of_ble_eq_true rfl)
  refine Goes.step (T2 := T22) (g2 := (mkF m 32 #[rv a2, iv 2, rv a3, iv 2, iv 4, iv 2, iv c2] [])) st22 ?_
  refine Goes.step (T2 := T22) (g2 := (mkF m 35 #[rv a2, iv 3, rv a3, iv 2, iv 4, iv 2, iv c2] [])) (fun _ hr => XS.iinc X22.here hx rfl (hb hby d0_32) rfl (l' := #[rv a2, iv 3, rv a3, iv 2, iv 4, iv 2, iv c2]) rfl hr) ?_
  refine Goes.step (T2 := T22) (g2 := (mkF m 38 #[rv a2, iv 3, rv a3, iv 3, iv 4, iv 2, iv c2] [])) (fun _ hr => XS.iinc X22.here hx rfl (hb hby d0_35) rfl (l' := #[rv a2, iv 3, rv a3, iv 3, iv 4, iv 2, iv c2]) rfl hr) ?_
  refine Goes.step (T2 := T22) (g2 := (mkF m 41 #[rv a2, iv 3, rv a3, iv 3, iv 4, iv 3, iv c2] [])) (fun _ hr => XS.iinc X22.here hx rfl (hb hby d0_38) rfl (l' := #[rv a2, iv 3, rv a3, iv 3, iv 4, iv 3, iv c2]) rfl hr) ?_
  refine Goes.step (T2 := T22) (g2 := (mkF m 3 #[rv a2, iv 3, rv a3, iv 3, iv 4, iv 3, iv c2] [])) (fun _ hr => XS.goto X22.here hx rfl (pc0 := 41) (pc' := 3) rfl (hb hby d0_41) (by decide) (by decide) hr) ?_
  refine Goes.step (T2 := T22) (g2 := (mkF m 5 #[rv a2, iv 3, rv a3, iv 3, iv 4, iv 3, iv c2] [(.int (3 : Int32))])) (fun _ hr => XS.iload X22.here hx rfl (hb hby d0_3) rfl  hr) ?_
  refine Goes.step (T2 := T22) (g2 := (mkF m 7 #[rv a2, iv 3, rv a3, iv 3, iv 4, iv 3, iv c2] [(.int (4 : Int32)), (.int (3 : Int32))])) (fun _ hr => XS.iload X22.here hx rfl (hb hby d0_5) rfl  hr) ?_
  refine Goes.step (T2 := T22) (g2 := (mkF m 10 #[rv a2, iv 3, rv a3, iv 3, iv 4, iv 3, iv c2] [])) (fun _ hr => XS.icmpNo X22.here hx rfl (hb hby d0_7) rfl (tlt (by decide : (3 : Int32) < (4 : Int32))).2.1 hr) ?_
  refine Goes.step (T2 := T22) (g2 := (mkF m 11 #[rv a2, iv 3, rv a3, iv 3, iv 4, iv 3, iv c2] [(.ref a2)])) (fun _ hr => XS.aloadN X22.here hx rfl (hb hby d0_10) rfl rfl hr) ?_
  refine Goes.step (T2 := T22) (g2 := (mkF m 12 #[rv a2, iv 3, rv a3, iv 3, iv 4, iv 3, iv c2] [(.int (3 : Int32)), (.ref a2)])) (fun _ hr => XS.iloadN X22.here hx rfl (hb hby d0_11) rfl  hr) ?_
  obtain ⟨cl23, Ar23, q23, S23, Nn23, H23, G23⟩ := id V_a2_22
  have hin23 : ¬ ((3 : Int32) < 0 ∨ cl23.slots.size ≤ ((3 : Int32)).toNatClampNeg) := inb_of S23 ⟨by decide, by decide⟩
  refine Goes.step (T2 := T22) (g2 := (mkF m 13 #[rv a2, iv 3, rv a3, iv 3, iv 4, iv 3, iv c2] [(.int c3)])) (X22.caload hx (j := (3 : Int32)) (v := (.int c3)) (own_at e22 Ar23.1) (State.isArrayOf_alike hZ.alike Ar23.2.1) Ar23.2.2 hin23 (H23.at hin23 rfl) (g := (mkF m 12 #[rv a2, iv 3, rv a3, iv 3, iv 4, iv 3, iv c2] [(.int (3 : Int32)), (.ref a2)])) rfl rfl (hb hby d0_12)) ?_
  refine Goes.step (T2 := T22) (g2 := (mkF m 15 #[rv a2, iv 3, rv a3, iv 3, iv 4, iv 3, iv c3] [])) (fun _ hr => XS.istore X22.here hx rfl (hb hby d0_13) rfl (l' := #[rv a2, iv 3, rv a3, iv 3, iv 4, iv 3, iv c3]) rfl hr) ?_
  refine Goes.step (T2 := T22) (g2 := (mkF m 17 #[rv a2, iv 3, rv a3, iv 3, iv 4, iv 3, iv c3] [(.int c3)])) (fun _ hr => XS.iload X22.here hx rfl (hb hby d0_15) rfl  hr) ?_
  refine Goes.step (T2 := T22) (g2 := (mkF m 20 #[rv a2, iv 3, rv a3, iv 3, iv 4, iv 3, iv c3] [(.int (255 : Int32)), (.int c3)])) (fun _ hr => XS.sipush X22.here hx rfl (hb hby d0_17) hr) ?_
  refine Goes.step (T2 := T22) (g2 := (mkF m 26 #[rv a2, iv 3, rv a3, iv 3, iv 4, iv 3, iv c3] [])) (fun _ hr => XS.icmpYes X22.here hx rfl (pc0 := 20) (pc' := 26) rfl (hb hby d0_20) rfl (flt (hlow3 : ¬ ((255 : Int32) < c3))).2.2.2 (by decide) (by decide) hr) ?_
  refine Goes.step (T2 := T22) (g2 := (mkF m 27 #[rv a2, iv 3, rv a3, iv 3, iv 4, iv 3, iv c3] [(.ref a3)])) (fun _ hr => XS.aloadN X22.here hx rfl (hb hby d0_26) rfl rfl hr) ?_
  refine Goes.step (T2 := T22) (g2 := (mkF m 28 #[rv a2, iv 3, rv a3, iv 3, iv 4, iv 3, iv c3] [(.int (3 : Int32)), (.ref a3)])) (fun _ hr => XS.iloadN X22.here hx rfl (hb hby d0_27) rfl  hr) ?_
  refine Goes.step (T2 := T22) (g2 := (mkF m 30 #[rv a2, iv 3, rv a3, iv 3, iv 4, iv 3, iv c3] [(.int c3), (.int (3 : Int32)), (.ref a3)])) (fun _ hr => XS.iload X22.here hx rfl (hb hby d0_28) rfl  hr) ?_
  refine Goes.step (T2 := T22) (g2 := (mkF m 31 #[rv a2, iv 3, rv a3, iv 3, iv 4, iv 3, iv c3] [(.int (c3.toInt8.toInt32)), (.int (3 : Int32)), (.ref a3)])) (fun _ hr => Jvm.Free.XT.i2b X22.here hx rfl (hb hby d0_30) rfl hr) ?_
  obtain ⟨cl24, Ar24, q24, S24, Nn24, H24, G24⟩ := id V_a3_22
  have hin24 : ¬ ((3 : Int32) < 0 ∨ cl24.slots.size ≤ ((3 : Int32)).toNatClampNeg) := inb_of S24 ⟨by decide, by decide⟩
  obtain ⟨T24, h24, X24, e24, W24, st24⟩ := stB X22 hx hZ e22 Ar24 (j := (3 : Int32)) hin24 (g := (mkF m 31 #[rv a2, iv 3, rv a3, iv 3, iv 4, iv 3, iv c3] [(.int (c3.toInt8.toInt32)), (.int (3 : Int32)), (.ref a3)])) rfl rfl (hb hby d0_31)
  have W24' := W24
  rw [show (nar .byte (c3.toInt8.toInt32)) = (bL1 c3) from bL1_eq c3] at W24'
  have V_a2_24 : Arv Z h24 a2 k2 .char (4 : Int32) [(.int c0), (.int c1), (.int c2), (.int c3)] (.int (0 : Int32)) := V_a2_22.other W24 ne_a2_a3
  have K24 : Keep h0 h24 [a3] := K22.wr W24 (Or.inl (List.mem_of_getElem? (i := 0) rfl))
  have N24 := Fr.snoc X24 N22 ge_a3
  have V_a3_24 : Arv Z h24 a3 k3 .byte (4 : Int32) [(.int (bL1 c0)), (.int (bL1 c1)), (.int (bL1 c2)), (.int (bL1 c3))] (.int (0 : Int32)) := Arv.set Ar24 q24 S24 Nn24 H24 G24 (by have := (show fits .byte (.int (nar .byte (c3.toInt8.toInt32))) = true from (fits_nar_byte _)); rwa [show (nar .byte (c3.toInt8.toInt32)) = (bL1 c3) from bL1_eq c3] at this) W24' 3 rfl (Nat.le_of_ble_eq_true rfl)
  refine Goes.step (T2 := T24) (g2 := (mkF m 32 #[rv a2, iv 3, rv a3, iv 3, iv 4, iv 3, iv c3] [])) st24 ?_
  refine Goes.step (T2 := T24) (g2 := (mkF m 35 #[rv a2, iv 4, rv a3, iv 3, iv 4, iv 3, iv c3] [])) (fun _ hr => XS.iinc X24.here hx rfl (hb hby d0_32) rfl (l' := #[rv a2, iv 4, rv a3, iv 3, iv 4, iv 3, iv c3]) rfl hr) ?_
  refine Goes.step (T2 := T24) (g2 := (mkF m 38 #[rv a2, iv 4, rv a3, iv 4, iv 4, iv 3, iv c3] [])) (fun _ hr => XS.iinc X24.here hx rfl (hb hby d0_35) rfl (l' := #[rv a2, iv 4, rv a3, iv 4, iv 4, iv 3, iv c3]) rfl hr) ?_
  refine Goes.step (T2 := T24) (g2 := (mkF m 41 #[rv a2, iv 4, rv a3, iv 4, iv 4, iv 4, iv c3] [])) (fun _ hr => XS.iinc X24.here hx rfl (hb hby d0_38) rfl (l' := #[rv a2, iv 4, rv a3, iv 4, iv 4, iv 4, iv c3]) rfl hr) ?_
  refine Goes.step (T2 := T24) (g2 := (mkF m 3 #[rv a2, iv 4, rv a3, iv 4, iv 4, iv 4, iv c3] [])) (fun _ hr => XS.goto X24.here hx rfl (pc0 := 41) (pc' := 3) rfl (hb hby d0_41) (by decide) (by decide) hr) ?_
  refine Goes.step (T2 := T24) (g2 := (mkF m 5 #[rv a2, iv 4, rv a3, iv 4, iv 4, iv 4, iv c3] [(.int (4 : Int32))])) (fun _ hr => XS.iload X24.here hx rfl (hb hby d0_3) rfl  hr) ?_
  refine Goes.step (T2 := T24) (g2 := (mkF m 7 #[rv a2, iv 4, rv a3, iv 4, iv 4, iv 4, iv c3] [(.int (4 : Int32)), (.int (4 : Int32))])) (fun _ hr => XS.iload X24.here hx rfl (hb hby d0_5) rfl  hr) ?_
  refine Goes.step (T2 := T24) (g2 := (mkF m 44 #[rv a2, iv 4, rv a3, iv 4, iv 4, iv 4, iv c3] [])) (fun _ hr => XS.icmpYes X24.here hx rfl (pc0 := 7) (pc' := 44) rfl (hb hby d0_7) rfl (flt (by decide : ¬ ((4 : Int32) < (4 : Int32)))).2.1 (by decide) (by decide) hr) ?_
  refine Goes.step (T2 := T24) (g2 := (mkF m 46 #[rv a2, iv 4, rv a3, iv 4, iv 4, iv 4, iv c3] [(.int (4 : Int32))])) (fun _ hr => XS.iload X24.here hx rfl (hb hby d0_44) rfl  hr) ?_
  exact Goes.ret (v := some (.int (4 : Int32))) X24 (by decide) (by decide) (fun h => by rw [Bd.returns] at h; cases h) (by show Q_rm_cmp4 Z a2 k2 a3 k3 c0 c1 c2 c3 h0 n0 _ T24.heap _; rw [e24]; exact ⟨rfl, N24, K24, V_a3_24⟩) (fun fs hr => retOut X24 hx Bd.returns rfl (Or.inl ⟨rfl, Or.inl rfl, _, rfl⟩) (hb hby d0_46) hr)
theorem d1_0 : decode jdk_52_method_3_code 0 = .ok (.iload_n 0, 1) := by decide +kernel
theorem d1_1 : decode jdk_52_method_3_code 1 = .ok (.ifCond .ge 11, 3) := by decide +kernel
theorem d1_12 : decode jdk_52_method_3_code 12 = .ok (.iload_n 0, 1) := by decide +kernel
theorem d1_13 : decode jdk_52_method_3_code 13 = .ok (.ldc 20, 2) := by decide +kernel
theorem d1_15 : decode jdk_52_method_3_code 15 = .ok (.if_icmp .lt 40, 3) := by decide +kernel
theorem d1_55 : decode jdk_52_method_3_code 55 = .ok (.iload_n 0, 1) := by decide +kernel
theorem d1_56 : decode jdk_52_method_3_code 56 = .ok (.iconst 1, 1) := by decide +kernel
theorem d1_57 : decode jdk_52_method_3_code 57 = .ok (.ishl, 1) := by decide +kernel
theorem d1_58 : decode jdk_52_method_3_code 58 = .ok (.ireturn, 1) := by decide +kernel
def Q_rm_nbl (Z : State)  (h0 : Heap) (n0 : Nat) (v : Option Value) (h : Heap) (L : List Loc) : Prop := v = some (.int (8 : Int32)) ∧ Fr n0 L ∧ h = h0
set_option maxRecDepth 65536 in
set_option maxHeartbeats 40000000 in
theorem rm_nbl (l : Launch) (Z : State) (a0 : Array Value) (hw : ∀ d ∈ tables_1, d.before a0 Z = true) (ws : List Jvm.Cond)  (h0 : Heap) (n0 : Nat) (Z0 : n0 ≤ h0.size) (O0 : Old Z n0 h0) :
    MetFree l Y1 (head1 (Jvm.Cond.code Y1 jdk_52_method_3_code 1 (some .int) :: ws) ({ frames := 0, cells := 0, slots := 0, locals := 0 } : Room)) (fun a U => a = #[(.int (4 : Int32))] ∧ Z.Warmed39 U.vm ∧ U.heap = h0) (fun _ _ _ _ _ => True) (fun _ U o U' => ∃ v L, o = .returned v ∧ Q_rm_nbl Z  h0 n0 v U'.heap L ∧ FrameEnd U o U' L ({ frames := 0, cells := 0, slots := 0, locals := 0 } : Room).cells ({ frames := 0, cells := 0, slots := 0, locals := 0 } : Room).slots) := by
  refine MetFree.of_bodySF (plainFor_of_name pn_java_lang_StringUTF16) hisR ?_
  intro p e s m args below meth c s₁ Bd hml0 hP hK
  obtain ⟨rfl, hZ, hh⟩ := hP
  have hx := Bd.exec
  have hby := Bd.bytes
  have hml : c.maxLocals = 1 := hml0
  have hown : s.vm.findClass "java/lang/StringUTF16" = some m.cls := findClass_of_methodNamed Bd.named
  have hnm := (name_of_methodNamed Bd.named Bd.method).1
  have X0 : Stand p l e ({ frames := 0, cells := 0, slots := 0, locals := 0 } : Room) s m #[(.int (4 : Int32))] below meth c s₁ [] 0 0 := Stand.of_body Bd
  have e0 : s₁.heap = h0 := by rw [← hh, Bd.state]; rfl
  have N0 := Fr.nil n0
  refine Goes.out (l := l) (c := c) (R := ({ frames := 0, cells := 0, slots := 0, locals := 0 } : Room)) (Q := Q_rm_nbl Z  h0 n0) Bd.notSynchronized ?_
  refine Goes.cast (g2 := mkF m 0 #[iv 4] []) (by first | (simp [entryFrame, mkF, argsToLocals, Value.category]; done) | rfl) ?_
  have K0 : Keep h0 h0 [] := Keep.refl h0 _
  have hws : ∀ x ∈ ([] : List Addr), n0 ≤ x := all0
  refine Goes.step (T2 := s₁) (g2 := (mkF m 1 #[iv 4] [(.int (4 : Int32))])) (fun _ hr => XS.iloadN X0.here hx rfl (hb hby d1_0) rfl  hr) ?_
  refine Goes.step (T2 := s₁) (g2 := (mkF m 12 #[iv 4] [])) (fun _ hr => XS.ifYes X0.here hx rfl (pc0 := 1) (pc' := 12) rfl (hb hby d1_1) rfl ((if0 _ _).trans (flt (by decide : ¬ ((4 : Int32) < (0 : Int32)))).2.1) (by decide) (by decide) hr) ?_
  refine Goes.step (T2 := s₁) (g2 := (mkF m 13 #[iv 4] [(.int (4 : Int32))])) (fun _ hr => XS.iloadN X0.here hx rfl (hb hby d1_12) rfl  hr) ?_
  refine Goes.step (T2 := s₁) (g2 := (mkF m 15 #[iv 4] [(.int (1073741823 : Int32)), (.int (4 : Int32))])) (X0.ldcInt hx hown (mvT hZ (tw hw 49 rfl)) (g := (mkF m 13 #[iv 4] [(.int (4 : Int32))])) rfl (hb hby d1_13)) ?_
  refine Goes.step (T2 := s₁) (g2 := (mkF m 55 #[iv 4] [])) (fun _ hr => XS.icmpYes X0.here hx rfl (pc0 := 15) (pc' := 55) rfl (hb hby d1_15) rfl (tlt (by decide : (4 : Int32) < (1073741823 : Int32))).1 (by decide) (by decide) hr) ?_
  refine Goes.step (T2 := s₁) (g2 := (mkF m 56 #[iv 4] [(.int (4 : Int32))])) (fun _ hr => XS.iloadN X0.here hx rfl (hb hby d1_55) rfl  hr) ?_
  refine Goes.step (T2 := s₁) (g2 := (mkF m 57 #[iv 4] [(.int (1 : Int32)), (.int (4 : Int32))])) (fun _ hr => XS.iconst X0.here hx rfl (hb hby d1_56) hr) ?_
  refine Goes.step (T2 := s₁) (g2 := (mkF m 58 #[iv 4] [(.int (8 : Int32))])) (fun _ hr => Jvm.Free.XT.ishl X0.here hx rfl (hb hby d1_57) rfl hr) ?_
  exact Goes.ret (v := some (.int (8 : Int32))) X0 (by decide) (by decide) (fun h => by rw [Bd.returns] at h; cases h) ⟨rfl, N0, e0⟩ (fun fs hr => retOut X0 hx Bd.returns rfl (Or.inl ⟨rfl, Or.inl rfl, _, rfl⟩) (hb hby d1_58) hr)
theorem d2_0 : decode jdk_52_method_2_code 0 = .ok (.iload_n 0, 1) := by decide +kernel
theorem d2_1 : decode jdk_52_method_2_code 1 = .ok (.invokestatic 11, 3) := by decide +kernel
theorem d2_4 : decode jdk_52_method_2_code 4 = .ok (.newarray .byte, 2) := by decide +kernel
theorem d2_6 : decode jdk_52_method_2_code 6 = .ok (.areturn, 1) := by decide +kernel
def Q_rm_nbf (Z : State)  (h0 : Heap) (n0 : Nat) (v : Option Value) (h : Heap) (L : List Loc) : Prop := ∃ w : Addr, ∃ kw : ClassId, v = some (.ref w) ∧ Fr n0 L ∧ Keep h0 h [] ∧ h0.size ≤ w ∧ Arv Z h w kw .byte (8 : Int32) [(.int (0 : Int32)), (.int (0 : Int32)), (.int (0 : Int32)), (.int (0 : Int32)), (.int (0 : Int32)), (.int (0 : Int32)), (.int (0 : Int32)), (.int (0 : Int32))] (.int (0 : Int32))
set_option maxRecDepth 65536 in
set_option maxHeartbeats 40000000 in
theorem rm_nbf (l : Launch) (Z : State) (a0 : Array Value) (hw : ∀ d ∈ tables_1, d.before a0 Z = true) (ws : List Jvm.Cond)  (h0 : Heap) (n0 : Nat) (Z0 : n0 ≤ h0.size) (O0 : Old Z n0 h0) :
    MetFree l Y2 (head1 (Jvm.Cond.code Y2 jdk_52_method_2_code 1 (some (.array .byte)) :: ws) ({ frames := 1, cells := 1, slots := 8, locals := 12 } : Room)) (fun a U => a = #[(.int (4 : Int32))] ∧ Z.Warmed39 U.vm ∧ U.heap = h0) (fun _ _ _ _ _ => True) (fun _ U o U' => ∃ v L, o = .returned v ∧ Q_rm_nbf Z  h0 n0 v U'.heap L ∧ FrameEnd U o U' L ({ frames := 1, cells := 1, slots := 8, locals := 12 } : Room).cells ({ frames := 1, cells := 1, slots := 8, locals := 12 } : Room).slots) := by
  refine MetFree.of_bodySF (plainFor_of_name pn_java_lang_StringUTF16) hisR ?_
  intro p e s m args below meth c s₁ Bd hml0 hP hK
  obtain ⟨rfl, hZ, hh⟩ := hP
  have hx := Bd.exec
  have hby := Bd.bytes
  have hml : c.maxLocals = 1 := hml0
  have hown : s.vm.findClass "java/lang/StringUTF16" = some m.cls := findClass_of_methodNamed Bd.named
  have hnm := (name_of_methodNamed Bd.named Bd.method).1
  have X0 : Stand p l e ({ frames := 1, cells := 1, slots := 8, locals := 12 } : Room) s m #[(.int (4 : Int32))] below meth c s₁ [] 0 0 := Stand.of_body Bd
  have e0 : s₁.heap = h0 := by rw [← hh, Bd.state]; rfl
  have N0 := Fr.nil n0
  refine Goes.out (l := l) (c := c) (R := ({ frames := 1, cells := 1, slots := 8, locals := 12 } : Room)) (Q := Q_rm_nbf Z  h0 n0) Bd.notSynchronized ?_
  refine Goes.cast (g2 := mkF m 0 #[iv 4] []) (by first | (simp [entryFrame, mkF, argsToLocals, Value.category]; done) | rfl) ?_
  have K0 : Keep h0 h0 [] := Keep.refl h0 _
  have hws : ∀ x ∈ ([] : List Addr), n0 ≤ x := all0
  refine Goes.step (T2 := s₁) (g2 := (mkF m 1 #[iv 4] [(.int (4 : Int32))])) (fun _ hr => XS.iloadN X0.here hx rfl (hb hby d2_0) rfl  hr) ?_
  have Zs25 : n0 ≤ h0.size := Nat.le_trans Z0 K0.1
  obtain ⟨_, _, ⟨T26, L26, k26, n26⟩, -, X26, ⟨Lc26, hQ26, l26, y26, z26⟩, st26⟩ := Jvm.LawKit.callS X0 hx (y := Y1) hown (mvT hZ (tw hw 46 rfl)) (mvT hZ (tw hw 47 rfl)) (mvT hZ (tw hw 19 rfl)) (mvT hZ (tw hw 48 rfl)) (by decide) (backOf (W := 0) (rm_nbl l Z a0 hw []  h0 n0 Zs25 (Old.keep O0 K0 hws)) hZ (tw hw 48 rfl) (tw hw 19 rfl) (by decide) (by decide)) (g := (mkF m 1 #[iv 4] [(.int (4 : Int32))])) rfl (by rw [hml]; rfl) (argsL := [(.int (4 : Int32))]) (rest := []) (lenOf pd_0 rfl) rfl (by show 2 * 0 + _ ≤ _; exact Nat.le_of_eq rfl) (hb hby d2_1) (fun _ _ => ⟨rfl, e0, (by decide : 0 + 0 ≤ _), (by decide : 0 + 0 ≤ _)⟩)
  dsimp only [Pt.U, Pt.locs, Pt.cells, Pt.slots] at X26 l26 y26 z26 st26 hQ26
  subst l26 y26 z26
  obtain ⟨rfl, N26q, e26⟩ := hQ26
  have N26 := Fr.app N0 N26q
  refine Goes.step (T2 := T26) (g2 := (mkF m 4 #[iv 4] [(.int (8 : Int32))])) st26 ?_
  obtain ⟨T27, h27, k27, X27, e27, E27, A27, Ax27, st27⟩ := newPE X26 hx hZ (tw hw 21 rfl) e26 (g := (mkF m 4 #[iv 4] [(.int (8 : Int32))])) rfl (hb hby d2_4) rfl (by decide) (cap := 8) (by decide) (by decide) (by decide) (by decide) (ad := "[B") (by decide)
  obtain ⟨b27, g27⟩ : ∃ z, z = h0.size := ⟨_, rfl⟩
  rw [← g27] at A27 Ax27 st27
  have sz_b27 : h0.size ≤ b27 := Nat.le_trans K0.1 (Nat.le_of_eq g27.symm)
  have ge_b27 : n0 ≤ b27 := Nat.le_trans Z0 sz_b27
  have K27 : Keep h0 h27 [] := K0.ext E27
  have V_b27_27 : Arv Z h27 b27 k27 .byte (8 : Int32) [] (.int (0 : Int32)) := Arv.new A27 (by decide)
  refine Goes.step (T2 := T27) (g2 := (mkF m 6 #[iv 4] [(.ref b27)])) st27 ?_
  have V_b27_p28 : Arv Z h27 b27 k27 .byte (8 : Int32) [(.int (0 : Int32)), (.int (0 : Int32)), (.int (0 : Int32)), (.int (0 : Int32)), (.int (0 : Int32)), (.int (0 : Int32)), (.int (0 : Int32)), (.int (0 : Int32))] (.int (0 : Int32)) := V_b27_27.pad (pad_rep [] (.int (0 : Int32)) 8)
  exact Goes.ret (v := some (.ref b27)) X27 (by decide) (by decide) (fun h => by rw [Bd.returns] at h; cases h) (by show Q_rm_nbf Z  h0 n0 _ T27.heap _; rw [e27]; exact ⟨b27, k27, rfl, N26, K27, sz_b27, V_b27_p28⟩) (fun fs hr => retOut X27 hx Bd.returns rfl (Or.inr (Or.inr (Or.inr (Or.inr ⟨rfl, rfl, rfl⟩)))) (hb hby d2_6) hr)
theorem d3_0 : decode jdk_52_method_4_code 0 = .ok (.getstatic 44, 3) := by decide +kernel
theorem d3_3 : decode jdk_52_method_4_code 3 = .ok (.ifCond .ne 25, 3) := by decide +kernel
theorem d3_28 : decode jdk_52_method_4_code 28 = .ok (.iload_n 1, 1) := by decide +kernel
theorem d3_29 : decode jdk_52_method_4_code 29 = .ok (.iconst 1, 1) := by decide +kernel
theorem d3_30 : decode jdk_52_method_4_code 30 = .ok (.ishl, 1) := by decide +kernel
theorem d3_31 : decode jdk_52_method_4_code 31 = .ok (.istore_n 1, 1) := by decide +kernel
theorem d3_32 : decode jdk_52_method_4_code 32 = .ok (.aload_n 0, 1) := by decide +kernel
theorem d3_33 : decode jdk_52_method_4_code 33 = .ok (.iload_n 1, 1) := by decide +kernel
theorem d3_34 : decode jdk_52_method_4_code 34 = .ok (.iinc 1 1, 3) := by decide +kernel
theorem d3_37 : decode jdk_52_method_4_code 37 = .ok (.iload_n 2, 1) := by decide +kernel
theorem d3_38 : decode jdk_52_method_4_code 38 = .ok (.getstatic 59, 3) := by decide +kernel
theorem d3_41 : decode jdk_52_method_4_code 41 = .ok (.ishr, 1) := by decide +kernel
theorem d3_42 : decode jdk_52_method_4_code 42 = .ok (.i2b, 1) := by decide +kernel
theorem d3_43 : decode jdk_52_method_4_code 43 = .ok (.bastore, 1) := by decide +kernel
theorem d3_44 : decode jdk_52_method_4_code 44 = .ok (.aload_n 0, 1) := by decide +kernel
theorem d3_45 : decode jdk_52_method_4_code 45 = .ok (.iload_n 1, 1) := by decide +kernel
theorem d3_46 : decode jdk_52_method_4_code 46 = .ok (.iload_n 2, 1) := by decide +kernel
theorem d3_47 : decode jdk_52_method_4_code 47 = .ok (.getstatic 63, 3) := by decide +kernel
theorem d3_50 : decode jdk_52_method_4_code 50 = .ok (.ishr, 1) := by decide +kernel
theorem d3_51 : decode jdk_52_method_4_code 51 = .ok (.i2b, 1) := by decide +kernel
theorem d3_52 : decode jdk_52_method_4_code 52 = .ok (.bastore, 1) := by decide +kernel
theorem d3_53 : decode jdk_52_method_4_code 53 = .ok (.return_, 1) := by decide +kernel
def Q_rm_put0 (Z : State) (a2 : Addr) (k2 : ClassId) (c0 : Int32) (y0 : Int32) (y1 : Int32) (y2 : Int32) (y3 : Int32) (y4 : Int32) (y5 : Int32) (y6 : Int32) (y7 : Int32) (h0 : Heap) (n0 : Nat) (v : Option Value) (h : Heap) (L : List Loc) : Prop := v = none ∧ Fr n0 L ∧ Keep h0 h [a2] ∧ Arv Z h a2 k2 .byte (8 : Int32) [(.int (bLo c0)), (.int (bHi c0)), (.int y2), (.int y3), (.int y4), (.int y5), (.int y6), (.int y7)] (.int (0 : Int32))
set_option maxRecDepth 65536 in
set_option maxHeartbeats 40000000 in
theorem rm_put0 (l : Launch) (Z : State) (a0 : Array Value) (hw : ∀ d ∈ tables_1, d.before a0 Z = true) (ws : List Jvm.Cond) (a2 : Addr) (k2 : ClassId) (c0 : Int32) (y0 : Int32) (y1 : Int32) (y2 : Int32) (y3 : Int32) (y4 : Int32) (y5 : Int32) (y6 : Int32) (y7 : Int32) (h0 : Heap) (n0 : Nat) (Z0 : n0 ≤ h0.size) (O0 : Old Z n0 h0) (V_a2 : Arv Z h0 a2 k2 .byte (8 : Int32) [(.int y0), (.int y1), (.int y2), (.int y3), (.int y4), (.int y5), (.int y6), (.int y7)] (.int (0 : Int32))) (S_StringUTF16__assertionsDisabled_old : Sta Z Z.heap "java/lang/StringUTF16" "$assertionsDisabled" "Z" (.int (1 : Int32))) (S_StringUTF16_HI_BYTE_SHIFT_old : Sta Z Z.heap "java/lang/StringUTF16" "HI_BYTE_SHIFT" "I" (.int (0 : Int32))) (S_StringUTF16_LO_BYTE_SHIFT_old : Sta Z Z.heap "java/lang/StringUTF16" "LO_BYTE_SHIFT" "I" (.int (8 : Int32))) (ge_a2 : n0 ≤ a2) :
    MetFree l Y3 (head1 (Jvm.Cond.code Y3 jdk_52_method_4_code 3 none :: ws) ({ frames := 0, cells := 0, slots := 0, locals := 0 } : Room)) (fun a U => a = #[(.ref a2), (.int (0 : Int32)), (.int c0)] ∧ Z.Warmed39 U.vm ∧ U.heap = h0) (fun _ _ _ _ _ => True) (fun _ U o U' => ∃ v L, o = .returned v ∧ Q_rm_put0 Z a2 k2 c0 y0 y1 y2 y3 y4 y5 y6 y7 h0 n0 v U'.heap L ∧ FrameEnd U o U' L ({ frames := 0, cells := 0, slots := 0, locals := 0 } : Room).cells ({ frames := 0, cells := 0, slots := 0, locals := 0 } : Room).slots) := by
  refine MetFree.of_bodySF (plainFor_of_name pn_java_lang_StringUTF16) hisR ?_
  intro p e s m args below meth c s₁ Bd hml0 hP hK
  obtain ⟨rfl, hZ, hh⟩ := hP
  have hx := Bd.exec
  have hby := Bd.bytes
  have hml : c.maxLocals = 3 := hml0
  have hown : s.vm.findClass "java/lang/StringUTF16" = some m.cls := findClass_of_methodNamed Bd.named
  have hnm := (name_of_methodNamed Bd.named Bd.method).1
  have X0 : Stand p l e ({ frames := 0, cells := 0, slots := 0, locals := 0 } : Room) s m #[(.ref a2), (.int (0 : Int32)), (.int c0)] below meth c s₁ [] 0 0 := Stand.of_body Bd
  have e0 : s₁.heap = h0 := by rw [← hh, Bd.state]; rfl
  have N0 := Fr.nil n0
  refine Goes.out (l := l) (c := c) (R := ({ frames := 0, cells := 0, slots := 0, locals := 0 } : Room)) (Q := Q_rm_put0 Z a2 k2 c0 y0 y1 y2 y3 y4 y5 y6 y7 h0 n0) Bd.notSynchronized ?_
  refine Goes.cast (g2 := mkF m 0 #[rv a2, iv 0, iv c0] []) (by first | (simp [entryFrame, mkF, argsToLocals, Value.category]; done) | rfl) ?_
  have K0 : Keep h0 h0 [a2] := Keep.refl h0 _
  have hws : ∀ x ∈ [a2], n0 ≤ x := (allS ge_a2 all0)
  obtain ⟨T29, X29, e29, st29⟩ := getS2 X0 hx hZ hown (host := "") (Or.inl (tw hw 53 rfl)) Via.refl e0 (S_StringUTF16__assertionsDisabled_old.ext (Old.keep O0 K0 hws).2) (g := (mkF m 0 #[rv a2, iv 0, iv c0] [])) rfl (hb hby d3_0)
  refine Goes.step (T2 := T29) (g2 := (mkF m 3 #[rv a2, iv 0, iv c0] [(.int (1 : Int32))])) st29 ?_
  refine Goes.step (T2 := T29) (g2 := (mkF m 28 #[rv a2, iv 0, iv c0] [])) (fun _ hr => XS.ifYes X29.here hx rfl (pc0 := 3) (pc' := 28) rfl (hb hby d3_3) rfl ((if0 _ _).trans (feq (by decide : ¬ ((1 : Int32) = (0 : Int32)))).2) (by decide) (by decide) hr) ?_
  refine Goes.step (T2 := T29) (g2 := (mkF m 29 #[rv a2, iv 0, iv c0] [(.int (0 : Int32))])) (fun _ hr => XS.iloadN X29.here hx rfl (hb hby d3_28) rfl  hr) ?_
  refine Goes.step (T2 := T29) (g2 := (mkF m 30 #[rv a2, iv 0, iv c0] [(.int (1 : Int32)), (.int (0 : Int32))])) (fun _ hr => XS.iconst X29.here hx rfl (hb hby d3_29) hr) ?_
  refine Goes.step (T2 := T29) (g2 := (mkF m 31 #[rv a2, iv 0, iv c0] [(.int (0 : Int32))])) (fun _ hr => Jvm.Free.XT.ishl X29.here hx rfl (hb hby d3_30) rfl hr) ?_
  refine Goes.step (T2 := T29) (g2 := (mkF m 32 #[rv a2, iv 0, iv c0] [])) (fun _ hr => XS.istoreN X29.here hx rfl (hb hby d3_31) rfl (l' := #[rv a2, iv 0, iv c0]) rfl hr) ?_
  refine Goes.step (T2 := T29) (g2 := (mkF m 33 #[rv a2, iv 0, iv c0] [(.ref a2)])) (fun _ hr => XS.aloadN X29.here hx rfl (hb hby d3_32) rfl rfl hr) ?_
  refine Goes.step (T2 := T29) (g2 := (mkF m 34 #[rv a2, iv 0, iv c0] [(.int (0 : Int32)), (.ref a2)])) (fun _ hr => XS.iloadN X29.here hx rfl (hb hby d3_33) rfl  hr) ?_
  refine Goes.step (T2 := T29) (g2 := (mkF m 37 #[rv a2, iv 1, iv c0] [(.int (0 : Int32)), (.ref a2)])) (fun _ hr => XS.iinc X29.here hx rfl (hb hby d3_34) rfl (l' := #[rv a2, iv 1, iv c0]) rfl hr) ?_
  refine Goes.step (T2 := T29) (g2 := (mkF m 38 #[rv a2, iv 1, iv c0] [(.int c0), (.int (0 : Int32)), (.ref a2)])) (fun _ hr => XS.iloadN X29.here hx rfl (hb hby d3_37) rfl  hr) ?_
  obtain ⟨T30, X30, e30, st30⟩ := getS2 X29 hx hZ hown (host := "") (Or.inl (tw hw 54 rfl)) Via.refl e29 (S_StringUTF16_HI_BYTE_SHIFT_old.ext (Old.keep O0 K0 hws).2) (g := (mkF m 38 #[rv a2, iv 1, iv c0] [(.int c0), (.int (0 : Int32)), (.ref a2)])) rfl (hb hby d3_38)
  refine Goes.step (T2 := T30) (g2 := (mkF m 41 #[rv a2, iv 1, iv c0] [(.int (0 : Int32)), (.int c0), (.int (0 : Int32)), (.ref a2)])) st30 ?_
  refine Goes.step (T2 := T30) (g2 := (mkF m 42 #[rv a2, iv 1, iv c0] [(.int (c0 >>> ((0 : Int32) &&& 31))), (.int (0 : Int32)), (.ref a2)])) (fun _ hr => Jvm.Free.XT.ishr X30.here hx rfl (hb hby d3_41) rfl hr) ?_
  refine Goes.step (T2 := T30) (g2 := (mkF m 43 #[rv a2, iv 1, iv c0] [(.int ((c0 >>> ((0 : Int32) &&& 31)).toInt8.toInt32)), (.int (0 : Int32)), (.ref a2)])) (fun _ hr => Jvm.Free.XT.i2b X30.here hx rfl (hb hby d3_42) rfl hr) ?_
  obtain ⟨cl31, Ar31, q31, S31, Nn31, H31, G31⟩ := id V_a2
  have hin31 : ¬ ((0 : Int32) < 0 ∨ cl31.slots.size ≤ ((0 : Int32)).toNatClampNeg) := inb_of S31 ⟨by decide, by decide⟩
  obtain ⟨T31, h31, X31, e31, W31, st31⟩ := stB X30 hx hZ e30 Ar31 (j := (0 : Int32)) hin31 (g := (mkF m 43 #[rv a2, iv 1, iv c0] [(.int ((c0 >>> ((0 : Int32) &&& 31)).toInt8.toInt32)), (.int (0 : Int32)), (.ref a2)])) rfl rfl (hb hby d3_43)
  have W31' := W31
  rw [show (nar .byte ((c0 >>> ((0 : Int32) &&& 31)).toInt8.toInt32)) = (bLo c0) from bLo_eq c0] at W31'
  have K31 : Keep h0 h31 [a2] := K0.wr W31 (Or.inl (List.mem_of_getElem? (i := 0) rfl))
  have N31 := Fr.snoc X31 N0 ge_a2
  have V_a2_31 : Arv Z h31 a2 k2 .byte (8 : Int32) [(.int (bLo c0)), (.int y1), (.int y2), (.int y3), (.int y4), (.int y5), (.int y6), (.int y7)] (.int (0 : Int32)) := Arv.set Ar31 q31 S31 Nn31 H31 G31 (by have := (show fits .byte (.int (nar .byte ((c0 >>> ((0 : Int32) &&& 31)).toInt8.toInt32))) = true from (fits_nar_byte _)); rwa [show (nar .byte ((c0 >>> ((0 : Int32) &&& 31)).toInt8.toInt32)) = (bLo c0) from bLo_eq c0] at this) W31' 0 rfl (Nat.le_of_ble_eq_true rfl)
  refine Goes.step (T2 := T31) (g2 := (mkF m 44 #[rv a2, iv 1, iv c0] [])) st31 ?_
  refine Goes.step (T2 := T31) (g2 := (mkF m 45 #[rv a2, iv 1, iv c0] [(.ref a2)])) (fun _ hr => XS.aloadN X31.here hx rfl (hb hby d3_44) rfl rfl hr) ?_
  refine Goes.step (T2 := T31) (g2 := (mkF m 46 #[rv a2, iv 1, iv c0] [(.int (1 : Int32)), (.ref a2)])) (fun _ hr => XS.iloadN X31.here hx rfl (hb hby d3_45) rfl  hr) ?_
  refine Goes.step (T2 := T31) (g2 := (mkF m 47 #[rv a2, iv 1, iv c0] [(.int c0), (.int (1 : Int32)), (.ref a2)])) (fun _ hr => XS.iloadN X31.here hx rfl (hb hby d3_46) rfl  hr) ?_
  obtain ⟨T32, X32, e32, st32⟩ := getS2 X31 hx hZ hown (host := "") (Or.inl (tw hw 55 rfl)) Via.refl e31 (S_StringUTF16_LO_BYTE_SHIFT_old.ext (Old.keep O0 K31 hws).2) (g := (mkF m 47 #[rv a2, iv 1, iv c0] [(.int c0), (.int (1 : Int32)), (.ref a2)])) rfl (hb hby d3_47)
  refine Goes.step (T2 := T32) (g2 := (mkF m 50 #[rv a2, iv 1, iv c0] [(.int (8 : Int32)), (.int c0), (.int (1 : Int32)), (.ref a2)])) st32 ?_
  refine Goes.step (T2 := T32) (g2 := (mkF m 51 #[rv a2, iv 1, iv c0] [(.int (c0 >>> ((8 : Int32) &&& 31))), (.int (1 : Int32)), (.ref a2)])) (fun _ hr => Jvm.Free.XT.ishr X32.here hx rfl (hb hby d3_50) rfl hr) ?_
  refine Goes.step (T2 := T32) (g2 := (mkF m 52 #[rv a2, iv 1, iv c0] [(.int ((c0 >>> ((8 : Int32) &&& 31)).toInt8.toInt32)), (.int (1 : Int32)), (.ref a2)])) (fun _ hr => Jvm.Free.XT.i2b X32.here hx rfl (hb hby d3_51) rfl hr) ?_
  obtain ⟨cl33, Ar33, q33, S33, Nn33, H33, G33⟩ := id V_a2_31
  have hin33 : ¬ ((1 : Int32) < 0 ∨ cl33.slots.size ≤ ((1 : Int32)).toNatClampNeg) := inb_of S33 ⟨by decide, by decide⟩
  obtain ⟨T33, h33, X33, e33, W33, st33⟩ := stB X32 hx hZ e32 Ar33 (j := (1 : Int32)) hin33 (g := (mkF m 52 #[rv a2, iv 1, iv c0] [(.int ((c0 >>> ((8 : Int32) &&& 31)).toInt8.toInt32)), (.int (1 : Int32)), (.ref a2)])) rfl rfl (hb hby d3_52)
  have W33' := W33
  rw [show (nar .byte ((c0 >>> ((8 : Int32) &&& 31)).toInt8.toInt32)) = (bHi c0) from bHi_eq c0] at W33'
  have K33 : Keep h0 h33 [a2] := K31.wr W33 (Or.inl (List.mem_of_getElem? (i := 0) rfl))
  have N33 := Fr.snoc X33 N31 ge_a2
  have V_a2_33 : Arv Z h33 a2 k2 .byte (8 : Int32) [(.int (bLo c0)), (.int (bHi c0)), (.int y2), (.int y3), (.int y4), (.int y5), (.int y6), (.int y7)] (.int (0 : Int32)) := Arv.set Ar33 q33 S33 Nn33 H33 G33 (by have := (show fits .byte (.int (nar .byte ((c0 >>> ((8 : Int32) &&& 31)).toInt8.toInt32))) = true from (fits_nar_byte _)); rwa [show (nar .byte ((c0 >>> ((8 : Int32) &&& 31)).toInt8.toInt32)) = (bHi c0) from bHi_eq c0] at this) W33' 1 rfl (Nat.le_of_ble_eq_true rfl)
  refine Goes.step (T2 := T33) (g2 := (mkF m 53 #[rv a2, iv 1, iv c0] [])) st33 ?_
  exact Goes.ret (v := none) X33 (by decide) (by decide) (fun _ => rfl) (by show Q_rm_put0 Z a2 k2 c0 y0 y1 y2 y3 y4 y5 y6 y7 h0 n0 _ T33.heap _; rw [e33]; exact ⟨rfl, N33, K33, V_a2_33⟩) (fun fs hr => X33.returnOut hx Bd.returns (hb hby d3_53) hr)
def Q_rm_put1 (Z : State) (a2 : Addr) (k2 : ClassId) (c0 : Int32) (y0 : Int32) (y1 : Int32) (y2 : Int32) (y3 : Int32) (y4 : Int32) (y5 : Int32) (y6 : Int32) (y7 : Int32) (h0 : Heap) (n0 : Nat) (v : Option Value) (h : Heap) (L : List Loc) : Prop := v = none ∧ Fr n0 L ∧ Keep h0 h [a2] ∧ Arv Z h a2 k2 .byte (8 : Int32) [(.int y0), (.int y1), (.int (bLo c0)), (.int (bHi c0)), (.int y4), (.int y5), (.int y6), (.int y7)] (.int (0 : Int32))
set_option maxRecDepth 65536 in
set_option maxHeartbeats 40000000 in
theorem rm_put1 (l : Launch) (Z : State) (a0 : Array Value) (hw : ∀ d ∈ tables_1, d.before a0 Z = true) (ws : List Jvm.Cond) (a2 : Addr) (k2 : ClassId) (c0 : Int32) (y0 : Int32) (y1 : Int32) (y2 : Int32) (y3 : Int32) (y4 : Int32) (y5 : Int32) (y6 : Int32) (y7 : Int32) (h0 : Heap) (n0 : Nat) (Z0 : n0 ≤ h0.size) (O0 : Old Z n0 h0) (V_a2 : Arv Z h0 a2 k2 .byte (8 : Int32) [(.int y0), (.int y1), (.int y2), (.int y3), (.int y4), (.int y5), (.int y6), (.int y7)] (.int (0 : Int32))) (S_StringUTF16__assertionsDisabled_old : Sta Z Z.heap "java/lang/StringUTF16" "$assertionsDisabled" "Z" (.int (1 : Int32))) (S_StringUTF16_HI_BYTE_SHIFT_old : Sta Z Z.heap "java/lang/StringUTF16" "HI_BYTE_SHIFT" "I" (.int (0 : Int32))) (S_StringUTF16_LO_BYTE_SHIFT_old : Sta Z Z.heap "java/lang/StringUTF16" "LO_BYTE_SHIFT" "I" (.int (8 : Int32))) (ge_a2 : n0 ≤ a2) :
    MetFree l Y3 (head1 (Jvm.Cond.code Y3 jdk_52_method_4_code 3 none :: ws) ({ frames := 0, cells := 0, slots := 0, locals := 0 } : Room)) (fun a U => a = #[(.ref a2), (.int (1 : Int32)), (.int c0)] ∧ Z.Warmed39 U.vm ∧ U.heap = h0) (fun _ _ _ _ _ => True) (fun _ U o U' => ∃ v L, o = .returned v ∧ Q_rm_put1 Z a2 k2 c0 y0 y1 y2 y3 y4 y5 y6 y7 h0 n0 v U'.heap L ∧ FrameEnd U o U' L ({ frames := 0, cells := 0, slots := 0, locals := 0 } : Room).cells ({ frames := 0, cells := 0, slots := 0, locals := 0 } : Room).slots) := by
  refine MetFree.of_bodySF (plainFor_of_name pn_java_lang_StringUTF16) hisR ?_
  intro p e s m args below meth c s₁ Bd hml0 hP hK
  obtain ⟨rfl, hZ, hh⟩ := hP
  have hx := Bd.exec
  have hby := Bd.bytes
  have hml : c.maxLocals = 3 := hml0
  have hown : s.vm.findClass "java/lang/StringUTF16" = some m.cls := findClass_of_methodNamed Bd.named
  have hnm := (name_of_methodNamed Bd.named Bd.method).1
  have X0 : Stand p l e ({ frames := 0, cells := 0, slots := 0, locals := 0 } : Room) s m #[(.ref a2), (.int (1 : Int32)), (.int c0)] below meth c s₁ [] 0 0 := Stand.of_body Bd
  have e0 : s₁.heap = h0 := by rw [← hh, Bd.state]; rfl
  have N0 := Fr.nil n0
  refine Goes.out (l := l) (c := c) (R := ({ frames := 0, cells := 0, slots := 0, locals := 0 } : Room)) (Q := Q_rm_put1 Z a2 k2 c0 y0 y1 y2 y3 y4 y5 y6 y7 h0 n0) Bd.notSynchronized ?_
  refine Goes.cast (g2 := mkF m 0 #[rv a2, iv 1, iv c0] []) (by first | (simp [entryFrame, mkF, argsToLocals, Value.category]; done) | rfl) ?_
  have K0 : Keep h0 h0 [a2] := Keep.refl h0 _
  have hws : ∀ x ∈ [a2], n0 ≤ x := (allS ge_a2 all0)
  obtain ⟨T34, X34, e34, st34⟩ := getS2 X0 hx hZ hown (host := "") (Or.inl (tw hw 53 rfl)) Via.refl e0 (S_StringUTF16__assertionsDisabled_old.ext (Old.keep O0 K0 hws).2) (g := (mkF m 0 #[rv a2, iv 1, iv c0] [])) rfl (hb hby d3_0)
  refine Goes.step (T2 := T34) (g2 := (mkF m 3 #[rv a2, iv 1, iv c0] [(.int (1 : Int32))])) st34 ?_
  refine Goes.step (T2 := T34) (g2 := (mkF m 28 #[rv a2, iv 1, iv c0] [])) (fun _ hr => XS.ifYes X34.here hx rfl (pc0 := 3) (pc' := 28) rfl (hb hby d3_3) rfl ((if0 _ _).trans (feq (by decide : ¬ ((1 : Int32) = (0 : Int32)))).2) (by decide) (by decide) hr) ?_
  refine Goes.step (T2 := T34) (g2 := (mkF m 29 #[rv a2, iv 1, iv c0] [(.int (1 : Int32))])) (fun _ hr => XS.iloadN X34.here hx rfl (hb hby d3_28) rfl  hr) ?_
  refine Goes.step (T2 := T34) (g2 := (mkF m 30 #[rv a2, iv 1, iv c0] [(.int (1 : Int32)), (.int (1 : Int32))])) (fun _ hr => XS.iconst X34.here hx rfl (hb hby d3_29) hr) ?_
  refine Goes.step (T2 := T34) (g2 := (mkF m 31 #[rv a2, iv 1, iv c0] [(.int (2 : Int32))])) (fun _ hr => Jvm.Free.XT.ishl X34.here hx rfl (hb hby d3_30) rfl hr) ?_
  refine Goes.step (T2 := T34) (g2 := (mkF m 32 #[rv a2, iv 2, iv c0] [])) (fun _ hr => XS.istoreN X34.here hx rfl (hb hby d3_31) rfl (l' := #[rv a2, iv 2, iv c0]) rfl hr) ?_
  refine Goes.step (T2 := T34) (g2 := (mkF m 33 #[rv a2, iv 2, iv c0] [(.ref a2)])) (fun _ hr => XS.aloadN X34.here hx rfl (hb hby d3_32) rfl rfl hr) ?_
  refine Goes.step (T2 := T34) (g2 := (mkF m 34 #[rv a2, iv 2, iv c0] [(.int (2 : Int32)), (.ref a2)])) (fun _ hr => XS.iloadN X34.here hx rfl (hb hby d3_33) rfl  hr) ?_
  refine Goes.step (T2 := T34) (g2 := (mkF m 37 #[rv a2, iv 3, iv c0] [(.int (2 : Int32)), (.ref a2)])) (fun _ hr => XS.iinc X34.here hx rfl (hb hby d3_34) rfl (l' := #[rv a2, iv 3, iv c0]) rfl hr) ?_
  refine Goes.step (T2 := T34) (g2 := (mkF m 38 #[rv a2, iv 3, iv c0] [(.int c0), (.int (2 : Int32)), (.ref a2)])) (fun _ hr => XS.iloadN X34.here hx rfl (hb hby d3_37) rfl  hr) ?_
  obtain ⟨T35, X35, e35, st35⟩ := getS2 X34 hx hZ hown (host := "") (Or.inl (tw hw 54 rfl)) Via.refl e34 (S_StringUTF16_HI_BYTE_SHIFT_old.ext (Old.keep O0 K0 hws).2) (g := (mkF m 38 #[rv a2, iv 3, iv c0] [(.int c0), (.int (2 : Int32)), (.ref a2)])) rfl (hb hby d3_38)
  refine Goes.step (T2 := T35) (g2 := (mkF m 41 #[rv a2, iv 3, iv c0] [(.int (0 : Int32)), (.int c0), (.int (2 : Int32)), (.ref a2)])) st35 ?_
  refine Goes.step (T2 := T35) (g2 := (mkF m 42 #[rv a2, iv 3, iv c0] [(.int (c0 >>> ((0 : Int32) &&& 31))), (.int (2 : Int32)), (.ref a2)])) (fun _ hr => Jvm.Free.XT.ishr X35.here hx rfl (hb hby d3_41) rfl hr) ?_
  refine Goes.step (T2 := T35) (g2 := (mkF m 43 #[rv a2, iv 3, iv c0] [(.int ((c0 >>> ((0 : Int32) &&& 31)).toInt8.toInt32)), (.int (2 : Int32)), (.ref a2)])) (fun _ hr => Jvm.Free.XT.i2b X35.here hx rfl (hb hby d3_42) rfl hr) ?_
  obtain ⟨cl36, Ar36, q36, S36, Nn36, H36, G36⟩ := id V_a2
  have hin36 : ¬ ((2 : Int32) < 0 ∨ cl36.slots.size ≤ ((2 : Int32)).toNatClampNeg) := inb_of S36 ⟨by decide, by decide⟩
  obtain ⟨T36, h36, X36, e36, W36, st36⟩ := stB X35 hx hZ e35 Ar36 (j := (2 : Int32)) hin36 (g := (mkF m 43 #[rv a2, iv 3, iv c0] [(.int ((c0 >>> ((0 : Int32) &&& 31)).toInt8.toInt32)), (.int (2 : Int32)), (.ref a2)])) rfl rfl (hb hby d3_43)
  have W36' := W36
  rw [show (nar .byte ((c0 >>> ((0 : Int32) &&& 31)).toInt8.toInt32)) = (bLo c0) from bLo_eq c0] at W36'
  have K36 : Keep h0 h36 [a2] := K0.wr W36 (Or.inl (List.mem_of_getElem? (i := 0) rfl))
  have N36 := Fr.snoc X36 N0 ge_a2
  have V_a2_36 : Arv Z h36 a2 k2 .byte (8 : Int32) [(.int y0), (.int y1), (.int (bLo c0)), (.int y3), (.int y4), (.int y5), (.int y6), (.int y7)] (.int (0 : Int32)) := Arv.set Ar36 q36 S36 Nn36 H36 G36 (by have := (show fits .byte (.int (nar .byte ((c0 >>> ((0 : Int32) &&& 31)).toInt8.toInt32))) = true from (fits_nar_byte _)); rwa [show (nar .byte ((c0 >>> ((0 : Int32) &&& 31)).toInt8.toInt32)) = (bLo c0) from bLo_eq c0] at this) W36' 2 rfl (Nat.le_of_ble_eq_true rfl)
  refine Goes.step (T2 := T36) (g2 := (mkF m 44 #[rv a2, iv 3, iv c0] [])) st36 ?_
  refine Goes.step (T2 := T36) (g2 := (mkF m 45 #[rv a2, iv 3, iv c0] [(.ref a2)])) (fun _ hr => XS.aloadN X36.here hx rfl (hb hby d3_44) rfl rfl hr) ?_
  refine Goes.step (T2 := T36) (g2 := (mkF m 46 #[rv a2, iv 3, iv c0] [(.int (3 : Int32)), (.ref a2)])) (fun _ hr => XS.iloadN X36.here hx rfl (hb hby d3_45) rfl  hr) ?_
  refine Goes.step (T2 := T36) (g2 := (mkF m 47 #[rv a2, iv 3, iv c0] [(.int c0), (.int (3 : Int32)), (.ref a2)])) (fun _ hr => XS.iloadN X36.here hx rfl (hb hby d3_46) rfl  hr) ?_
  obtain ⟨T37, X37, e37, st37⟩ := getS2 X36 hx hZ hown (host := "") (Or.inl (tw hw 55 rfl)) Via.refl e36 (S_StringUTF16_LO_BYTE_SHIFT_old.ext (Old.keep O0 K36 hws).2) (g := (mkF m 47 #[rv a2, iv 3, iv c0] [(.int c0), (.int (3 : Int32)), (.ref a2)])) rfl (hb hby d3_47)
  refine Goes.step (T2 := T37) (g2 := (mkF m 50 #[rv a2, iv 3, iv c0] [(.int (8 : Int32)), (.int c0), (.int (3 : Int32)), (.ref a2)])) st37 ?_
  refine Goes.step (T2 := T37) (g2 := (mkF m 51 #[rv a2, iv 3, iv c0] [(.int (c0 >>> ((8 : Int32) &&& 31))), (.int (3 : Int32)), (.ref a2)])) (fun _ hr => Jvm.Free.XT.ishr X37.here hx rfl (hb hby d3_50) rfl hr) ?_
  refine Goes.step (T2 := T37) (g2 := (mkF m 52 #[rv a2, iv 3, iv c0] [(.int ((c0 >>> ((8 : Int32) &&& 31)).toInt8.toInt32)), (.int (3 : Int32)), (.ref a2)])) (fun _ hr => Jvm.Free.XT.i2b X37.here hx rfl (hb hby d3_51) rfl hr) ?_
  obtain ⟨cl38, Ar38, q38, S38, Nn38, H38, G38⟩ := id V_a2_36
  have hin38 : ¬ ((3 : Int32) < 0 ∨ cl38.slots.size ≤ ((3 : Int32)).toNatClampNeg) := inb_of S38 ⟨by decide, by decide⟩
  obtain ⟨T38, h38, X38, e38, W38, st38⟩ := stB X37 hx hZ e37 Ar38 (j := (3 : Int32)) hin38 (g := (mkF m 52 #[rv a2, iv 3, iv c0] [(.int ((c0 >>> ((8 : Int32) &&& 31)).toInt8.toInt32)), (.int (3 : Int32)), (.ref a2)])) rfl rfl (hb hby d3_52)
  have W38' := W38
  rw [show (nar .byte ((c0 >>> ((8 : Int32) &&& 31)).toInt8.toInt32)) = (bHi c0) from bHi_eq c0] at W38'
  have K38 : Keep h0 h38 [a2] := K36.wr W38 (Or.inl (List.mem_of_getElem? (i := 0) rfl))
  have N38 := Fr.snoc X38 N36 ge_a2
  have V_a2_38 : Arv Z h38 a2 k2 .byte (8 : Int32) [(.int y0), (.int y1), (.int (bLo c0)), (.int (bHi c0)), (.int y4), (.int y5), (.int y6), (.int y7)] (.int (0 : Int32)) := Arv.set Ar38 q38 S38 Nn38 H38 G38 (by have := (show fits .byte (.int (nar .byte ((c0 >>> ((8 : Int32) &&& 31)).toInt8.toInt32))) = true from (fits_nar_byte _)); rwa [show (nar .byte ((c0 >>> ((8 : Int32) &&& 31)).toInt8.toInt32)) = (bHi c0) from bHi_eq c0] at this) W38' 3 rfl (Nat.le_of_ble_eq_true rfl)
  refine Goes.step (T2 := T38) (g2 := (mkF m 53 #[rv a2, iv 3, iv c0] [])) st38 ?_
  exact Goes.ret (v := none) X38 (by decide) (by decide) (fun _ => rfl) (by show Q_rm_put1 Z a2 k2 c0 y0 y1 y2 y3 y4 y5 y6 y7 h0 n0 _ T38.heap _; rw [e38]; exact ⟨rfl, N38, K38, V_a2_38⟩) (fun fs hr => X38.returnOut hx Bd.returns (hb hby d3_53) hr)
def Q_rm_put2 (Z : State) (a2 : Addr) (k2 : ClassId) (c0 : Int32) (y0 : Int32) (y1 : Int32) (y2 : Int32) (y3 : Int32) (y4 : Int32) (y5 : Int32) (y6 : Int32) (y7 : Int32) (h0 : Heap) (n0 : Nat) (v : Option Value) (h : Heap) (L : List Loc) : Prop := v = none ∧ Fr n0 L ∧ Keep h0 h [a2] ∧ Arv Z h a2 k2 .byte (8 : Int32) [(.int y0), (.int y1), (.int y2), (.int y3), (.int (bLo c0)), (.int (bHi c0)), (.int y6), (.int y7)] (.int (0 : Int32))
set_option maxRecDepth 65536 in
set_option maxHeartbeats 40000000 in
theorem rm_put2 (l : Launch) (Z : State) (a0 : Array Value) (hw : ∀ d ∈ tables_1, d.before a0 Z = true) (ws : List Jvm.Cond) (a2 : Addr) (k2 : ClassId) (c0 : Int32) (y0 : Int32) (y1 : Int32) (y2 : Int32) (y3 : Int32) (y4 : Int32) (y5 : Int32) (y6 : Int32) (y7 : Int32) (h0 : Heap) (n0 : Nat) (Z0 : n0 ≤ h0.size) (O0 : Old Z n0 h0) (V_a2 : Arv Z h0 a2 k2 .byte (8 : Int32) [(.int y0), (.int y1), (.int y2), (.int y3), (.int y4), (.int y5), (.int y6), (.int y7)] (.int (0 : Int32))) (S_StringUTF16__assertionsDisabled_old : Sta Z Z.heap "java/lang/StringUTF16" "$assertionsDisabled" "Z" (.int (1 : Int32))) (S_StringUTF16_HI_BYTE_SHIFT_old : Sta Z Z.heap "java/lang/StringUTF16" "HI_BYTE_SHIFT" "I" (.int (0 : Int32))) (S_StringUTF16_LO_BYTE_SHIFT_old : Sta Z Z.heap "java/lang/StringUTF16" "LO_BYTE_SHIFT" "I" (.int (8 : Int32))) (ge_a2 : n0 ≤ a2) :
    MetFree l Y3 (head1 (Jvm.Cond.code Y3 jdk_52_method_4_code 3 none :: ws) ({ frames := 0, cells := 0, slots := 0, locals := 0 } : Room)) (fun a U => a = #[(.ref a2), (.int (2 : Int32)), (.int c0)] ∧ Z.Warmed39 U.vm ∧ U.heap = h0) (fun _ _ _ _ _ => True) (fun _ U o U' => ∃ v L, o = .returned v ∧ Q_rm_put2 Z a2 k2 c0 y0 y1 y2 y3 y4 y5 y6 y7 h0 n0 v U'.heap L ∧ FrameEnd U o U' L ({ frames := 0, cells := 0, slots := 0, locals := 0 } : Room).cells ({ frames := 0, cells := 0, slots := 0, locals := 0 } : Room).slots) := by
  refine MetFree.of_bodySF (plainFor_of_name pn_java_lang_StringUTF16) hisR ?_
  intro p e s m args below meth c s₁ Bd hml0 hP hK
  obtain ⟨rfl, hZ, hh⟩ := hP
  have hx := Bd.exec
  have hby := Bd.bytes
  have hml : c.maxLocals = 3 := hml0
  have hown : s.vm.findClass "java/lang/StringUTF16" = some m.cls := findClass_of_methodNamed Bd.named
  have hnm := (name_of_methodNamed Bd.named Bd.method).1
  have X0 : Stand p l e ({ frames := 0, cells := 0, slots := 0, locals := 0 } : Room) s m #[(.ref a2), (.int (2 : Int32)), (.int c0)] below meth c s₁ [] 0 0 := Stand.of_body Bd
  have e0 : s₁.heap = h0 := by rw [← hh, Bd.state]; rfl
  have N0 := Fr.nil n0
  refine Goes.out (l := l) (c := c) (R := ({ frames := 0, cells := 0, slots := 0, locals := 0 } : Room)) (Q := Q_rm_put2 Z a2 k2 c0 y0 y1 y2 y3 y4 y5 y6 y7 h0 n0) Bd.notSynchronized ?_
  refine Goes.cast (g2 := mkF m 0 #[rv a2, iv 2, iv c0] []) (by first | (simp [entryFrame, mkF, argsToLocals, Value.category]; done) | rfl) ?_
  have K0 : Keep h0 h0 [a2] := Keep.refl h0 _
  have hws : ∀ x ∈ [a2], n0 ≤ x := (allS ge_a2 all0)
  obtain ⟨T39, X39, e39, st39⟩ := getS2 X0 hx hZ hown (host := "") (Or.inl (tw hw 53 rfl)) Via.refl e0 (S_StringUTF16__assertionsDisabled_old.ext (Old.keep O0 K0 hws).2) (g := (mkF m 0 #[rv a2, iv 2, iv c0] [])) rfl (hb hby d3_0)
  refine Goes.step (T2 := T39) (g2 := (mkF m 3 #[rv a2, iv 2, iv c0] [(.int (1 : Int32))])) st39 ?_
  refine Goes.step (T2 := T39) (g2 := (mkF m 28 #[rv a2, iv 2, iv c0] [])) (fun _ hr => XS.ifYes X39.here hx rfl (pc0 := 3) (pc' := 28) rfl (hb hby d3_3) rfl ((if0 _ _).trans (feq (by decide : ¬ ((1 : Int32) = (0 : Int32)))).2) (by decide) (by decide) hr) ?_
  refine Goes.step (T2 := T39) (g2 := (mkF m 29 #[rv a2, iv 2, iv c0] [(.int (2 : Int32))])) (fun _ hr => XS.iloadN X39.here hx rfl (hb hby d3_28) rfl  hr) ?_
  refine Goes.step (T2 := T39) (g2 := (mkF m 30 #[rv a2, iv 2, iv c0] [(.int (1 : Int32)), (.int (2 : Int32))])) (fun _ hr => XS.iconst X39.here hx rfl (hb hby d3_29) hr) ?_
  refine Goes.step (T2 := T39) (g2 := (mkF m 31 #[rv a2, iv 2, iv c0] [(.int (4 : Int32))])) (fun _ hr => Jvm.Free.XT.ishl X39.here hx rfl (hb hby d3_30) rfl hr) ?_
  refine Goes.step (T2 := T39) (g2 := (mkF m 32 #[rv a2, iv 4, iv c0] [])) (fun _ hr => XS.istoreN X39.here hx rfl (hb hby d3_31) rfl (l' := #[rv a2, iv 4, iv c0]) rfl hr) ?_
  refine Goes.step (T2 := T39) (g2 := (mkF m 33 #[rv a2, iv 4, iv c0] [(.ref a2)])) (fun _ hr => XS.aloadN X39.here hx rfl (hb hby d3_32) rfl rfl hr) ?_
  refine Goes.step (T2 := T39) (g2 := (mkF m 34 #[rv a2, iv 4, iv c0] [(.int (4 : Int32)), (.ref a2)])) (fun _ hr => XS.iloadN X39.here hx rfl (hb hby d3_33) rfl  hr) ?_
  refine Goes.step (T2 := T39) (g2 := (mkF m 37 #[rv a2, iv 5, iv c0] [(.int (4 : Int32)), (.ref a2)])) (fun _ hr => XS.iinc X39.here hx rfl (hb hby d3_34) rfl (l' := #[rv a2, iv 5, iv c0]) rfl hr) ?_
  refine Goes.step (T2 := T39) (g2 := (mkF m 38 #[rv a2, iv 5, iv c0] [(.int c0), (.int (4 : Int32)), (.ref a2)])) (fun _ hr => XS.iloadN X39.here hx rfl (hb hby d3_37) rfl  hr) ?_
  obtain ⟨T40, X40, e40, st40⟩ := getS2 X39 hx hZ hown (host := "") (Or.inl (tw hw 54 rfl)) Via.refl e39 (S_StringUTF16_HI_BYTE_SHIFT_old.ext (Old.keep O0 K0 hws).2) (g := (mkF m 38 #[rv a2, iv 5, iv c0] [(.int c0), (.int (4 : Int32)), (.ref a2)])) rfl (hb hby d3_38)
  refine Goes.step (T2 := T40) (g2 := (mkF m 41 #[rv a2, iv 5, iv c0] [(.int (0 : Int32)), (.int c0), (.int (4 : Int32)), (.ref a2)])) st40 ?_
  refine Goes.step (T2 := T40) (g2 := (mkF m 42 #[rv a2, iv 5, iv c0] [(.int (c0 >>> ((0 : Int32) &&& 31))), (.int (4 : Int32)), (.ref a2)])) (fun _ hr => Jvm.Free.XT.ishr X40.here hx rfl (hb hby d3_41) rfl hr) ?_
  refine Goes.step (T2 := T40) (g2 := (mkF m 43 #[rv a2, iv 5, iv c0] [(.int ((c0 >>> ((0 : Int32) &&& 31)).toInt8.toInt32)), (.int (4 : Int32)), (.ref a2)])) (fun _ hr => Jvm.Free.XT.i2b X40.here hx rfl (hb hby d3_42) rfl hr) ?_
  obtain ⟨cl41, Ar41, q41, S41, Nn41, H41, G41⟩ := id V_a2
  have hin41 : ¬ ((4 : Int32) < 0 ∨ cl41.slots.size ≤ ((4 : Int32)).toNatClampNeg) := inb_of S41 ⟨by decide, by decide⟩
  obtain ⟨T41, h41, X41, e41, W41, st41⟩ := stB X40 hx hZ e40 Ar41 (j := (4 : Int32)) hin41 (g := (mkF m 43 #[rv a2, iv 5, iv c0] [(.int ((c0 >>> ((0 : Int32) &&& 31)).toInt8.toInt32)), (.int (4 : Int32)), (.ref a2)])) rfl rfl (hb hby d3_43)
  have W41' := W41
  rw [show (nar .byte ((c0 >>> ((0 : Int32) &&& 31)).toInt8.toInt32)) = (bLo c0) from bLo_eq c0] at W41'
  have K41 : Keep h0 h41 [a2] := K0.wr W41 (Or.inl (List.mem_of_getElem? (i := 0) rfl))
  have N41 := Fr.snoc X41 N0 ge_a2
  have V_a2_41 : Arv Z h41 a2 k2 .byte (8 : Int32) [(.int y0), (.int y1), (.int y2), (.int y3), (.int (bLo c0)), (.int y5), (.int y6), (.int y7)] (.int (0 : Int32)) := Arv.set Ar41 q41 S41 Nn41 H41 G41 (by have := (show fits .byte (.int (nar .byte ((c0 >>> ((0 : Int32) &&& 31)).toInt8.toInt32))) = true from (fits_nar_byte _)); rwa [show (nar .byte ((c0 >>> ((0 : Int32) &&& 31)).toInt8.toInt32)) = (bLo c0) from bLo_eq c0] at this) W41' 4 rfl (Nat.le_of_ble_eq_true rfl)
  refine Goes.step (T2 := T41) (g2 := (mkF m 44 #[rv a2, iv 5, iv c0] [])) st41 ?_
  refine Goes.step (T2 := T41) (g2 := (mkF m 45 #[rv a2, iv 5, iv c0] [(.ref a2)])) (fun _ hr => XS.aloadN X41.here hx rfl (hb hby d3_44) rfl rfl hr) ?_
  refine Goes.step (T2 := T41) (g2 := (mkF m 46 #[rv a2, iv 5, iv c0] [(.int (5 : Int32)), (.ref a2)])) (fun _ hr => XS.iloadN X41.here hx rfl (hb hby d3_45) rfl  hr) ?_
  refine Goes.step (T2 := T41) (g2 := (mkF m 47 #[rv a2, iv 5, iv c0] [(.int c0), (.int (5 : Int32)), (.ref a2)])) (fun _ hr => XS.iloadN X41.here hx rfl (hb hby d3_46) rfl  hr) ?_
  obtain ⟨T42, X42, e42, st42⟩ := getS2 X41 hx hZ hown (host := "") (Or.inl (tw hw 55 rfl)) Via.refl e41 (S_StringUTF16_LO_BYTE_SHIFT_old.ext (Old.keep O0 K41 hws).2) (g := (mkF m 47 #[rv a2, iv 5, iv c0] [(.int c0), (.int (5 : Int32)), (.ref a2)])) rfl (hb hby d3_47)
  refine Goes.step (T2 := T42) (g2 := (mkF m 50 #[rv a2, iv 5, iv c0] [(.int (8 : Int32)), (.int c0), (.int (5 : Int32)), (.ref a2)])) st42 ?_
  refine Goes.step (T2 := T42) (g2 := (mkF m 51 #[rv a2, iv 5, iv c0] [(.int (c0 >>> ((8 : Int32) &&& 31))), (.int (5 : Int32)), (.ref a2)])) (fun _ hr => Jvm.Free.XT.ishr X42.here hx rfl (hb hby d3_50) rfl hr) ?_
  refine Goes.step (T2 := T42) (g2 := (mkF m 52 #[rv a2, iv 5, iv c0] [(.int ((c0 >>> ((8 : Int32) &&& 31)).toInt8.toInt32)), (.int (5 : Int32)), (.ref a2)])) (fun _ hr => Jvm.Free.XT.i2b X42.here hx rfl (hb hby d3_51) rfl hr) ?_
  obtain ⟨cl43, Ar43, q43, S43, Nn43, H43, G43⟩ := id V_a2_41
  have hin43 : ¬ ((5 : Int32) < 0 ∨ cl43.slots.size ≤ ((5 : Int32)).toNatClampNeg) := inb_of S43 ⟨by decide, by decide⟩
  obtain ⟨T43, h43, X43, e43, W43, st43⟩ := stB X42 hx hZ e42 Ar43 (j := (5 : Int32)) hin43 (g := (mkF m 52 #[rv a2, iv 5, iv c0] [(.int ((c0 >>> ((8 : Int32) &&& 31)).toInt8.toInt32)), (.int (5 : Int32)), (.ref a2)])) rfl rfl (hb hby d3_52)
  have W43' := W43
  rw [show (nar .byte ((c0 >>> ((8 : Int32) &&& 31)).toInt8.toInt32)) = (bHi c0) from bHi_eq c0] at W43'
  have K43 : Keep h0 h43 [a2] := K41.wr W43 (Or.inl (List.mem_of_getElem? (i := 0) rfl))
  have N43 := Fr.snoc X43 N41 ge_a2
  have V_a2_43 : Arv Z h43 a2 k2 .byte (8 : Int32) [(.int y0), (.int y1), (.int y2), (.int y3), (.int (bLo c0)), (.int (bHi c0)), (.int y6), (.int y7)] (.int (0 : Int32)) := Arv.set Ar43 q43 S43 Nn43 H43 G43 (by have := (show fits .byte (.int (nar .byte ((c0 >>> ((8 : Int32) &&& 31)).toInt8.toInt32))) = true from (fits_nar_byte _)); rwa [show (nar .byte ((c0 >>> ((8 : Int32) &&& 31)).toInt8.toInt32)) = (bHi c0) from bHi_eq c0] at this) W43' 5 rfl (Nat.le_of_ble_eq_true rfl)
  refine Goes.step (T2 := T43) (g2 := (mkF m 53 #[rv a2, iv 5, iv c0] [])) st43 ?_
  exact Goes.ret (v := none) X43 (by decide) (by decide) (fun _ => rfl) (by show Q_rm_put2 Z a2 k2 c0 y0 y1 y2 y3 y4 y5 y6 y7 h0 n0 _ T43.heap _; rw [e43]; exact ⟨rfl, N43, K43, V_a2_43⟩) (fun fs hr => X43.returnOut hx Bd.returns (hb hby d3_53) hr)
def Q_rm_put3 (Z : State) (a2 : Addr) (k2 : ClassId) (c0 : Int32) (y0 : Int32) (y1 : Int32) (y2 : Int32) (y3 : Int32) (y4 : Int32) (y5 : Int32) (y6 : Int32) (y7 : Int32) (h0 : Heap) (n0 : Nat) (v : Option Value) (h : Heap) (L : List Loc) : Prop := v = none ∧ Fr n0 L ∧ Keep h0 h [a2] ∧ Arv Z h a2 k2 .byte (8 : Int32) [(.int y0), (.int y1), (.int y2), (.int y3), (.int y4), (.int y5), (.int (bLo c0)), (.int (bHi c0))] (.int (0 : Int32))
set_option maxRecDepth 65536 in
set_option maxHeartbeats 40000000 in
theorem rm_put3 (l : Launch) (Z : State) (a0 : Array Value) (hw : ∀ d ∈ tables_1, d.before a0 Z = true) (ws : List Jvm.Cond) (a2 : Addr) (k2 : ClassId) (c0 : Int32) (y0 : Int32) (y1 : Int32) (y2 : Int32) (y3 : Int32) (y4 : Int32) (y5 : Int32) (y6 : Int32) (y7 : Int32) (h0 : Heap) (n0 : Nat) (Z0 : n0 ≤ h0.size) (O0 : Old Z n0 h0) (V_a2 : Arv Z h0 a2 k2 .byte (8 : Int32) [(.int y0), (.int y1), (.int y2), (.int y3), (.int y4), (.int y5), (.int y6), (.int y7)] (.int (0 : Int32))) (S_StringUTF16__assertionsDisabled_old : Sta Z Z.heap "java/lang/StringUTF16" "$assertionsDisabled" "Z" (.int (1 : Int32))) (S_StringUTF16_HI_BYTE_SHIFT_old : Sta Z Z.heap "java/lang/StringUTF16" "HI_BYTE_SHIFT" "I" (.int (0 : Int32))) (S_StringUTF16_LO_BYTE_SHIFT_old : Sta Z Z.heap "java/lang/StringUTF16" "LO_BYTE_SHIFT" "I" (.int (8 : Int32))) (ge_a2 : n0 ≤ a2) :
    MetFree l Y3 (head1 (Jvm.Cond.code Y3 jdk_52_method_4_code 3 none :: ws) ({ frames := 0, cells := 0, slots := 0, locals := 0 } : Room)) (fun a U => a = #[(.ref a2), (.int (3 : Int32)), (.int c0)] ∧ Z.Warmed39 U.vm ∧ U.heap = h0) (fun _ _ _ _ _ => True) (fun _ U o U' => ∃ v L, o = .returned v ∧ Q_rm_put3 Z a2 k2 c0 y0 y1 y2 y3 y4 y5 y6 y7 h0 n0 v U'.heap L ∧ FrameEnd U o U' L ({ frames := 0, cells := 0, slots := 0, locals := 0 } : Room).cells ({ frames := 0, cells := 0, slots := 0, locals := 0 } : Room).slots) := by
  refine MetFree.of_bodySF (plainFor_of_name pn_java_lang_StringUTF16) hisR ?_
  intro p e s m args below meth c s₁ Bd hml0 hP hK
  obtain ⟨rfl, hZ, hh⟩ := hP
  have hx := Bd.exec
  have hby := Bd.bytes
  have hml : c.maxLocals = 3 := hml0
  have hown : s.vm.findClass "java/lang/StringUTF16" = some m.cls := findClass_of_methodNamed Bd.named
  have hnm := (name_of_methodNamed Bd.named Bd.method).1
  have X0 : Stand p l e ({ frames := 0, cells := 0, slots := 0, locals := 0 } : Room) s m #[(.ref a2), (.int (3 : Int32)), (.int c0)] below meth c s₁ [] 0 0 := Stand.of_body Bd
  have e0 : s₁.heap = h0 := by rw [← hh, Bd.state]; rfl
  have N0 := Fr.nil n0
  refine Goes.out (l := l) (c := c) (R := ({ frames := 0, cells := 0, slots := 0, locals := 0 } : Room)) (Q := Q_rm_put3 Z a2 k2 c0 y0 y1 y2 y3 y4 y5 y6 y7 h0 n0) Bd.notSynchronized ?_
  refine Goes.cast (g2 := mkF m 0 #[rv a2, iv 3, iv c0] []) (by first | (simp [entryFrame, mkF, argsToLocals, Value.category]; done) | rfl) ?_
  have K0 : Keep h0 h0 [a2] := Keep.refl h0 _
  have hws : ∀ x ∈ [a2], n0 ≤ x := (allS ge_a2 all0)
  obtain ⟨T44, X44, e44, st44⟩ := getS2 X0 hx hZ hown (host := "") (Or.inl (tw hw 53 rfl)) Via.refl e0 (S_StringUTF16__assertionsDisabled_old.ext (Old.keep O0 K0 hws).2) (g := (mkF m 0 #[rv a2, iv 3, iv c0] [])) rfl (hb hby d3_0)
  refine Goes.step (T2 := T44) (g2 := (mkF m 3 #[rv a2, iv 3, iv c0] [(.int (1 : Int32))])) st44 ?_
  refine Goes.step (T2 := T44) (g2 := (mkF m 28 #[rv a2, iv 3, iv c0] [])) (fun _ hr => XS.ifYes X44.here hx rfl (pc0 := 3) (pc' := 28) rfl (hb hby d3_3) rfl ((if0 _ _).trans (feq (by decide : ¬ ((1 : Int32) = (0 : Int32)))).2) (by decide) (by decide) hr) ?_
  refine Goes.step (T2 := T44) (g2 := (mkF m 29 #[rv a2, iv 3, iv c0] [(.int (3 : Int32))])) (fun _ hr => XS.iloadN X44.here hx rfl (hb hby d3_28) rfl  hr) ?_
  refine Goes.step (T2 := T44) (g2 := (mkF m 30 #[rv a2, iv 3, iv c0] [(.int (1 : Int32)), (.int (3 : Int32))])) (fun _ hr => XS.iconst X44.here hx rfl (hb hby d3_29) hr) ?_
  refine Goes.step (T2 := T44) (g2 := (mkF m 31 #[rv a2, iv 3, iv c0] [(.int (6 : Int32))])) (fun _ hr => Jvm.Free.XT.ishl X44.here hx rfl (hb hby d3_30) rfl hr) ?_
  refine Goes.step (T2 := T44) (g2 := (mkF m 32 #[rv a2, iv 6, iv c0] [])) (fun _ hr => XS.istoreN X44.here hx rfl (hb hby d3_31) rfl (l' := #[rv a2, iv 6, iv c0]) rfl hr) ?_
  refine Goes.step (T2 := T44) (g2 := (mkF m 33 #[rv a2, iv 6, iv c0] [(.ref a2)])) (fun _ hr => XS.aloadN X44.here hx rfl (hb hby d3_32) rfl rfl hr) ?_
  refine Goes.step (T2 := T44) (g2 := (mkF m 34 #[rv a2, iv 6, iv c0] [(.int (6 : Int32)), (.ref a2)])) (fun _ hr => XS.iloadN X44.here hx rfl (hb hby d3_33) rfl  hr) ?_
  refine Goes.step (T2 := T44) (g2 := (mkF m 37 #[rv a2, iv 7, iv c0] [(.int (6 : Int32)), (.ref a2)])) (fun _ hr => XS.iinc X44.here hx rfl (hb hby d3_34) rfl (l' := #[rv a2, iv 7, iv c0]) rfl hr) ?_
  refine Goes.step (T2 := T44) (g2 := (mkF m 38 #[rv a2, iv 7, iv c0] [(.int c0), (.int (6 : Int32)), (.ref a2)])) (fun _ hr => XS.iloadN X44.here hx rfl (hb hby d3_37) rfl  hr) ?_
  obtain ⟨T45, X45, e45, st45⟩ := getS2 X44 hx hZ hown (host := "") (Or.inl (tw hw 54 rfl)) Via.refl e44 (S_StringUTF16_HI_BYTE_SHIFT_old.ext (Old.keep O0 K0 hws).2) (g := (mkF m 38 #[rv a2, iv 7, iv c0] [(.int c0), (.int (6 : Int32)), (.ref a2)])) rfl (hb hby d3_38)
  refine Goes.step (T2 := T45) (g2 := (mkF m 41 #[rv a2, iv 7, iv c0] [(.int (0 : Int32)), (.int c0), (.int (6 : Int32)), (.ref a2)])) st45 ?_
  refine Goes.step (T2 := T45) (g2 := (mkF m 42 #[rv a2, iv 7, iv c0] [(.int (c0 >>> ((0 : Int32) &&& 31))), (.int (6 : Int32)), (.ref a2)])) (fun _ hr => Jvm.Free.XT.ishr X45.here hx rfl (hb hby d3_41) rfl hr) ?_
  refine Goes.step (T2 := T45) (g2 := (mkF m 43 #[rv a2, iv 7, iv c0] [(.int ((c0 >>> ((0 : Int32) &&& 31)).toInt8.toInt32)), (.int (6 : Int32)), (.ref a2)])) (fun _ hr => Jvm.Free.XT.i2b X45.here hx rfl (hb hby d3_42) rfl hr) ?_
  obtain ⟨cl46, Ar46, q46, S46, Nn46, H46, G46⟩ := id V_a2
  have hin46 : ¬ ((6 : Int32) < 0 ∨ cl46.slots.size ≤ ((6 : Int32)).toNatClampNeg) := inb_of S46 ⟨by decide, by decide⟩
  obtain ⟨T46, h46, X46, e46, W46, st46⟩ := stB X45 hx hZ e45 Ar46 (j := (6 : Int32)) hin46 (g := (mkF m 43 #[rv a2, iv 7, iv c0] [(.int ((c0 >>> ((0 : Int32) &&& 31)).toInt8.toInt32)), (.int (6 : Int32)), (.ref a2)])) rfl rfl (hb hby d3_43)
  have W46' := W46
  rw [show (nar .byte ((c0 >>> ((0 : Int32) &&& 31)).toInt8.toInt32)) = (bLo c0) from bLo_eq c0] at W46'
  have K46 : Keep h0 h46 [a2] := K0.wr W46 (Or.inl (List.mem_of_getElem? (i := 0) rfl))
  have N46 := Fr.snoc X46 N0 ge_a2
  have V_a2_46 : Arv Z h46 a2 k2 .byte (8 : Int32) [(.int y0), (.int y1), (.int y2), (.int y3), (.int y4), (.int y5), (.int (bLo c0)), (.int y7)] (.int (0 : Int32)) := Arv.set Ar46 q46 S46 Nn46 H46 G46 (by have := (show fits .byte (.int (nar .byte ((c0 >>> ((0 : Int32) &&& 31)).toInt8.toInt32))) = true from (fits_nar_byte _)); rwa [show (nar .byte ((c0 >>> ((0 : Int32) &&& 31)).toInt8.toInt32)) = (bLo c0) from bLo_eq c0] at this) W46' 6 rfl (Nat.le_of_ble_eq_true rfl)
  refine Goes.step (T2 := T46) (g2 := (mkF m 44 #[rv a2, iv 7, iv c0] [])) st46 ?_
  refine Goes.step (T2 := T46) (g2 := (mkF m 45 #[rv a2, iv 7, iv c0] [(.ref a2)])) (fun _ hr => XS.aloadN X46.here hx rfl (hb hby d3_44) rfl rfl hr) ?_
  refine Goes.step (T2 := T46) (g2 := (mkF m 46 #[rv a2, iv 7, iv c0] [(.int (7 : Int32)), (.ref a2)])) (fun _ hr => XS.iloadN X46.here hx rfl (hb hby d3_45) rfl  hr) ?_
  refine Goes.step (T2 := T46) (g2 := (mkF m 47 #[rv a2, iv 7, iv c0] [(.int c0), (.int (7 : Int32)), (.ref a2)])) (fun _ hr => XS.iloadN X46.here hx rfl (hb hby d3_46) rfl  hr) ?_
  obtain ⟨T47, X47, e47, st47⟩ := getS2 X46 hx hZ hown (host := "") (Or.inl (tw hw 55 rfl)) Via.refl e46 (S_StringUTF16_LO_BYTE_SHIFT_old.ext (Old.keep O0 K46 hws).2) (g := (mkF m 47 #[rv a2, iv 7, iv c0] [(.int c0), (.int (7 : Int32)), (.ref a2)])) rfl (hb hby d3_47)
  refine Goes.step (T2 := T47) (g2 := (mkF m 50 #[rv a2, iv 7, iv c0] [(.int (8 : Int32)), (.int c0), (.int (7 : Int32)), (.ref a2)])) st47 ?_
  refine Goes.step (T2 := T47) (g2 := (mkF m 51 #[rv a2, iv 7, iv c0] [(.int (c0 >>> ((8 : Int32) &&& 31))), (.int (7 : Int32)), (.ref a2)])) (fun _ hr => Jvm.Free.XT.ishr X47.here hx rfl (hb hby d3_50) rfl hr) ?_
  refine Goes.step (T2 := T47) (g2 := (mkF m 52 #[rv a2, iv 7, iv c0] [(.int ((c0 >>> ((8 : Int32) &&& 31)).toInt8.toInt32)), (.int (7 : Int32)), (.ref a2)])) (fun _ hr => Jvm.Free.XT.i2b X47.here hx rfl (hb hby d3_51) rfl hr) ?_
  obtain ⟨cl48, Ar48, q48, S48, Nn48, H48, G48⟩ := id V_a2_46
  have hin48 : ¬ ((7 : Int32) < 0 ∨ cl48.slots.size ≤ ((7 : Int32)).toNatClampNeg) := inb_of S48 ⟨by decide, by decide⟩
  obtain ⟨T48, h48, X48, e48, W48, st48⟩ := stB X47 hx hZ e47 Ar48 (j := (7 : Int32)) hin48 (g := (mkF m 52 #[rv a2, iv 7, iv c0] [(.int ((c0 >>> ((8 : Int32) &&& 31)).toInt8.toInt32)), (.int (7 : Int32)), (.ref a2)])) rfl rfl (hb hby d3_52)
  have W48' := W48
  rw [show (nar .byte ((c0 >>> ((8 : Int32) &&& 31)).toInt8.toInt32)) = (bHi c0) from bHi_eq c0] at W48'
  have K48 : Keep h0 h48 [a2] := K46.wr W48 (Or.inl (List.mem_of_getElem? (i := 0) rfl))
  have N48 := Fr.snoc X48 N46 ge_a2
  have V_a2_48 : Arv Z h48 a2 k2 .byte (8 : Int32) [(.int y0), (.int y1), (.int y2), (.int y3), (.int y4), (.int y5), (.int (bLo c0)), (.int (bHi c0))] (.int (0 : Int32)) := Arv.set Ar48 q48 S48 Nn48 H48 G48 (by have := (show fits .byte (.int (nar .byte ((c0 >>> ((8 : Int32) &&& 31)).toInt8.toInt32))) = true from (fits_nar_byte _)); rwa [show (nar .byte ((c0 >>> ((8 : Int32) &&& 31)).toInt8.toInt32)) = (bHi c0) from bHi_eq c0] at this) W48' 7 rfl (Nat.le_of_ble_eq_true rfl)
  refine Goes.step (T2 := T48) (g2 := (mkF m 53 #[rv a2, iv 7, iv c0] [])) st48 ?_
  exact Goes.ret (v := none) X48 (by decide) (by decide) (fun _ => rfl) (by show Q_rm_put3 Z a2 k2 c0 y0 y1 y2 y3 y4 y5 y6 y7 h0 n0 _ T48.heap _; rw [e48]; exact ⟨rfl, N48, K48, V_a2_48⟩) (fun fs hr => X48.returnOut hx Bd.returns (hb hby d3_53) hr)
theorem d4_0 : decode jdk_52_method_14_code 0 = .ok (.iload_n 2, 1) := by decide +kernel
theorem d4_1 : decode jdk_52_method_14_code 1 = .ok (.invokestatic 107, 3) := by decide +kernel
theorem d4_4 : decode jdk_52_method_14_code 4 = .ok (.astore_n 3, 1) := by decide +kernel
theorem d4_5 : decode jdk_52_method_14_code 5 = .ok (.iconst 0, 1) := by decide +kernel
theorem d4_6 : decode jdk_52_method_14_code 6 = .ok (.istore 4, 2) := by decide +kernel
theorem d4_8 : decode jdk_52_method_14_code 8 = .ok (.iload 4, 2) := by decide +kernel
theorem d4_10 : decode jdk_52_method_14_code 10 = .ok (.iload_n 2, 1) := by decide +kernel
theorem d4_11 : decode jdk_52_method_14_code 11 = .ok (.if_icmp .ge 21, 3) := by decide +kernel
theorem d4_14 : decode jdk_52_method_14_code 14 = .ok (.aload_n 3, 1) := by decide +kernel
theorem d4_15 : decode jdk_52_method_14_code 15 = .ok (.iload 4, 2) := by decide +kernel
theorem d4_17 : decode jdk_52_method_14_code 17 = .ok (.aload_n 0, 1) := by decide +kernel
theorem d4_18 : decode jdk_52_method_14_code 18 = .ok (.iload_n 1, 1) := by decide +kernel
theorem d4_19 : decode jdk_52_method_14_code 19 = .ok (.caload, 1) := by decide +kernel
theorem d4_20 : decode jdk_52_method_14_code 20 = .ok (.invokestatic 111, 3) := by decide +kernel
theorem d4_23 : decode jdk_52_method_14_code 23 = .ok (.iinc 1 1, 3) := by decide +kernel
theorem d4_26 : decode jdk_52_method_14_code 26 = .ok (.iinc 4 1, 3) := by decide +kernel
theorem d4_29 : decode jdk_52_method_14_code 29 = .ok (.goto (-21), 3) := by decide +kernel
theorem d4_32 : decode jdk_52_method_14_code 32 = .ok (.aload_n 3, 1) := by decide +kernel
theorem d4_33 : decode jdk_52_method_14_code 33 = .ok (.areturn, 1) := by decide +kernel
def Q_rm_tob16 (Z : State) (a2 : Addr) (k2 : ClassId) (c0 : Int32) (c1 : Int32) (c2 : Int32) (c3 : Int32) (h0 : Heap) (n0 : Nat) (v : Option Value) (h : Heap) (L : List Loc) : Prop := ∃ w : Addr, ∃ kw : ClassId, v = some (.ref w) ∧ Fr n0 L ∧ Keep h0 h [] ∧ h0.size ≤ w ∧ Arv Z h w kw .byte (8 : Int32) [(.int (bLo c0)), (.int (bHi c0)), (.int (bLo c1)), (.int (bHi c1)), (.int (bLo c2)), (.int (bHi c2)), (.int (bLo c3)), (.int (bHi c3))] (.int (0 : Int32))
set_option maxRecDepth 65536 in
set_option maxHeartbeats 40000000 in
theorem rm_tob16 (l : Launch) (Z : State) (a0 : Array Value) (hw : ∀ d ∈ tables_1, d.before a0 Z = true) (ws : List Jvm.Cond) (a2 : Addr) (k2 : ClassId) (c0 : Int32) (c1 : Int32) (c2 : Int32) (c3 : Int32) (h0 : Heap) (n0 : Nat) (Z0 : n0 ≤ h0.size) (O0 : Old Z n0 h0) (V_a2 : Arv Z h0 a2 k2 .char (4 : Int32) [(.int c0), (.int c1), (.int c2), (.int c3)] (.int (0 : Int32))) (S_StringUTF16__assertionsDisabled_old : Sta Z Z.heap "java/lang/StringUTF16" "$assertionsDisabled" "Z" (.int (1 : Int32))) (S_StringUTF16_HI_BYTE_SHIFT_old : Sta Z Z.heap "java/lang/StringUTF16" "HI_BYTE_SHIFT" "I" (.int (0 : Int32))) (S_StringUTF16_LO_BYTE_SHIFT_old : Sta Z Z.heap "java/lang/StringUTF16" "LO_BYTE_SHIFT" "I" (.int (8 : Int32))) :
    MetFree l Y4 (head1 (Jvm.Cond.code Y4 jdk_52_method_14_code 5 (some (.array .byte)) :: ws) ({ frames := 2, cells := 1, slots := 8, locals := 24 } : Room)) (fun a U => a = #[(.ref a2), (.int (0 : Int32)), (.int (4 : Int32))] ∧ Z.Warmed39 U.vm ∧ U.heap = h0) (fun _ _ _ _ _ => True) (fun _ U o U' => ∃ v L, o = .returned v ∧ Q_rm_tob16 Z a2 k2 c0 c1 c2 c3 h0 n0 v U'.heap L ∧ FrameEnd U o U' L ({ frames := 2, cells := 1, slots := 8, locals := 24 } : Room).cells ({ frames := 2, cells := 1, slots := 8, locals := 24 } : Room).slots) := by
  refine MetFree.of_bodySF (plainFor_of_name pn_java_lang_StringUTF16) hisR ?_
  intro p e s m args below meth c s₁ Bd hml0 hP hK
  obtain ⟨rfl, hZ, hh⟩ := hP
  have hx := Bd.exec
  have hby := Bd.bytes
  have hml : c.maxLocals = 5 := hml0
  have hown : s.vm.findClass "java/lang/StringUTF16" = some m.cls := findClass_of_methodNamed Bd.named
  have hnm := (name_of_methodNamed Bd.named Bd.method).1
  have X0 : Stand p l e ({ frames := 2, cells := 1, slots := 8, locals := 24 } : Room) s m #[(.ref a2), (.int (0 : Int32)), (.int (4 : Int32))] below meth c s₁ [] 0 0 := Stand.of_body Bd
  have e0 : s₁.heap = h0 := by rw [← hh, Bd.state]; rfl
  have N0 := Fr.nil n0
  refine Goes.out (l := l) (c := c) (R := ({ frames := 2, cells := 1, slots := 8, locals := 24 } : Room)) (Q := Q_rm_tob16 Z a2 k2 c0 c1 c2 c3 h0 n0) Bd.notSynchronized ?_
  refine Goes.cast (g2 := mkF m 0 #[rv a2, iv 0, iv 4, .unset, .unset] []) (by first | (simp [entryFrame, mkF, argsToLocals, Value.category]; done) | rfl) ?_
  have K0 : Keep h0 h0 [] := Keep.refl h0 _
  have hws : ∀ x ∈ ([] : List Addr), n0 ≤ x := all0
  refine Goes.step (T2 := s₁) (g2 := (mkF m 1 #[rv a2, iv 0, iv 4, .unset, .unset] [(.int (4 : Int32))])) (fun _ hr => XS.iloadN X0.here hx rfl (hb hby d4_0) rfl  hr) ?_
  have Zs49 : n0 ≤ h0.size := Nat.le_trans Z0 K0.1
  obtain ⟨_, _, ⟨T50, L50, k50, n50⟩, -, X50, ⟨Lc50, hQ50, l50, y50, z50⟩, st50⟩ := Jvm.LawKit.callS X0 hx (y := Y2) hown (mvT hZ (tw hw 43 rfl)) (mvT hZ (tw hw 44 rfl)) (mvT hZ (tw hw 19 rfl)) (mvT hZ (tw hw 45 rfl)) (by decide) (backOf (W := 0) (rm_nbf l Z a0 hw []  h0 n0 Zs49 (Old.keep O0 K0 hws)) hZ (tw hw 45 rfl) (tw hw 19 rfl) (by decide) (by decide)) (g := (mkF m 1 #[rv a2, iv 0, iv 4, .unset, .unset] [(.int (4 : Int32))])) rfl (by rw [hml]; rfl) (argsL := [(.int (4 : Int32))]) (rest := []) (lenOf pd_1 rfl) rfl (by show 2 * 0 + _ ≤ _; exact Nat.le_of_eq rfl) (hb hby d4_1) (fun _ _ => ⟨rfl, e0, (by decide : 0 + 1 ≤ _), (by decide : 0 + 8 ≤ _)⟩)
  dsimp only [Pt.U, Pt.locs, Pt.cells, Pt.slots] at X50 l50 y50 z50 st50 hQ50
  subst l50 y50 z50
  obtain ⟨w50, kw50, rfl, N50q, Kc50, P50_0, P50_1⟩ := hQ50
  have N50 := Fr.app N0 N50q
  have V_a2_50 : Arv Z T50.heap a2 k2 .char (4 : Int32) [(.int c0), (.int c1), (.int c2), (.int c3)] (.int (0 : Int32)) := V_a2.keep Kc50 nin0
  have K50 : Keep h0 T50.heap [] := K0.trans Kc50 all0
  have sz_w50 : h0.size ≤ w50 := Nat.le_trans K0.1 P50_0
  have ge_w50 : n0 ≤ w50 := Nat.le_trans Z0 sz_w50
  have V_w50_50c : Arv Z T50.heap w50 kw50 .byte (8 : Int32) [(.int (0 : Int32)), (.int (0 : Int32)), (.int (0 : Int32)), (.int (0 : Int32)), (.int (0 : Int32)), (.int (0 : Int32)), (.int (0 : Int32)), (.int (0 : Int32))] (.int (0 : Int32)) := P50_1
  refine Goes.step (T2 := T50) (g2 := (mkF m 4 #[rv a2, iv 0, iv 4, .unset, .unset] [(.ref w50)])) st50 ?_
  refine Goes.step (T2 := T50) (g2 := (mkF m 5 #[rv a2, iv 0, iv 4, rv w50, .unset] [])) (fun _ hr => XS.astoreN X50.here hx rfl (hb hby d4_4) rfl rfl (l' := #[rv a2, iv 0, iv 4, rv w50, .unset]) rfl hr) ?_
  refine Goes.step (T2 := T50) (g2 := (mkF m 6 #[rv a2, iv 0, iv 4, rv w50, .unset] [(.int (0 : Int32))])) (fun _ hr => XS.iconst X50.here hx rfl (hb hby d4_5) hr) ?_
  refine Goes.step (T2 := T50) (g2 := (mkF m 8 #[rv a2, iv 0, iv 4, rv w50, iv 0] [])) (fun _ hr => XS.istore X50.here hx rfl (hb hby d4_6) rfl (l' := #[rv a2, iv 0, iv 4, rv w50, iv 0]) rfl hr) ?_
  refine Goes.step (T2 := T50) (g2 := (mkF m 10 #[rv a2, iv 0, iv 4, rv w50, iv 0] [(.int (0 : Int32))])) (fun _ hr => XS.iload X50.here hx rfl (hb hby d4_8) rfl  hr) ?_
  refine Goes.step (T2 := T50) (g2 := (mkF m 11 #[rv a2, iv 0, iv 4, rv w50, iv 0] [(.int (4 : Int32)), (.int (0 : Int32))])) (fun _ hr => XS.iloadN X50.here hx rfl (hb hby d4_10) rfl  hr) ?_
  refine Goes.step (T2 := T50) (g2 := (mkF m 14 #[rv a2, iv 0, iv 4, rv w50, iv 0] [])) (fun _ hr => XS.icmpNo X50.here hx rfl (hb hby d4_11) rfl (tlt (by decide : (0 : Int32) < (4 : Int32))).2.1 hr) ?_
  refine Goes.step (T2 := T50) (g2 := (mkF m 15 #[rv a2, iv 0, iv 4, rv w50, iv 0] [(.ref w50)])) (fun _ hr => XS.aloadN X50.here hx rfl (hb hby d4_14) rfl rfl hr) ?_
  refine Goes.step (T2 := T50) (g2 := (mkF m 17 #[rv a2, iv 0, iv 4, rv w50, iv 0] [(.int (0 : Int32)), (.ref w50)])) (fun _ hr => XS.iload X50.here hx rfl (hb hby d4_15) rfl  hr) ?_
  refine Goes.step (T2 := T50) (g2 := (mkF m 18 #[rv a2, iv 0, iv 4, rv w50, iv 0] [(.ref a2), (.int (0 : Int32)), (.ref w50)])) (fun _ hr => XS.aloadN X50.here hx rfl (hb hby d4_17) rfl rfl hr) ?_
  refine Goes.step (T2 := T50) (g2 := (mkF m 19 #[rv a2, iv 0, iv 4, rv w50, iv 0] [(.int (0 : Int32)), (.ref a2), (.int (0 : Int32)), (.ref w50)])) (fun _ hr => XS.iloadN X50.here hx rfl (hb hby d4_18) rfl  hr) ?_
  obtain ⟨cl51, Ar51, q51, S51, Nn51, H51, G51⟩ := id V_a2_50
  have hin51 : ¬ ((0 : Int32) < 0 ∨ cl51.slots.size ≤ ((0 : Int32)).toNatClampNeg) := inb_of S51 ⟨by decide, by decide⟩
  refine Goes.step (T2 := T50) (g2 := (mkF m 20 #[rv a2, iv 0, iv 4, rv w50, iv 0] [(.int c0), (.int (0 : Int32)), (.ref w50)])) (X50.caload hx (j := (0 : Int32)) (v := (.int c0)) (own_at rfl Ar51.1) (State.isArrayOf_alike hZ.alike Ar51.2.1) Ar51.2.2 hin51 (H51.at hin51 rfl) (g := (mkF m 19 #[rv a2, iv 0, iv 4, rv w50, iv 0] [(.int (0 : Int32)), (.ref a2), (.int (0 : Int32)), (.ref w50)])) rfl rfl (hb hby d4_19)) ?_
  have Zs52 : n0 ≤ T50.heap.size := Nat.le_trans Z0 K50.1
  obtain ⟨_, _, ⟨T53, L53, k53, n53⟩, -, X53, ⟨Lc53, hQ53, l53, y53, z53⟩, st53⟩ := Jvm.LawKit.callS X50 hx (y := Y3) hown (mvT hZ (tw hw 50 rfl)) (mvT hZ (tw hw 51 rfl)) (mvT hZ (tw hw 19 rfl)) (mvT hZ (tw hw 52 rfl)) (by decide) (backOf (W := 0) (rm_put0 l Z a0 hw [] w50 kw50 c0 (0 : Int32) (0 : Int32) (0 : Int32) (0 : Int32) (0 : Int32) (0 : Int32) (0 : Int32) (0 : Int32) T50.heap n0 Zs52 (Old.keep O0 K50 hws) V_w50_50c S_StringUTF16__assertionsDisabled_old S_StringUTF16_HI_BYTE_SHIFT_old S_StringUTF16_LO_BYTE_SHIFT_old ge_w50) hZ (tw hw 52 rfl) (tw hw 19 rfl) (by decide) (by decide)) (g := (mkF m 20 #[rv a2, iv 0, iv 4, rv w50, iv 0] [(.int c0), (.int (0 : Int32)), (.ref w50)])) rfl (by rw [hml]; rfl) (argsL := [(.ref w50), (.int (0 : Int32)), (.int c0)]) (rest := []) (lenOf pd_2 rfl) rfl (by show 2 * 0 + _ ≤ _; exact Nat.le_of_eq rfl) (hb hby d4_20) (fun _ _ => ⟨rfl, rfl, (by decide : 1 + 0 ≤ _), (by decide : 8 + 0 ≤ _)⟩)
  dsimp only [Pt.U, Pt.locs, Pt.cells, Pt.slots] at X53 l53 y53 z53 st53 hQ53
  subst l53 y53 z53
  obtain ⟨rfl, N53q, Kc53, P53_0⟩ := hQ53
  have N53 := Fr.app N50 N53q
  have V_a2_53 : Arv Z T53.heap a2 k2 .char (4 : Int32) [(.int c0), (.int c1), (.int c2), (.int c3)] (.int (0 : Int32)) := V_a2_50.keep Kc53 (ninS (Nat.ne_of_lt (Nat.lt_of_lt_of_le V_a2.lt P50_0)) nin0)
  have K53 : Keep h0 T53.heap [] := K50.trans Kc53 (allS (Or.inr sz_w50) all0)
  have V_w50_53c : Arv Z T53.heap w50 kw50 .byte (8 : Int32) [(.int (bLo c0)), (.int (bHi c0)), (.int (0 : Int32)), (.int (0 : Int32)), (.int (0 : Int32)), (.int (0 : Int32)), (.int (0 : Int32)), (.int (0 : Int32))] (.int (0 : Int32)) := P53_0
  refine Goes.step (T2 := T53) (g2 := (mkF m 23 #[rv a2, iv 0, iv 4, rv w50, iv 0] [])) st53 ?_
  refine Goes.step (T2 := T53) (g2 := (mkF m 26 #[rv a2, iv 1, iv 4, rv w50, iv 0] [])) (fun _ hr => XS.iinc X53.here hx rfl (hb hby d4_23) rfl (l' := #[rv a2, iv 1, iv 4, rv w50, iv 0]) rfl hr) ?_
  refine Goes.step (T2 := T53) (g2 := (mkF m 29 #[rv a2, iv 1, iv 4, rv w50, iv 1] [])) (fun _ hr => XS.iinc X53.here hx rfl (hb hby d4_26) rfl (l' := #[rv a2, iv 1, iv 4, rv w50, iv 1]) rfl hr) ?_
  refine Goes.step (T2 := T53) (g2 := (mkF m 8 #[rv a2, iv 1, iv 4, rv w50, iv 1] [])) (fun _ hr => XS.goto X53.here hx rfl (pc0 := 29) (pc' := 8) rfl (hb hby d4_29) (by decide) (by decide) hr) ?_
  refine Goes.step (T2 := T53) (g2 := (mkF m 10 #[rv a2, iv 1, iv 4, rv w50, iv 1] [(.int (1 : Int32))])) (fun _ hr => XS.iload X53.here hx rfl (hb hby d4_8) rfl  hr) ?_
  refine Goes.step (T2 := T53) (g2 := (mkF m 11 #[rv a2, iv 1, iv 4, rv w50, iv 1] [(.int (4 : Int32)), (.int (1 : Int32))])) (fun _ hr => XS.iloadN X53.here hx rfl (hb hby d4_10) rfl  hr) ?_
  refine Goes.step (T2 := T53) (g2 := (mkF m 14 #[rv a2, iv 1, iv 4, rv w50, iv 1] [])) (fun _ hr => XS.icmpNo X53.here hx rfl (hb hby d4_11) rfl (tlt (by decide : (1 : Int32) < (4 : Int32))).2.1 hr) ?_
  refine Goes.step (T2 := T53) (g2 := (mkF m 15 #[rv a2, iv 1, iv 4, rv w50, iv 1] [(.ref w50)])) (fun _ hr => XS.aloadN X53.here hx rfl (hb hby d4_14) rfl rfl hr) ?_
  refine Goes.step (T2 := T53) (g2 := (mkF m 17 #[rv a2, iv 1, iv 4, rv w50, iv 1] [(.int (1 : Int32)), (.ref w50)])) (fun _ hr => XS.iload X53.here hx rfl (hb hby d4_15) rfl  hr) ?_
  refine Goes.step (T2 := T53) (g2 := (mkF m 18 #[rv a2, iv 1, iv 4, rv w50, iv 1] [(.ref a2), (.int (1 : Int32)), (.ref w50)])) (fun _ hr => XS.aloadN X53.here hx rfl (hb hby d4_17) rfl rfl hr) ?_
  refine Goes.step (T2 := T53) (g2 := (mkF m 19 #[rv a2, iv 1, iv 4, rv w50, iv 1] [(.int (1 : Int32)), (.ref a2), (.int (1 : Int32)), (.ref w50)])) (fun _ hr => XS.iloadN X53.here hx rfl (hb hby d4_18) rfl  hr) ?_
  obtain ⟨cl54, Ar54, q54, S54, Nn54, H54, G54⟩ := id V_a2_53
  have hin54 : ¬ ((1 : Int32) < 0 ∨ cl54.slots.size ≤ ((1 : Int32)).toNatClampNeg) := inb_of S54 ⟨by decide, by decide⟩
  refine Goes.step (T2 := T53) (g2 := (mkF m 20 #[rv a2, iv 1, iv 4, rv w50, iv 1] [(.int c1), (.int (1 : Int32)), (.ref w50)])) (X53.caload hx (j := (1 : Int32)) (v := (.int c1)) (own_at rfl Ar54.1) (State.isArrayOf_alike hZ.alike Ar54.2.1) Ar54.2.2 hin54 (H54.at hin54 rfl) (g := (mkF m 19 #[rv a2, iv 1, iv 4, rv w50, iv 1] [(.int (1 : Int32)), (.ref a2), (.int (1 : Int32)), (.ref w50)])) rfl rfl (hb hby d4_19)) ?_
  have Zs55 : n0 ≤ T53.heap.size := Nat.le_trans Z0 K53.1
  obtain ⟨_, _, ⟨T56, L56, k56, n56⟩, -, X56, ⟨Lc56, hQ56, l56, y56, z56⟩, st56⟩ := Jvm.LawKit.callS X53 hx (y := Y3) hown (mvT hZ (tw hw 50 rfl)) (mvT hZ (tw hw 51 rfl)) (mvT hZ (tw hw 19 rfl)) (mvT hZ (tw hw 52 rfl)) (by decide) (backOf (W := 0) (rm_put1 l Z a0 hw [] w50 kw50 c1 (bLo c0) (bHi c0) (0 : Int32) (0 : Int32) (0 : Int32) (0 : Int32) (0 : Int32) (0 : Int32) T53.heap n0 Zs55 (Old.keep O0 K53 hws) V_w50_53c S_StringUTF16__assertionsDisabled_old S_StringUTF16_HI_BYTE_SHIFT_old S_StringUTF16_LO_BYTE_SHIFT_old ge_w50) hZ (tw hw 52 rfl) (tw hw 19 rfl) (by decide) (by decide)) (g := (mkF m 20 #[rv a2, iv 1, iv 4, rv w50, iv 1] [(.int c1), (.int (1 : Int32)), (.ref w50)])) rfl (by rw [hml]; rfl) (argsL := [(.ref w50), (.int (1 : Int32)), (.int c1)]) (rest := []) (lenOf pd_2 rfl) rfl (by show 2 * 0 + _ ≤ _; exact Nat.le_of_eq rfl) (hb hby d4_20) (fun _ _ => ⟨rfl, rfl, (by decide : 1 + 0 ≤ _), (by decide : 8 + 0 ≤ _)⟩)
  dsimp only [Pt.U, Pt.locs, Pt.cells, Pt.slots] at X56 l56 y56 z56 st56 hQ56
  subst l56 y56 z56
  obtain ⟨rfl, N56q, Kc56, P56_0⟩ := hQ56
  have N56 := Fr.app N53 N56q
  have V_a2_56 : Arv Z T56.heap a2 k2 .char (4 : Int32) [(.int c0), (.int c1), (.int c2), (.int c3)] (.int (0 : Int32)) := V_a2_53.keep Kc56 (ninS (Nat.ne_of_lt (Nat.lt_of_lt_of_le V_a2.lt P50_0)) nin0)
  have K56 : Keep h0 T56.heap [] := K53.trans Kc56 (allS (Or.inr sz_w50) all0)
  have V_w50_56c : Arv Z T56.heap w50 kw50 .byte (8 : Int32) [(.int (bLo c0)), (.int (bHi c0)), (.int (bLo c1)), (.int (bHi c1)), (.int (0 : Int32)), (.int (0 : Int32)), (.int (0 : Int32)), (.int (0 : Int32))] (.int (0 : Int32)) := P56_0
  refine Goes.step (T2 := T56) (g2 := (mkF m 23 #[rv a2, iv 1, iv 4, rv w50, iv 1] [])) st56 ?_
  refine Goes.step (T2 := T56) (g2 := (mkF m 26 #[rv a2, iv 2, iv 4, rv w50, iv 1] [])) (fun _ hr => XS.iinc X56.here hx rfl (hb hby d4_23) rfl (l' := #[rv a2, iv 2, iv 4, rv w50, iv 1]) rfl hr) ?_
  refine Goes.step (T2 := T56) (g2 := (mkF m 29 #[rv a2, iv 2, iv 4, rv w50, iv 2] [])) (fun _ hr => XS.iinc X56.here hx rfl (hb hby d4_26) rfl (l' := #[rv a2, iv 2, iv 4, rv w50, iv 2]) rfl hr) ?_
  refine Goes.step (T2 := T56) (g2 := (mkF m 8 #[rv a2, iv 2, iv 4, rv w50, iv 2] [])) (fun _ hr => XS.goto X56.here hx rfl (pc0 := 29) (pc' := 8) rfl (hb hby d4_29) (by decide) (by decide) hr) ?_
  refine Goes.step (T2 := T56) (g2 := (mkF m 10 #[rv a2, iv 2, iv 4, rv w50, iv 2] [(.int (2 : Int32))])) (fun _ hr => XS.iload X56.here hx rfl (hb hby d4_8) rfl  hr) ?_
  refine Goes.step (T2 := T56) (g2 := (mkF m 11 #[rv a2, iv 2, iv 4, rv w50, iv 2] [(.int (4 : Int32)), (.int (2 : Int32))])) (fun _ hr => XS.iloadN X56.here hx rfl (hb hby d4_10) rfl  hr) ?_
  refine Goes.step (T2 := T56) (g2 := (mkF m 14 #[rv a2, iv 2, iv 4, rv w50, iv 2] [])) (fun _ hr => XS.icmpNo X56.here hx rfl (hb hby d4_11) rfl (tlt (by decide : (2 : Int32) < (4 : Int32))).2.1 hr) ?_
  refine Goes.step (T2 := T56) (g2 := (mkF m 15 #[rv a2, iv 2, iv 4, rv w50, iv 2] [(.ref w50)])) (fun _ hr => XS.aloadN X56.here hx rfl (hb hby d4_14) rfl rfl hr) ?_
  refine Goes.step (T2 := T56) (g2 := (mkF m 17 #[rv a2, iv 2, iv 4, rv w50, iv 2] [(.int (2 : Int32)), (.ref w50)])) (fun _ hr => XS.iload X56.here hx rfl (hb hby d4_15) rfl  hr) ?_
  refine Goes.step (T2 := T56) (g2 := (mkF m 18 #[rv a2, iv 2, iv 4, rv w50, iv 2] [(.ref a2), (.int (2 : Int32)), (.ref w50)])) (fun _ hr => XS.aloadN X56.here hx rfl (hb hby d4_17) rfl rfl hr) ?_
  refine Goes.step (T2 := T56) (g2 := (mkF m 19 #[rv a2, iv 2, iv 4, rv w50, iv 2] [(.int (2 : Int32)), (.ref a2), (.int (2 : Int32)), (.ref w50)])) (fun _ hr => XS.iloadN X56.here hx rfl (hb hby d4_18) rfl  hr) ?_
  obtain ⟨cl57, Ar57, q57, S57, Nn57, H57, G57⟩ := id V_a2_56
  have hin57 : ¬ ((2 : Int32) < 0 ∨ cl57.slots.size ≤ ((2 : Int32)).toNatClampNeg) := inb_of S57 ⟨by decide, by decide⟩
  refine Goes.step (T2 := T56) (g2 := (mkF m 20 #[rv a2, iv 2, iv 4, rv w50, iv 2] [(.int c2), (.int (2 : Int32)), (.ref w50)])) (X56.caload hx (j := (2 : Int32)) (v := (.int c2)) (own_at rfl Ar57.1) (State.isArrayOf_alike hZ.alike Ar57.2.1) Ar57.2.2 hin57 (H57.at hin57 rfl) (g := (mkF m 19 #[rv a2, iv 2, iv 4, rv w50, iv 2] [(.int (2 : Int32)), (.ref a2), (.int (2 : Int32)), (.ref w50)])) rfl rfl (hb hby d4_19)) ?_
  have Zs58 : n0 ≤ T56.heap.size := Nat.le_trans Z0 K56.1
  obtain ⟨_, _, ⟨T59, L59, k59, n59⟩, -, X59, ⟨Lc59, hQ59, l59, y59, z59⟩, st59⟩ := Jvm.LawKit.callS X56 hx (y := Y3) hown (mvT hZ (tw hw 50 rfl)) (mvT hZ (tw hw 51 rfl)) (mvT hZ (tw hw 19 rfl)) (mvT hZ (tw hw 52 rfl)) (by decide) (backOf (W := 0) (rm_put2 l Z a0 hw [] w50 kw50 c2 (bLo c0) (bHi c0) (bLo c1) (bHi c1) (0 : Int32) (0 : Int32) (0 : Int32) (0 : Int32) T56.heap n0 Zs58 (Old.keep O0 K56 hws) V_w50_56c S_StringUTF16__assertionsDisabled_old S_StringUTF16_HI_BYTE_SHIFT_old S_StringUTF16_LO_BYTE_SHIFT_old ge_w50) hZ (tw hw 52 rfl) (tw hw 19 rfl) (by decide) (by decide)) (g := (mkF m 20 #[rv a2, iv 2, iv 4, rv w50, iv 2] [(.int c2), (.int (2 : Int32)), (.ref w50)])) rfl (by rw [hml]; rfl) (argsL := [(.ref w50), (.int (2 : Int32)), (.int c2)]) (rest := []) (lenOf pd_2 rfl) rfl (by show 2 * 0 + _ ≤ _; exact Nat.le_of_eq rfl) (hb hby d4_20) (fun _ _ => ⟨rfl, rfl, (by decide : 1 + 0 ≤ _), (by decide : 8 + 0 ≤ _)⟩)
  dsimp only [Pt.U, Pt.locs, Pt.cells, Pt.slots] at X59 l59 y59 z59 st59 hQ59
  subst l59 y59 z59
  obtain ⟨rfl, N59q, Kc59, P59_0⟩ := hQ59
  have N59 := Fr.app N56 N59q
  have V_a2_59 : Arv Z T59.heap a2 k2 .char (4 : Int32) [(.int c0), (.int c1), (.int c2), (.int c3)] (.int (0 : Int32)) := V_a2_56.keep Kc59 (ninS (Nat.ne_of_lt (Nat.lt_of_lt_of_le V_a2.lt P50_0)) nin0)
  have K59 : Keep h0 T59.heap [] := K56.trans Kc59 (allS (Or.inr sz_w50) all0)
  have V_w50_59c : Arv Z T59.heap w50 kw50 .byte (8 : Int32) [(.int (bLo c0)), (.int (bHi c0)), (.int (bLo c1)), (.int (bHi c1)), (.int (bLo c2)), (.int (bHi c2)), (.int (0 : Int32)), (.int (0 : Int32))] (.int (0 : Int32)) := P59_0
  refine Goes.step (T2 := T59) (g2 := (mkF m 23 #[rv a2, iv 2, iv 4, rv w50, iv 2] [])) st59 ?_
  refine Goes.step (T2 := T59) (g2 := (mkF m 26 #[rv a2, iv 3, iv 4, rv w50, iv 2] [])) (fun _ hr => XS.iinc X59.here hx rfl (hb hby d4_23) rfl (l' := #[rv a2, iv 3, iv 4, rv w50, iv 2]) rfl hr) ?_
  refine Goes.step (T2 := T59) (g2 := (mkF m 29 #[rv a2, iv 3, iv 4, rv w50, iv 3] [])) (fun _ hr => XS.iinc X59.here hx rfl (hb hby d4_26) rfl (l' := #[rv a2, iv 3, iv 4, rv w50, iv 3]) rfl hr) ?_
  refine Goes.step (T2 := T59) (g2 := (mkF m 8 #[rv a2, iv 3, iv 4, rv w50, iv 3] [])) (fun _ hr => XS.goto X59.here hx rfl (pc0 := 29) (pc' := 8) rfl (hb hby d4_29) (by decide) (by decide) hr) ?_
  refine Goes.step (T2 := T59) (g2 := (mkF m 10 #[rv a2, iv 3, iv 4, rv w50, iv 3] [(.int (3 : Int32))])) (fun _ hr => XS.iload X59.here hx rfl (hb hby d4_8) rfl  hr) ?_
  refine Goes.step (T2 := T59) (g2 := (mkF m 11 #[rv a2, iv 3, iv 4, rv w50, iv 3] [(.int (4 : Int32)), (.int (3 : Int32))])) (fun _ hr => XS.iloadN X59.here hx rfl (hb hby d4_10) rfl  hr) ?_
  refine Goes.step (T2 := T59) (g2 := (mkF m 14 #[rv a2, iv 3, iv 4, rv w50, iv 3] [])) (fun _ hr => XS.icmpNo X59.here hx rfl (hb hby d4_11) rfl (tlt (by decide : (3 : Int32) < (4 : Int32))).2.1 hr) ?_
  refine Goes.step (T2 := T59) (g2 := (mkF m 15 #[rv a2, iv 3, iv 4, rv w50, iv 3] [(.ref w50)])) (fun _ hr => XS.aloadN X59.here hx rfl (hb hby d4_14) rfl rfl hr) ?_
  refine Goes.step (T2 := T59) (g2 := (mkF m 17 #[rv a2, iv 3, iv 4, rv w50, iv 3] [(.int (3 : Int32)), (.ref w50)])) (fun _ hr => XS.iload X59.here hx rfl (hb hby d4_15) rfl  hr) ?_
  refine Goes.step (T2 := T59) (g2 := (mkF m 18 #[rv a2, iv 3, iv 4, rv w50, iv 3] [(.ref a2), (.int (3 : Int32)), (.ref w50)])) (fun _ hr => XS.aloadN X59.here hx rfl (hb hby d4_17) rfl rfl hr) ?_
  refine Goes.step (T2 := T59) (g2 := (mkF m 19 #[rv a2, iv 3, iv 4, rv w50, iv 3] [(.int (3 : Int32)), (.ref a2), (.int (3 : Int32)), (.ref w50)])) (fun _ hr => XS.iloadN X59.here hx rfl (hb hby d4_18) rfl  hr) ?_
  obtain ⟨cl60, Ar60, q60, S60, Nn60, H60, G60⟩ := id V_a2_59
  have hin60 : ¬ ((3 : Int32) < 0 ∨ cl60.slots.size ≤ ((3 : Int32)).toNatClampNeg) := inb_of S60 ⟨by decide, by decide⟩
  refine Goes.step (T2 := T59) (g2 := (mkF m 20 #[rv a2, iv 3, iv 4, rv w50, iv 3] [(.int c3), (.int (3 : Int32)), (.ref w50)])) (X59.caload hx (j := (3 : Int32)) (v := (.int c3)) (own_at rfl Ar60.1) (State.isArrayOf_alike hZ.alike Ar60.2.1) Ar60.2.2 hin60 (H60.at hin60 rfl) (g := (mkF m 19 #[rv a2, iv 3, iv 4, rv w50, iv 3] [(.int (3 : Int32)), (.ref a2), (.int (3 : Int32)), (.ref w50)])) rfl rfl (hb hby d4_19)) ?_
  have Zs61 : n0 ≤ T59.heap.size := Nat.le_trans Z0 K59.1
  obtain ⟨_, _, ⟨T62, L62, k62, n62⟩, -, X62, ⟨Lc62, hQ62, l62, y62, z62⟩, st62⟩ := Jvm.LawKit.callS X59 hx (y := Y3) hown (mvT hZ (tw hw 50 rfl)) (mvT hZ (tw hw 51 rfl)) (mvT hZ (tw hw 19 rfl)) (mvT hZ (tw hw 52 rfl)) (by decide) (backOf (W := 0) (rm_put3 l Z a0 hw [] w50 kw50 c3 (bLo c0) (bHi c0) (bLo c1) (bHi c1) (bLo c2) (bHi c2) (0 : Int32) (0 : Int32) T59.heap n0 Zs61 (Old.keep O0 K59 hws) V_w50_59c S_StringUTF16__assertionsDisabled_old S_StringUTF16_HI_BYTE_SHIFT_old S_StringUTF16_LO_BYTE_SHIFT_old ge_w50) hZ (tw hw 52 rfl) (tw hw 19 rfl) (by decide) (by decide)) (g := (mkF m 20 #[rv a2, iv 3, iv 4, rv w50, iv 3] [(.int c3), (.int (3 : Int32)), (.ref w50)])) rfl (by rw [hml]; rfl) (argsL := [(.ref w50), (.int (3 : Int32)), (.int c3)]) (rest := []) (lenOf pd_2 rfl) rfl (by show 2 * 0 + _ ≤ _; exact Nat.le_of_eq rfl) (hb hby d4_20) (fun _ _ => ⟨rfl, rfl, (by decide : 1 + 0 ≤ _), (by decide : 8 + 0 ≤ _)⟩)
  dsimp only [Pt.U, Pt.locs, Pt.cells, Pt.slots] at X62 l62 y62 z62 st62 hQ62
  subst l62 y62 z62
  obtain ⟨rfl, N62q, Kc62, P62_0⟩ := hQ62
  have N62 := Fr.app N59 N62q
  have V_a2_62 : Arv Z T62.heap a2 k2 .char (4 : Int32) [(.int c0), (.int c1), (.int c2), (.int c3)] (.int (0 : Int32)) := V_a2_59.keep Kc62 (ninS (Nat.ne_of_lt (Nat.lt_of_lt_of_le V_a2.lt P50_0)) nin0)
  have K62 : Keep h0 T62.heap [] := K59.trans Kc62 (allS (Or.inr sz_w50) all0)
  have V_w50_62c : Arv Z T62.heap w50 kw50 .byte (8 : Int32) [(.int (bLo c0)), (.int (bHi c0)), (.int (bLo c1)), (.int (bHi c1)), (.int (bLo c2)), (.int (bHi c2)), (.int (bLo c3)), (.int (bHi c3))] (.int (0 : Int32)) := P62_0
  refine Goes.step (T2 := T62) (g2 := (mkF m 23 #[rv a2, iv 3, iv 4, rv w50, iv 3] [])) st62 ?_
  refine Goes.step (T2 := T62) (g2 := (mkF m 26 #[rv a2, iv 4, iv 4, rv w50, iv 3] [])) (fun _ hr => XS.iinc X62.here hx rfl (hb hby d4_23) rfl (l' := #[rv a2, iv 4, iv 4, rv w50, iv 3]) rfl hr) ?_
  refine Goes.step (T2 := T62) (g2 := (mkF m 29 #[rv a2, iv 4, iv 4, rv w50, iv 4] [])) (fun _ hr => XS.iinc X62.here hx rfl (hb hby d4_26) rfl (l' := #[rv a2, iv 4, iv 4, rv w50, iv 4]) rfl hr) ?_
  refine Goes.step (T2 := T62) (g2 := (mkF m 8 #[rv a2, iv 4, iv 4, rv w50, iv 4] [])) (fun _ hr => XS.goto X62.here hx rfl (pc0 := 29) (pc' := 8) rfl (hb hby d4_29) (by decide) (by decide) hr) ?_
  refine Goes.step (T2 := T62) (g2 := (mkF m 10 #[rv a2, iv 4, iv 4, rv w50, iv 4] [(.int (4 : Int32))])) (fun _ hr => XS.iload X62.here hx rfl (hb hby d4_8) rfl  hr) ?_
  refine Goes.step (T2 := T62) (g2 := (mkF m 11 #[rv a2, iv 4, iv 4, rv w50, iv 4] [(.int (4 : Int32)), (.int (4 : Int32))])) (fun _ hr => XS.iloadN X62.here hx rfl (hb hby d4_10) rfl  hr) ?_
  refine Goes.step (T2 := T62) (g2 := (mkF m 32 #[rv a2, iv 4, iv 4, rv w50, iv 4] [])) (fun _ hr => XS.icmpYes X62.here hx rfl (pc0 := 11) (pc' := 32) rfl (hb hby d4_11) rfl (flt (by decide : ¬ ((4 : Int32) < (4 : Int32)))).2.1 (by decide) (by decide) hr) ?_
  refine Goes.step (T2 := T62) (g2 := (mkF m 33 #[rv a2, iv 4, iv 4, rv w50, iv 4] [(.ref w50)])) (fun _ hr => XS.aloadN X62.here hx rfl (hb hby d4_32) rfl rfl hr) ?_
  exact Goes.ret (v := some (.ref w50)) X62 (by decide) (by decide) (fun h => by rw [Bd.returns] at h; cases h) (by show Q_rm_tob16 Z a2 k2 c0 c1 c2 c3 h0 n0 _ T62.heap _; exact ⟨w50, kw50, rfl, N62, K62, sz_w50, V_w50_62c⟩) (fun fs hr => retOut X62 hx Bd.returns rfl (Or.inr (Or.inr (Or.inr (Or.inr ⟨rfl, rfl, rfl⟩)))) (hb hby d4_33) hr)
theorem d5_0 : decode jdk_52_method_5_code 0 = .ok (.getstatic 44, 3) := by decide +kernel
theorem d5_3 : decode jdk_52_method_5_code 3 = .ok (.ifCond .ne 25, 3) := by decide +kernel
theorem d5_28 : decode jdk_52_method_5_code 28 = .ok (.iload_n 1, 1) := by decide +kernel
theorem d5_29 : decode jdk_52_method_5_code 29 = .ok (.iconst 1, 1) := by decide +kernel
theorem d5_30 : decode jdk_52_method_5_code 30 = .ok (.ishl, 1) := by decide +kernel
theorem d5_31 : decode jdk_52_method_5_code 31 = .ok (.istore_n 1, 1) := by decide +kernel
theorem d5_32 : decode jdk_52_method_5_code 32 = .ok (.aload_n 0, 1) := by decide +kernel
theorem d5_33 : decode jdk_52_method_5_code 33 = .ok (.iload_n 1, 1) := by decide +kernel
theorem d5_34 : decode jdk_52_method_5_code 34 = .ok (.iinc 1 1, 3) := by decide +kernel
theorem d5_37 : decode jdk_52_method_5_code 37 = .ok (.baload, 1) := by decide +kernel
theorem d5_38 : decode jdk_52_method_5_code 38 = .ok (.sipush 255, 3) := by decide +kernel
theorem d5_41 : decode jdk_52_method_5_code 41 = .ok (.iand, 1) := by decide +kernel
theorem d5_42 : decode jdk_52_method_5_code 42 = .ok (.getstatic 59, 3) := by decide +kernel
theorem d5_45 : decode jdk_52_method_5_code 45 = .ok (.ishl, 1) := by decide +kernel
theorem d5_46 : decode jdk_52_method_5_code 46 = .ok (.aload_n 0, 1) := by decide +kernel
theorem d5_47 : decode jdk_52_method_5_code 47 = .ok (.iload_n 1, 1) := by decide +kernel
theorem d5_48 : decode jdk_52_method_5_code 48 = .ok (.baload, 1) := by decide +kernel
theorem d5_49 : decode jdk_52_method_5_code 49 = .ok (.sipush 255, 3) := by decide +kernel
theorem d5_52 : decode jdk_52_method_5_code 52 = .ok (.iand, 1) := by decide +kernel
theorem d5_53 : decode jdk_52_method_5_code 53 = .ok (.getstatic 63, 3) := by decide +kernel
theorem d5_56 : decode jdk_52_method_5_code 56 = .ok (.ishl, 1) := by decide +kernel
theorem d5_57 : decode jdk_52_method_5_code 57 = .ok (.ior, 1) := by decide +kernel
theorem d5_58 : decode jdk_52_method_5_code 58 = .ok (.i2c, 1) := by decide +kernel
theorem d5_59 : decode jdk_52_method_5_code 59 = .ok (.ireturn, 1) := by decide +kernel
def Q_rm_get0 (Z : State) (a2 : Addr) (k2 : ClassId) (c0 : Int32) (c1 : Int32) (c2 : Int32) (c3 : Int32) (h0 : Heap) (n0 : Nat) (v : Option Value) (h : Heap) (L : List Loc) : Prop := v = some (.int c0) ∧ Fr n0 L ∧ h = h0
set_option maxRecDepth 65536 in
set_option maxHeartbeats 40000000 in
theorem rm_get0 (l : Launch) (Z : State) (a0 : Array Value) (hw : ∀ d ∈ tables_1, d.before a0 Z = true) (ws : List Jvm.Cond) (a2 : Addr) (k2 : ClassId) (c0 : Int32) (c1 : Int32) (c2 : Int32) (c3 : Int32) (h0 : Heap) (n0 : Nat) (Z0 : n0 ≤ h0.size) (O0 : Old Z n0 h0) (V_a2 : Arv Z h0 a2 k2 .byte (8 : Int32) [(.int (bLo c0)), (.int (bHi c0)), (.int (bLo c1)), (.int (bHi c1)), (.int (bLo c2)), (.int (bHi c2)), (.int (bLo c3)), (.int (bHi c3))] (.int (0 : Int32))) (S_StringUTF16__assertionsDisabled_old : Sta Z Z.heap "java/lang/StringUTF16" "$assertionsDisabled" "Z" (.int (1 : Int32))) (S_StringUTF16_HI_BYTE_SHIFT_old : Sta Z Z.heap "java/lang/StringUTF16" "HI_BYTE_SHIFT" "I" (.int (0 : Int32))) (S_StringUTF16_LO_BYTE_SHIFT_old : Sta Z Z.heap "java/lang/StringUTF16" "LO_BYTE_SHIFT" "I" (.int (8 : Int32))) (hb0 : B16 c0) :
    MetFree l Y5 (head1 (Jvm.Cond.code Y5 jdk_52_method_5_code 2 (some .char) :: ws) ({ frames := 0, cells := 0, slots := 0, locals := 0 } : Room)) (fun a U => a = #[(.ref a2), (.int (0 : Int32))] ∧ Z.Warmed39 U.vm ∧ U.heap = h0) (fun _ _ _ _ _ => True) (fun _ U o U' => ∃ v L, o = .returned v ∧ Q_rm_get0 Z a2 k2 c0 c1 c2 c3 h0 n0 v U'.heap L ∧ FrameEnd U o U' L ({ frames := 0, cells := 0, slots := 0, locals := 0 } : Room).cells ({ frames := 0, cells := 0, slots := 0, locals := 0 } : Room).slots) := by
  refine MetFree.of_bodySF (plainFor_of_name pn_java_lang_StringUTF16) hisR ?_
  intro p e s m args below meth c s₁ Bd hml0 hP hK
  obtain ⟨rfl, hZ, hh⟩ := hP
  have hx := Bd.exec
  have hby := Bd.bytes
  have hml : c.maxLocals = 2 := hml0
  have hown : s.vm.findClass "java/lang/StringUTF16" = some m.cls := findClass_of_methodNamed Bd.named
  have hnm := (name_of_methodNamed Bd.named Bd.method).1
  have X0 : Stand p l e ({ frames := 0, cells := 0, slots := 0, locals := 0 } : Room) s m #[(.ref a2), (.int (0 : Int32))] below meth c s₁ [] 0 0 := Stand.of_body Bd
  have e0 : s₁.heap = h0 := by rw [← hh, Bd.state]; rfl
  have N0 := Fr.nil n0
  refine Goes.out (l := l) (c := c) (R := ({ frames := 0, cells := 0, slots := 0, locals := 0 } : Room)) (Q := Q_rm_get0 Z a2 k2 c0 c1 c2 c3 h0 n0) Bd.notSynchronized ?_
  refine Goes.cast (g2 := mkF m 0 #[rv a2, iv 0] []) (by first | (simp [entryFrame, mkF, argsToLocals, Value.category]; done) | rfl) ?_
  have K0 : Keep h0 h0 [] := Keep.refl h0 _
  have hws : ∀ x ∈ ([] : List Addr), n0 ≤ x := all0
  obtain ⟨T63, X63, e63, st63⟩ := getS2 X0 hx hZ hown (host := "") (Or.inl (tw hw 53 rfl)) Via.refl e0 (S_StringUTF16__assertionsDisabled_old.ext (Old.keep O0 K0 hws).2) (g := (mkF m 0 #[rv a2, iv 0] [])) rfl (hb hby d5_0)
  refine Goes.step (T2 := T63) (g2 := (mkF m 3 #[rv a2, iv 0] [(.int (1 : Int32))])) st63 ?_
  refine Goes.step (T2 := T63) (g2 := (mkF m 28 #[rv a2, iv 0] [])) (fun _ hr => XS.ifYes X63.here hx rfl (pc0 := 3) (pc' := 28) rfl (hb hby d5_3) rfl ((if0 _ _).trans (feq (by decide : ¬ ((1 : Int32) = (0 : Int32)))).2) (by decide) (by decide) hr) ?_
  refine Goes.step (T2 := T63) (g2 := (mkF m 29 #[rv a2, iv 0] [(.int (0 : Int32))])) (fun _ hr => XS.iloadN X63.here hx rfl (hb hby d5_28) rfl  hr) ?_
  refine Goes.step (T2 := T63) (g2 := (mkF m 30 #[rv a2, iv 0] [(.int (1 : Int32)), (.int (0 : Int32))])) (fun _ hr => XS.iconst X63.here hx rfl (hb hby d5_29) hr) ?_
  refine Goes.step (T2 := T63) (g2 := (mkF m 31 #[rv a2, iv 0] [(.int (0 : Int32))])) (fun _ hr => Jvm.Free.XT.ishl X63.here hx rfl (hb hby d5_30) rfl hr) ?_
  refine Goes.step (T2 := T63) (g2 := (mkF m 32 #[rv a2, iv 0] [])) (fun _ hr => XS.istoreN X63.here hx rfl (hb hby d5_31) rfl (l' := #[rv a2, iv 0]) rfl hr) ?_
  refine Goes.step (T2 := T63) (g2 := (mkF m 33 #[rv a2, iv 0] [(.ref a2)])) (fun _ hr => XS.aloadN X63.here hx rfl (hb hby d5_32) rfl rfl hr) ?_
  refine Goes.step (T2 := T63) (g2 := (mkF m 34 #[rv a2, iv 0] [(.int (0 : Int32)), (.ref a2)])) (fun _ hr => XS.iloadN X63.here hx rfl (hb hby d5_33) rfl  hr) ?_
  refine Goes.step (T2 := T63) (g2 := (mkF m 37 #[rv a2, iv 1] [(.int (0 : Int32)), (.ref a2)])) (fun _ hr => XS.iinc X63.here hx rfl (hb hby d5_34) rfl (l' := #[rv a2, iv 1]) rfl hr) ?_
  obtain ⟨cl64, Ar64, q64, S64, Nn64, H64, G64⟩ := id V_a2
  have hin64 : ¬ ((0 : Int32) < 0 ∨ cl64.slots.size ≤ ((0 : Int32)).toNatClampNeg) := inb_of S64 ⟨by decide, by decide⟩
  refine Goes.step (T2 := T63) (g2 := (mkF m 38 #[rv a2, iv 1] [(.int (bLo c0))])) (X63.baloadBytes hx (j := (0 : Int32)) (v := (.int (bLo c0))) (own_at e63 Ar64.1) (State.isArrayOf_alike hZ.alike Ar64.2.1) Ar64.2.2 hin64 (H64.at hin64 rfl) (g := (mkF m 37 #[rv a2, iv 1] [(.int (0 : Int32)), (.ref a2)])) rfl rfl (hb hby d5_37)) ?_
  refine Goes.step (T2 := T63) (g2 := (mkF m 41 #[rv a2, iv 1] [(.int (255 : Int32)), (.int (bLo c0))])) (fun _ hr => XS.sipush X63.here hx rfl (hb hby d5_38) hr) ?_
  refine Goes.step (T2 := T63) (g2 := (mkF m 42 #[rv a2, iv 1] [(.int ((bLo c0) &&& (255 : Int32)))])) (fun _ hr => XS.iand X63.here hx rfl (hb hby d5_41) rfl hr) ?_
  obtain ⟨T65, X65, e65, st65⟩ := getS2 X63 hx hZ hown (host := "") (Or.inl (tw hw 54 rfl)) Via.refl e63 (S_StringUTF16_HI_BYTE_SHIFT_old.ext (Old.keep O0 K0 hws).2) (g := (mkF m 42 #[rv a2, iv 1] [(.int ((bLo c0) &&& (255 : Int32)))])) rfl (hb hby d5_42)
  refine Goes.step (T2 := T65) (g2 := (mkF m 45 #[rv a2, iv 1] [(.int (0 : Int32)), (.int ((bLo c0) &&& (255 : Int32)))])) st65 ?_
  refine Goes.step (T2 := T65) (g2 := (mkF m 46 #[rv a2, iv 1] [(.int (((bLo c0) &&& (255 : Int32)) <<< ((0 : Int32) &&& 31)))])) (fun _ hr => Jvm.Free.XT.ishl X65.here hx rfl (hb hby d5_45) rfl hr) ?_
  refine Goes.step (T2 := T65) (g2 := (mkF m 47 #[rv a2, iv 1] [(.ref a2), (.int (((bLo c0) &&& (255 : Int32)) <<< ((0 : Int32) &&& 31)))])) (fun _ hr => XS.aloadN X65.here hx rfl (hb hby d5_46) rfl rfl hr) ?_
  refine Goes.step (T2 := T65) (g2 := (mkF m 48 #[rv a2, iv 1] [(.int (1 : Int32)), (.ref a2), (.int (((bLo c0) &&& (255 : Int32)) <<< ((0 : Int32) &&& 31)))])) (fun _ hr => XS.iloadN X65.here hx rfl (hb hby d5_47) rfl  hr) ?_
  obtain ⟨cl66, Ar66, q66, S66, Nn66, H66, G66⟩ := id V_a2
  have hin66 : ¬ ((1 : Int32) < 0 ∨ cl66.slots.size ≤ ((1 : Int32)).toNatClampNeg) := inb_of S66 ⟨by decide, by decide⟩
  refine Goes.step (T2 := T65) (g2 := (mkF m 49 #[rv a2, iv 1] [(.int (bHi c0)), (.int (((bLo c0) &&& (255 : Int32)) <<< ((0 : Int32) &&& 31)))])) (X65.baloadBytes hx (j := (1 : Int32)) (v := (.int (bHi c0))) (own_at e65 Ar66.1) (State.isArrayOf_alike hZ.alike Ar66.2.1) Ar66.2.2 hin66 (H66.at hin66 rfl) (g := (mkF m 48 #[rv a2, iv 1] [(.int (1 : Int32)), (.ref a2), (.int (((bLo c0) &&& (255 : Int32)) <<< ((0 : Int32) &&& 31)))])) rfl rfl (hb hby d5_48)) ?_
  refine Goes.step (T2 := T65) (g2 := (mkF m 52 #[rv a2, iv 1] [(.int (255 : Int32)), (.int (bHi c0)), (.int (((bLo c0) &&& (255 : Int32)) <<< ((0 : Int32) &&& 31)))])) (fun _ hr => XS.sipush X65.here hx rfl (hb hby d5_49) hr) ?_
  refine Goes.step (T2 := T65) (g2 := (mkF m 53 #[rv a2, iv 1] [(.int ((bHi c0) &&& (255 : Int32))), (.int (((bLo c0) &&& (255 : Int32)) <<< ((0 : Int32) &&& 31)))])) (fun _ hr => XS.iand X65.here hx rfl (hb hby d5_52) rfl hr) ?_
  obtain ⟨T67, X67, e67, st67⟩ := getS2 X65 hx hZ hown (host := "") (Or.inl (tw hw 55 rfl)) Via.refl e65 (S_StringUTF16_LO_BYTE_SHIFT_old.ext (Old.keep O0 K0 hws).2) (g := (mkF m 53 #[rv a2, iv 1] [(.int ((bHi c0) &&& (255 : Int32))), (.int (((bLo c0) &&& (255 : Int32)) <<< ((0 : Int32) &&& 31)))])) rfl (hb hby d5_53)
  refine Goes.step (T2 := T67) (g2 := (mkF m 56 #[rv a2, iv 1] [(.int (8 : Int32)), (.int ((bHi c0) &&& (255 : Int32))), (.int (((bLo c0) &&& (255 : Int32)) <<< ((0 : Int32) &&& 31)))])) st67 ?_
  refine Goes.step (T2 := T67) (g2 := (mkF m 57 #[rv a2, iv 1] [(.int (((bHi c0) &&& (255 : Int32)) <<< ((8 : Int32) &&& 31))), (.int (((bLo c0) &&& (255 : Int32)) <<< ((0 : Int32) &&& 31)))])) (fun _ hr => Jvm.Free.XT.ishl X67.here hx rfl (hb hby d5_56) rfl hr) ?_
  refine Goes.step (T2 := T67) (g2 := (mkF m 58 #[rv a2, iv 1] [(.int ((((bLo c0) &&& (255 : Int32)) <<< ((0 : Int32) &&& 31)) ||| (((bHi c0) &&& (255 : Int32)) <<< ((8 : Int32) &&& 31))))])) (fun _ hr => Jvm.Free.XT.ior X67.here hx rfl (hb hby d5_57) rfl hr) ?_
  refine Goes.step (T2 := T67) (g2 := (mkF m 59 #[rv a2, iv 1] [(.int (((((bLo c0) &&& (255 : Int32)) <<< ((0 : Int32) &&& 31)) ||| (((bHi c0) &&& (255 : Int32)) <<< ((8 : Int32) &&& 31))).toUInt32.toUInt16.toUInt32.toInt32))])) (fun _ hr => Jvm.Free.XT.i2c X67.here hx rfl (hb hby d5_58) rfl hr) ?_
  rw [own_gc hb0]
  exact Goes.ret (v := some (.int c0)) X67 (by decide) (by decide) (fun h => by rw [Bd.returns] at h; cases h) ⟨rfl, N0, e67⟩ (fun fs hr => retOut X67 hx Bd.returns (own_nw hb0) (Or.inl ⟨rfl, Or.inr (Or.inr (Or.inr (Or.inl rfl))), _, rfl⟩) (hb hby d5_59) hr)
def Q_rm_get1 (Z : State) (a2 : Addr) (k2 : ClassId) (c0 : Int32) (c1 : Int32) (c2 : Int32) (c3 : Int32) (h0 : Heap) (n0 : Nat) (v : Option Value) (h : Heap) (L : List Loc) : Prop := v = some (.int c1) ∧ Fr n0 L ∧ h = h0
set_option maxRecDepth 65536 in
set_option maxHeartbeats 40000000 in
theorem rm_get1 (l : Launch) (Z : State) (a0 : Array Value) (hw : ∀ d ∈ tables_1, d.before a0 Z = true) (ws : List Jvm.Cond) (a2 : Addr) (k2 : ClassId) (c0 : Int32) (c1 : Int32) (c2 : Int32) (c3 : Int32) (h0 : Heap) (n0 : Nat) (Z0 : n0 ≤ h0.size) (O0 : Old Z n0 h0) (V_a2 : Arv Z h0 a2 k2 .byte (8 : Int32) [(.int (bLo c0)), (.int (bHi c0)), (.int (bLo c1)), (.int (bHi c1)), (.int (bLo c2)), (.int (bHi c2)), (.int (bLo c3)), (.int (bHi c3))] (.int (0 : Int32))) (S_StringUTF16__assertionsDisabled_old : Sta Z Z.heap "java/lang/StringUTF16" "$assertionsDisabled" "Z" (.int (1 : Int32))) (S_StringUTF16_HI_BYTE_SHIFT_old : Sta Z Z.heap "java/lang/StringUTF16" "HI_BYTE_SHIFT" "I" (.int (0 : Int32))) (S_StringUTF16_LO_BYTE_SHIFT_old : Sta Z Z.heap "java/lang/StringUTF16" "LO_BYTE_SHIFT" "I" (.int (8 : Int32))) (hb1 : B16 c1) :
    MetFree l Y5 (head1 (Jvm.Cond.code Y5 jdk_52_method_5_code 2 (some .char) :: ws) ({ frames := 0, cells := 0, slots := 0, locals := 0 } : Room)) (fun a U => a = #[(.ref a2), (.int (1 : Int32))] ∧ Z.Warmed39 U.vm ∧ U.heap = h0) (fun _ _ _ _ _ => True) (fun _ U o U' => ∃ v L, o = .returned v ∧ Q_rm_get1 Z a2 k2 c0 c1 c2 c3 h0 n0 v U'.heap L ∧ FrameEnd U o U' L ({ frames := 0, cells := 0, slots := 0, locals := 0 } : Room).cells ({ frames := 0, cells := 0, slots := 0, locals := 0 } : Room).slots) := by
  refine MetFree.of_bodySF (plainFor_of_name pn_java_lang_StringUTF16) hisR ?_
  intro p e s m args below meth c s₁ Bd hml0 hP hK
  obtain ⟨rfl, hZ, hh⟩ := hP
  have hx := Bd.exec
  have hby := Bd.bytes
  have hml : c.maxLocals = 2 := hml0
  have hown : s.vm.findClass "java/lang/StringUTF16" = some m.cls := findClass_of_methodNamed Bd.named
  have hnm := (name_of_methodNamed Bd.named Bd.method).1
  have X0 : Stand p l e ({ frames := 0, cells := 0, slots := 0, locals := 0 } : Room) s m #[(.ref a2), (.int (1 : Int32))] below meth c s₁ [] 0 0 := Stand.of_body Bd
  have e0 : s₁.heap = h0 := by rw [← hh, Bd.state]; rfl
  have N0 := Fr.nil n0
  refine Goes.out (l := l) (c := c) (R := ({ frames := 0, cells := 0, slots := 0, locals := 0 } : Room)) (Q := Q_rm_get1 Z a2 k2 c0 c1 c2 c3 h0 n0) Bd.notSynchronized ?_
  refine Goes.cast (g2 := mkF m 0 #[rv a2, iv 1] []) (by first | (simp [entryFrame, mkF, argsToLocals, Value.category]; done) | rfl) ?_
  have K0 : Keep h0 h0 [] := Keep.refl h0 _
  have hws : ∀ x ∈ ([] : List Addr), n0 ≤ x := all0
  obtain ⟨T68, X68, e68, st68⟩ := getS2 X0 hx hZ hown (host := "") (Or.inl (tw hw 53 rfl)) Via.refl e0 (S_StringUTF16__assertionsDisabled_old.ext (Old.keep O0 K0 hws).2) (g := (mkF m 0 #[rv a2, iv 1] [])) rfl (hb hby d5_0)
  refine Goes.step (T2 := T68) (g2 := (mkF m 3 #[rv a2, iv 1] [(.int (1 : Int32))])) st68 ?_
  refine Goes.step (T2 := T68) (g2 := (mkF m 28 #[rv a2, iv 1] [])) (fun _ hr => XS.ifYes X68.here hx rfl (pc0 := 3) (pc' := 28) rfl (hb hby d5_3) rfl ((if0 _ _).trans (feq (by decide : ¬ ((1 : Int32) = (0 : Int32)))).2) (by decide) (by decide) hr) ?_
  refine Goes.step (T2 := T68) (g2 := (mkF m 29 #[rv a2, iv 1] [(.int (1 : Int32))])) (fun _ hr => XS.iloadN X68.here hx rfl (hb hby d5_28) rfl  hr) ?_
  refine Goes.step (T2 := T68) (g2 := (mkF m 30 #[rv a2, iv 1] [(.int (1 : Int32)), (.int (1 : Int32))])) (fun _ hr => XS.iconst X68.here hx rfl (hb hby d5_29) hr) ?_
  refine Goes.step (T2 := T68) (g2 := (mkF m 31 #[rv a2, iv 1] [(.int (2 : Int32))])) (fun _ hr => Jvm.Free.XT.ishl X68.here hx rfl (hb hby d5_30) rfl hr) ?_
  refine Goes.step (T2 := T68) (g2 := (mkF m 32 #[rv a2, iv 2] [])) (fun _ hr => XS.istoreN X68.here hx rfl (hb hby d5_31) rfl (l' := #[rv a2, iv 2]) rfl hr) ?_
  refine Goes.step (T2 := T68) (g2 := (mkF m 33 #[rv a2, iv 2] [(.ref a2)])) (fun _ hr => XS.aloadN X68.here hx rfl (hb hby d5_32) rfl rfl hr) ?_
  refine Goes.step (T2 := T68) (g2 := (mkF m 34 #[rv a2, iv 2] [(.int (2 : Int32)), (.ref a2)])) (fun _ hr => XS.iloadN X68.here hx rfl (hb hby d5_33) rfl  hr) ?_
  refine Goes.step (T2 := T68) (g2 := (mkF m 37 #[rv a2, iv 3] [(.int (2 : Int32)), (.ref a2)])) (fun _ hr => XS.iinc X68.here hx rfl (hb hby d5_34) rfl (l' := #[rv a2, iv 3]) rfl hr) ?_
  obtain ⟨cl69, Ar69, q69, S69, Nn69, H69, G69⟩ := id V_a2
  have hin69 : ¬ ((2 : Int32) < 0 ∨ cl69.slots.size ≤ ((2 : Int32)).toNatClampNeg) := inb_of S69 ⟨by decide, by decide⟩
  refine Goes.step (T2 := T68) (g2 := (mkF m 38 #[rv a2, iv 3] [(.int (bLo c1))])) (X68.baloadBytes hx (j := (2 : Int32)) (v := (.int (bLo c1))) (own_at e68 Ar69.1) (State.isArrayOf_alike hZ.alike Ar69.2.1) Ar69.2.2 hin69 (H69.at hin69 rfl) (g := (mkF m 37 #[rv a2, iv 3] [(.int (2 : Int32)), (.ref a2)])) rfl rfl (hb hby d5_37)) ?_
  refine Goes.step (T2 := T68) (g2 := (mkF m 41 #[rv a2, iv 3] [(.int (255 : Int32)), (.int (bLo c1))])) (fun _ hr => XS.sipush X68.here hx rfl (hb hby d5_38) hr) ?_
  refine Goes.step (T2 := T68) (g2 := (mkF m 42 #[rv a2, iv 3] [(.int ((bLo c1) &&& (255 : Int32)))])) (fun _ hr => XS.iand X68.here hx rfl (hb hby d5_41) rfl hr) ?_
  obtain ⟨T70, X70, e70, st70⟩ := getS2 X68 hx hZ hown (host := "") (Or.inl (tw hw 54 rfl)) Via.refl e68 (S_StringUTF16_HI_BYTE_SHIFT_old.ext (Old.keep O0 K0 hws).2) (g := (mkF m 42 #[rv a2, iv 3] [(.int ((bLo c1) &&& (255 : Int32)))])) rfl (hb hby d5_42)
  refine Goes.step (T2 := T70) (g2 := (mkF m 45 #[rv a2, iv 3] [(.int (0 : Int32)), (.int ((bLo c1) &&& (255 : Int32)))])) st70 ?_
  refine Goes.step (T2 := T70) (g2 := (mkF m 46 #[rv a2, iv 3] [(.int (((bLo c1) &&& (255 : Int32)) <<< ((0 : Int32) &&& 31)))])) (fun _ hr => Jvm.Free.XT.ishl X70.here hx rfl (hb hby d5_45) rfl hr) ?_
  refine Goes.step (T2 := T70) (g2 := (mkF m 47 #[rv a2, iv 3] [(.ref a2), (.int (((bLo c1) &&& (255 : Int32)) <<< ((0 : Int32) &&& 31)))])) (fun _ hr => XS.aloadN X70.here hx rfl (hb hby d5_46) rfl rfl hr) ?_
  refine Goes.step (T2 := T70) (g2 := (mkF m 48 #[rv a2, iv 3] [(.int (3 : Int32)), (.ref a2), (.int (((bLo c1) &&& (255 : Int32)) <<< ((0 : Int32) &&& 31)))])) (fun _ hr => XS.iloadN X70.here hx rfl (hb hby d5_47) rfl  hr) ?_
  obtain ⟨cl71, Ar71, q71, S71, Nn71, H71, G71⟩ := id V_a2
  have hin71 : ¬ ((3 : Int32) < 0 ∨ cl71.slots.size ≤ ((3 : Int32)).toNatClampNeg) := inb_of S71 ⟨by decide, by decide⟩
  refine Goes.step (T2 := T70) (g2 := (mkF m 49 #[rv a2, iv 3] [(.int (bHi c1)), (.int (((bLo c1) &&& (255 : Int32)) <<< ((0 : Int32) &&& 31)))])) (X70.baloadBytes hx (j := (3 : Int32)) (v := (.int (bHi c1))) (own_at e70 Ar71.1) (State.isArrayOf_alike hZ.alike Ar71.2.1) Ar71.2.2 hin71 (H71.at hin71 rfl) (g := (mkF m 48 #[rv a2, iv 3] [(.int (3 : Int32)), (.ref a2), (.int (((bLo c1) &&& (255 : Int32)) <<< ((0 : Int32) &&& 31)))])) rfl rfl (hb hby d5_48)) ?_
  refine Goes.step (T2 := T70) (g2 := (mkF m 52 #[rv a2, iv 3] [(.int (255 : Int32)), (.int (bHi c1)), (.int (((bLo c1) &&& (255 : Int32)) <<< ((0 : Int32) &&& 31)))])) (fun _ hr => XS.sipush X70.here hx rfl (hb hby d5_49) hr) ?_
  refine Goes.step (T2 := T70) (g2 := (mkF m 53 #[rv a2, iv 3] [(.int ((bHi c1) &&& (255 : Int32))), (.int (((bLo c1) &&& (255 : Int32)) <<< ((0 : Int32) &&& 31)))])) (fun _ hr => XS.iand X70.here hx rfl (hb hby d5_52) rfl hr) ?_
  obtain ⟨T72, X72, e72, st72⟩ := getS2 X70 hx hZ hown (host := "") (Or.inl (tw hw 55 rfl)) Via.refl e70 (S_StringUTF16_LO_BYTE_SHIFT_old.ext (Old.keep O0 K0 hws).2) (g := (mkF m 53 #[rv a2, iv 3] [(.int ((bHi c1) &&& (255 : Int32))), (.int (((bLo c1) &&& (255 : Int32)) <<< ((0 : Int32) &&& 31)))])) rfl (hb hby d5_53)
  refine Goes.step (T2 := T72) (g2 := (mkF m 56 #[rv a2, iv 3] [(.int (8 : Int32)), (.int ((bHi c1) &&& (255 : Int32))), (.int (((bLo c1) &&& (255 : Int32)) <<< ((0 : Int32) &&& 31)))])) st72 ?_
  refine Goes.step (T2 := T72) (g2 := (mkF m 57 #[rv a2, iv 3] [(.int (((bHi c1) &&& (255 : Int32)) <<< ((8 : Int32) &&& 31))), (.int (((bLo c1) &&& (255 : Int32)) <<< ((0 : Int32) &&& 31)))])) (fun _ hr => Jvm.Free.XT.ishl X72.here hx rfl (hb hby d5_56) rfl hr) ?_
  refine Goes.step (T2 := T72) (g2 := (mkF m 58 #[rv a2, iv 3] [(.int ((((bLo c1) &&& (255 : Int32)) <<< ((0 : Int32) &&& 31)) ||| (((bHi c1) &&& (255 : Int32)) <<< ((8 : Int32) &&& 31))))])) (fun _ hr => Jvm.Free.XT.ior X72.here hx rfl (hb hby d5_57) rfl hr) ?_
  refine Goes.step (T2 := T72) (g2 := (mkF m 59 #[rv a2, iv 3] [(.int (((((bLo c1) &&& (255 : Int32)) <<< ((0 : Int32) &&& 31)) ||| (((bHi c1) &&& (255 : Int32)) <<< ((8 : Int32) &&& 31))).toUInt32.toUInt16.toUInt32.toInt32))])) (fun _ hr => Jvm.Free.XT.i2c X72.here hx rfl (hb hby d5_58) rfl hr) ?_
  rw [own_gc hb1]
  exact Goes.ret (v := some (.int c1)) X72 (by decide) (by decide) (fun h => by rw [Bd.returns] at h; cases h) ⟨rfl, N0, e72⟩ (fun fs hr => retOut X72 hx Bd.returns (own_nw hb1) (Or.inl ⟨rfl, Or.inr (Or.inr (Or.inr (Or.inl rfl))), _, rfl⟩) (hb hby d5_59) hr)
def Q_rm_get2 (Z : State) (a2 : Addr) (k2 : ClassId) (c0 : Int32) (c1 : Int32) (c2 : Int32) (c3 : Int32) (h0 : Heap) (n0 : Nat) (v : Option Value) (h : Heap) (L : List Loc) : Prop := v = some (.int c2) ∧ Fr n0 L ∧ h = h0
set_option maxRecDepth 65536 in
set_option maxHeartbeats 40000000 in
theorem rm_get2 (l : Launch) (Z : State) (a0 : Array Value) (hw : ∀ d ∈ tables_1, d.before a0 Z = true) (ws : List Jvm.Cond) (a2 : Addr) (k2 : ClassId) (c0 : Int32) (c1 : Int32) (c2 : Int32) (c3 : Int32) (h0 : Heap) (n0 : Nat) (Z0 : n0 ≤ h0.size) (O0 : Old Z n0 h0) (V_a2 : Arv Z h0 a2 k2 .byte (8 : Int32) [(.int (bLo c0)), (.int (bHi c0)), (.int (bLo c1)), (.int (bHi c1)), (.int (bLo c2)), (.int (bHi c2)), (.int (bLo c3)), (.int (bHi c3))] (.int (0 : Int32))) (S_StringUTF16__assertionsDisabled_old : Sta Z Z.heap "java/lang/StringUTF16" "$assertionsDisabled" "Z" (.int (1 : Int32))) (S_StringUTF16_HI_BYTE_SHIFT_old : Sta Z Z.heap "java/lang/StringUTF16" "HI_BYTE_SHIFT" "I" (.int (0 : Int32))) (S_StringUTF16_LO_BYTE_SHIFT_old : Sta Z Z.heap "java/lang/StringUTF16" "LO_BYTE_SHIFT" "I" (.int (8 : Int32))) (hb2 : B16 c2) :
    MetFree l Y5 (head1 (Jvm.Cond.code Y5 jdk_52_method_5_code 2 (some .char) :: ws) ({ frames := 0, cells := 0, slots := 0, locals := 0 } : Room)) (fun a U => a = #[(.ref a2), (.int (2 : Int32))] ∧ Z.Warmed39 U.vm ∧ U.heap = h0) (fun _ _ _ _ _ => True) (fun _ U o U' => ∃ v L, o = .returned v ∧ Q_rm_get2 Z a2 k2 c0 c1 c2 c3 h0 n0 v U'.heap L ∧ FrameEnd U o U' L ({ frames := 0, cells := 0, slots := 0, locals := 0 } : Room).cells ({ frames := 0, cells := 0, slots := 0, locals := 0 } : Room).slots) := by
  refine MetFree.of_bodySF (plainFor_of_name pn_java_lang_StringUTF16) hisR ?_
  intro p e s m args below meth c s₁ Bd hml0 hP hK
  obtain ⟨rfl, hZ, hh⟩ := hP
  have hx := Bd.exec
  have hby := Bd.bytes
  have hml : c.maxLocals = 2 := hml0
  have hown : s.vm.findClass "java/lang/StringUTF16" = some m.cls := findClass_of_methodNamed Bd.named
  have hnm := (name_of_methodNamed Bd.named Bd.method).1
  have X0 : Stand p l e ({ frames := 0, cells := 0, slots := 0, locals := 0 } : Room) s m #[(.ref a2), (.int (2 : Int32))] below meth c s₁ [] 0 0 := Stand.of_body Bd
  have e0 : s₁.heap = h0 := by rw [← hh, Bd.state]; rfl
  have N0 := Fr.nil n0
  refine Goes.out (l := l) (c := c) (R := ({ frames := 0, cells := 0, slots := 0, locals := 0 } : Room)) (Q := Q_rm_get2 Z a2 k2 c0 c1 c2 c3 h0 n0) Bd.notSynchronized ?_
  refine Goes.cast (g2 := mkF m 0 #[rv a2, iv 2] []) (by first | (simp [entryFrame, mkF, argsToLocals, Value.category]; done) | rfl) ?_
  have K0 : Keep h0 h0 [] := Keep.refl h0 _
  have hws : ∀ x ∈ ([] : List Addr), n0 ≤ x := all0
  obtain ⟨T73, X73, e73, st73⟩ := getS2 X0 hx hZ hown (host := "") (Or.inl (tw hw 53 rfl)) Via.refl e0 (S_StringUTF16__assertionsDisabled_old.ext (Old.keep O0 K0 hws).2) (g := (mkF m 0 #[rv a2, iv 2] [])) rfl (hb hby d5_0)
  refine Goes.step (T2 := T73) (g2 := (mkF m 3 #[rv a2, iv 2] [(.int (1 : Int32))])) st73 ?_
  refine Goes.step (T2 := T73) (g2 := (mkF m 28 #[rv a2, iv 2] [])) (fun _ hr => XS.ifYes X73.here hx rfl (pc0 := 3) (pc' := 28) rfl (hb hby d5_3) rfl ((if0 _ _).trans (feq (by decide : ¬ ((1 : Int32) = (0 : Int32)))).2) (by decide) (by decide) hr) ?_
  refine Goes.step (T2 := T73) (g2 := (mkF m 29 #[rv a2, iv 2] [(.int (2 : Int32))])) (fun _ hr => XS.iloadN X73.here hx rfl (hb hby d5_28) rfl  hr) ?_
  refine Goes.step (T2 := T73) (g2 := (mkF m 30 #[rv a2, iv 2] [(.int (1 : Int32)), (.int (2 : Int32))])) (fun _ hr => XS.iconst X73.here hx rfl (hb hby d5_29) hr) ?_
  refine Goes.step (T2 := T73) (g2 := (mkF m 31 #[rv a2, iv 2] [(.int (4 : Int32))])) (fun _ hr => Jvm.Free.XT.ishl X73.here hx rfl (hb hby d5_30) rfl hr) ?_
  refine Goes.step (T2 := T73) (g2 := (mkF m 32 #[rv a2, iv 4] [])) (fun _ hr => XS.istoreN X73.here hx rfl (hb hby d5_31) rfl (l' := #[rv a2, iv 4]) rfl hr) ?_
  refine Goes.step (T2 := T73) (g2 := (mkF m 33 #[rv a2, iv 4] [(.ref a2)])) (fun _ hr => XS.aloadN X73.here hx rfl (hb hby d5_32) rfl rfl hr) ?_
  refine Goes.step (T2 := T73) (g2 := (mkF m 34 #[rv a2, iv 4] [(.int (4 : Int32)), (.ref a2)])) (fun _ hr => XS.iloadN X73.here hx rfl (hb hby d5_33) rfl  hr) ?_
  refine Goes.step (T2 := T73) (g2 := (mkF m 37 #[rv a2, iv 5] [(.int (4 : Int32)), (.ref a2)])) (fun _ hr => XS.iinc X73.here hx rfl (hb hby d5_34) rfl (l' := #[rv a2, iv 5]) rfl hr) ?_
  obtain ⟨cl74, Ar74, q74, S74, Nn74, H74, G74⟩ := id V_a2
  have hin74 : ¬ ((4 : Int32) < 0 ∨ cl74.slots.size ≤ ((4 : Int32)).toNatClampNeg) := inb_of S74 ⟨by decide, by decide⟩
  refine Goes.step (T2 := T73) (g2 := (mkF m 38 #[rv a2, iv 5] [(.int (bLo c2))])) (X73.baloadBytes hx (j := (4 : Int32)) (v := (.int (bLo c2))) (own_at e73 Ar74.1) (State.isArrayOf_alike hZ.alike Ar74.2.1) Ar74.2.2 hin74 (H74.at hin74 rfl) (g := (mkF m 37 #[rv a2, iv 5] [(.int (4 : Int32)), (.ref a2)])) rfl rfl (hb hby d5_37)) ?_
  refine Goes.step (T2 := T73) (g2 := (mkF m 41 #[rv a2, iv 5] [(.int (255 : Int32)), (.int (bLo c2))])) (fun _ hr => XS.sipush X73.here hx rfl (hb hby d5_38) hr) ?_
  refine Goes.step (T2 := T73) (g2 := (mkF m 42 #[rv a2, iv 5] [(.int ((bLo c2) &&& (255 : Int32)))])) (fun _ hr => XS.iand X73.here hx rfl (hb hby d5_41) rfl hr) ?_
  obtain ⟨T75, X75, e75, st75⟩ := getS2 X73 hx hZ hown (host := "") (Or.inl (tw hw 54 rfl)) Via.refl e73 (S_StringUTF16_HI_BYTE_SHIFT_old.ext (Old.keep O0 K0 hws).2) (g := (mkF m 42 #[rv a2, iv 5] [(.int ((bLo c2) &&& (255 : Int32)))])) rfl (hb hby d5_42)
  refine Goes.step (T2 := T75) (g2 := (mkF m 45 #[rv a2, iv 5] [(.int (0 : Int32)), (.int ((bLo c2) &&& (255 : Int32)))])) st75 ?_
  refine Goes.step (T2 := T75) (g2 := (mkF m 46 #[rv a2, iv 5] [(.int (((bLo c2) &&& (255 : Int32)) <<< ((0 : Int32) &&& 31)))])) (fun _ hr => Jvm.Free.XT.ishl X75.here hx rfl (hb hby d5_45) rfl hr) ?_
  refine Goes.step (T2 := T75) (g2 := (mkF m 47 #[rv a2, iv 5] [(.ref a2), (.int (((bLo c2) &&& (255 : Int32)) <<< ((0 : Int32) &&& 31)))])) (fun _ hr => XS.aloadN X75.here hx rfl (hb hby d5_46) rfl rfl hr) ?_
  refine Goes.step (T2 := T75) (g2 := (mkF m 48 #[rv a2, iv 5] [(.int (5 : Int32)), (.ref a2), (.int (((bLo c2) &&& (255 : Int32)) <<< ((0 : Int32) &&& 31)))])) (fun _ hr => XS.iloadN X75.here hx rfl (hb hby d5_47) rfl  hr) ?_
  obtain ⟨cl76, Ar76, q76, S76, Nn76, H76, G76⟩ := id V_a2
  have hin76 : ¬ ((5 : Int32) < 0 ∨ cl76.slots.size ≤ ((5 : Int32)).toNatClampNeg) := inb_of S76 ⟨by decide, by decide⟩
  refine Goes.step (T2 := T75) (g2 := (mkF m 49 #[rv a2, iv 5] [(.int (bHi c2)), (.int (((bLo c2) &&& (255 : Int32)) <<< ((0 : Int32) &&& 31)))])) (X75.baloadBytes hx (j := (5 : Int32)) (v := (.int (bHi c2))) (own_at e75 Ar76.1) (State.isArrayOf_alike hZ.alike Ar76.2.1) Ar76.2.2 hin76 (H76.at hin76 rfl) (g := (mkF m 48 #[rv a2, iv 5] [(.int (5 : Int32)), (.ref a2), (.int (((bLo c2) &&& (255 : Int32)) <<< ((0 : Int32) &&& 31)))])) rfl rfl (hb hby d5_48)) ?_
  refine Goes.step (T2 := T75) (g2 := (mkF m 52 #[rv a2, iv 5] [(.int (255 : Int32)), (.int (bHi c2)), (.int (((bLo c2) &&& (255 : Int32)) <<< ((0 : Int32) &&& 31)))])) (fun _ hr => XS.sipush X75.here hx rfl (hb hby d5_49) hr) ?_
  refine Goes.step (T2 := T75) (g2 := (mkF m 53 #[rv a2, iv 5] [(.int ((bHi c2) &&& (255 : Int32))), (.int (((bLo c2) &&& (255 : Int32)) <<< ((0 : Int32) &&& 31)))])) (fun _ hr => XS.iand X75.here hx rfl (hb hby d5_52) rfl hr) ?_
  obtain ⟨T77, X77, e77, st77⟩ := getS2 X75 hx hZ hown (host := "") (Or.inl (tw hw 55 rfl)) Via.refl e75 (S_StringUTF16_LO_BYTE_SHIFT_old.ext (Old.keep O0 K0 hws).2) (g := (mkF m 53 #[rv a2, iv 5] [(.int ((bHi c2) &&& (255 : Int32))), (.int (((bLo c2) &&& (255 : Int32)) <<< ((0 : Int32) &&& 31)))])) rfl (hb hby d5_53)
  refine Goes.step (T2 := T77) (g2 := (mkF m 56 #[rv a2, iv 5] [(.int (8 : Int32)), (.int ((bHi c2) &&& (255 : Int32))), (.int (((bLo c2) &&& (255 : Int32)) <<< ((0 : Int32) &&& 31)))])) st77 ?_
  refine Goes.step (T2 := T77) (g2 := (mkF m 57 #[rv a2, iv 5] [(.int (((bHi c2) &&& (255 : Int32)) <<< ((8 : Int32) &&& 31))), (.int (((bLo c2) &&& (255 : Int32)) <<< ((0 : Int32) &&& 31)))])) (fun _ hr => Jvm.Free.XT.ishl X77.here hx rfl (hb hby d5_56) rfl hr) ?_
  refine Goes.step (T2 := T77) (g2 := (mkF m 58 #[rv a2, iv 5] [(.int ((((bLo c2) &&& (255 : Int32)) <<< ((0 : Int32) &&& 31)) ||| (((bHi c2) &&& (255 : Int32)) <<< ((8 : Int32) &&& 31))))])) (fun _ hr => Jvm.Free.XT.ior X77.here hx rfl (hb hby d5_57) rfl hr) ?_
  refine Goes.step (T2 := T77) (g2 := (mkF m 59 #[rv a2, iv 5] [(.int (((((bLo c2) &&& (255 : Int32)) <<< ((0 : Int32) &&& 31)) ||| (((bHi c2) &&& (255 : Int32)) <<< ((8 : Int32) &&& 31))).toUInt32.toUInt16.toUInt32.toInt32))])) (fun _ hr => Jvm.Free.XT.i2c X77.here hx rfl (hb hby d5_58) rfl hr) ?_
  rw [own_gc hb2]
  exact Goes.ret (v := some (.int c2)) X77 (by decide) (by decide) (fun h => by rw [Bd.returns] at h; cases h) ⟨rfl, N0, e77⟩ (fun fs hr => retOut X77 hx Bd.returns (own_nw hb2) (Or.inl ⟨rfl, Or.inr (Or.inr (Or.inr (Or.inl rfl))), _, rfl⟩) (hb hby d5_59) hr)
def Q_rm_get3 (Z : State) (a2 : Addr) (k2 : ClassId) (c0 : Int32) (c1 : Int32) (c2 : Int32) (c3 : Int32) (h0 : Heap) (n0 : Nat) (v : Option Value) (h : Heap) (L : List Loc) : Prop := v = some (.int c3) ∧ Fr n0 L ∧ h = h0
set_option maxRecDepth 65536 in
set_option maxHeartbeats 40000000 in
theorem rm_get3 (l : Launch) (Z : State) (a0 : Array Value) (hw : ∀ d ∈ tables_1, d.before a0 Z = true) (ws : List Jvm.Cond) (a2 : Addr) (k2 : ClassId) (c0 : Int32) (c1 : Int32) (c2 : Int32) (c3 : Int32) (h0 : Heap) (n0 : Nat) (Z0 : n0 ≤ h0.size) (O0 : Old Z n0 h0) (V_a2 : Arv Z h0 a2 k2 .byte (8 : Int32) [(.int (bLo c0)), (.int (bHi c0)), (.int (bLo c1)), (.int (bHi c1)), (.int (bLo c2)), (.int (bHi c2)), (.int (bLo c3)), (.int (bHi c3))] (.int (0 : Int32))) (S_StringUTF16__assertionsDisabled_old : Sta Z Z.heap "java/lang/StringUTF16" "$assertionsDisabled" "Z" (.int (1 : Int32))) (S_StringUTF16_HI_BYTE_SHIFT_old : Sta Z Z.heap "java/lang/StringUTF16" "HI_BYTE_SHIFT" "I" (.int (0 : Int32))) (S_StringUTF16_LO_BYTE_SHIFT_old : Sta Z Z.heap "java/lang/StringUTF16" "LO_BYTE_SHIFT" "I" (.int (8 : Int32))) (hb3 : B16 c3) :
    MetFree l Y5 (head1 (Jvm.Cond.code Y5 jdk_52_method_5_code 2 (some .char) :: ws) ({ frames := 0, cells := 0, slots := 0, locals := 0 } : Room)) (fun a U => a = #[(.ref a2), (.int (3 : Int32))] ∧ Z.Warmed39 U.vm ∧ U.heap = h0) (fun _ _ _ _ _ => True) (fun _ U o U' => ∃ v L, o = .returned v ∧ Q_rm_get3 Z a2 k2 c0 c1 c2 c3 h0 n0 v U'.heap L ∧ FrameEnd U o U' L ({ frames := 0, cells := 0, slots := 0, locals := 0 } : Room).cells ({ frames := 0, cells := 0, slots := 0, locals := 0 } : Room).slots) := by
  refine MetFree.of_bodySF (plainFor_of_name pn_java_lang_StringUTF16) hisR ?_
  intro p e s m args below meth c s₁ Bd hml0 hP hK
  obtain ⟨rfl, hZ, hh⟩ := hP
  have hx := Bd.exec
  have hby := Bd.bytes
  have hml : c.maxLocals = 2 := hml0
  have hown : s.vm.findClass "java/lang/StringUTF16" = some m.cls := findClass_of_methodNamed Bd.named
  have hnm := (name_of_methodNamed Bd.named Bd.method).1
  have X0 : Stand p l e ({ frames := 0, cells := 0, slots := 0, locals := 0 } : Room) s m #[(.ref a2), (.int (3 : Int32))] below meth c s₁ [] 0 0 := Stand.of_body Bd
  have e0 : s₁.heap = h0 := by rw [← hh, Bd.state]; rfl
  have N0 := Fr.nil n0
  refine Goes.out (l := l) (c := c) (R := ({ frames := 0, cells := 0, slots := 0, locals := 0 } : Room)) (Q := Q_rm_get3 Z a2 k2 c0 c1 c2 c3 h0 n0) Bd.notSynchronized ?_
  refine Goes.cast (g2 := mkF m 0 #[rv a2, iv 3] []) (by first | (simp [entryFrame, mkF, argsToLocals, Value.category]; done) | rfl) ?_
  have K0 : Keep h0 h0 [] := Keep.refl h0 _
  have hws : ∀ x ∈ ([] : List Addr), n0 ≤ x := all0
  obtain ⟨T78, X78, e78, st78⟩ := getS2 X0 hx hZ hown (host := "") (Or.inl (tw hw 53 rfl)) Via.refl e0 (S_StringUTF16__assertionsDisabled_old.ext (Old.keep O0 K0 hws).2) (g := (mkF m 0 #[rv a2, iv 3] [])) rfl (hb hby d5_0)
  refine Goes.step (T2 := T78) (g2 := (mkF m 3 #[rv a2, iv 3] [(.int (1 : Int32))])) st78 ?_
  refine Goes.step (T2 := T78) (g2 := (mkF m 28 #[rv a2, iv 3] [])) (fun _ hr => XS.ifYes X78.here hx rfl (pc0 := 3) (pc' := 28) rfl (hb hby d5_3) rfl ((if0 _ _).trans (feq (by decide : ¬ ((1 : Int32) = (0 : Int32)))).2) (by decide) (by decide) hr) ?_
  refine Goes.step (T2 := T78) (g2 := (mkF m 29 #[rv a2, iv 3] [(.int (3 : Int32))])) (fun _ hr => XS.iloadN X78.here hx rfl (hb hby d5_28) rfl  hr) ?_
  refine Goes.step (T2 := T78) (g2 := (mkF m 30 #[rv a2, iv 3] [(.int (1 : Int32)), (.int (3 : Int32))])) (fun _ hr => XS.iconst X78.here hx rfl (hb hby d5_29) hr) ?_
  refine Goes.step (T2 := T78) (g2 := (mkF m 31 #[rv a2, iv 3] [(.int (6 : Int32))])) (fun _ hr => Jvm.Free.XT.ishl X78.here hx rfl (hb hby d5_30) rfl hr) ?_
  refine Goes.step (T2 := T78) (g2 := (mkF m 32 #[rv a2, iv 6] [])) (fun _ hr => XS.istoreN X78.here hx rfl (hb hby d5_31) rfl (l' := #[rv a2, iv 6]) rfl hr) ?_
  refine Goes.step (T2 := T78) (g2 := (mkF m 33 #[rv a2, iv 6] [(.ref a2)])) (fun _ hr => XS.aloadN X78.here hx rfl (hb hby d5_32) rfl rfl hr) ?_
  refine Goes.step (T2 := T78) (g2 := (mkF m 34 #[rv a2, iv 6] [(.int (6 : Int32)), (.ref a2)])) (fun _ hr => XS.iloadN X78.here hx rfl (hb hby d5_33) rfl  hr) ?_
  refine Goes.step (T2 := T78) (g2 := (mkF m 37 #[rv a2, iv 7] [(.int (6 : Int32)), (.ref a2)])) (fun _ hr => XS.iinc X78.here hx rfl (hb hby d5_34) rfl (l' := #[rv a2, iv 7]) rfl hr) ?_
  obtain ⟨cl79, Ar79, q79, S79, Nn79, H79, G79⟩ := id V_a2
  have hin79 : ¬ ((6 : Int32) < 0 ∨ cl79.slots.size ≤ ((6 : Int32)).toNatClampNeg) := inb_of S79 ⟨by decide, by decide⟩
  refine Goes.step (T2 := T78) (g2 := (mkF m 38 #[rv a2, iv 7] [(.int (bLo c3))])) (X78.baloadBytes hx (j := (6 : Int32)) (v := (.int (bLo c3))) (own_at e78 Ar79.1) (State.isArrayOf_alike hZ.alike Ar79.2.1) Ar79.2.2 hin79 (H79.at hin79 rfl) (g := (mkF m 37 #[rv a2, iv 7] [(.int (6 : Int32)), (.ref a2)])) rfl rfl (hb hby d5_37)) ?_
  refine Goes.step (T2 := T78) (g2 := (mkF m 41 #[rv a2, iv 7] [(.int (255 : Int32)), (.int (bLo c3))])) (fun _ hr => XS.sipush X78.here hx rfl (hb hby d5_38) hr) ?_
  refine Goes.step (T2 := T78) (g2 := (mkF m 42 #[rv a2, iv 7] [(.int ((bLo c3) &&& (255 : Int32)))])) (fun _ hr => XS.iand X78.here hx rfl (hb hby d5_41) rfl hr) ?_
  obtain ⟨T80, X80, e80, st80⟩ := getS2 X78 hx hZ hown (host := "") (Or.inl (tw hw 54 rfl)) Via.refl e78 (S_StringUTF16_HI_BYTE_SHIFT_old.ext (Old.keep O0 K0 hws).2) (g := (mkF m 42 #[rv a2, iv 7] [(.int ((bLo c3) &&& (255 : Int32)))])) rfl (hb hby d5_42)
  refine Goes.step (T2 := T80) (g2 := (mkF m 45 #[rv a2, iv 7] [(.int (0 : Int32)), (.int ((bLo c3) &&& (255 : Int32)))])) st80 ?_
  refine Goes.step (T2 := T80) (g2 := (mkF m 46 #[rv a2, iv 7] [(.int (((bLo c3) &&& (255 : Int32)) <<< ((0 : Int32) &&& 31)))])) (fun _ hr => Jvm.Free.XT.ishl X80.here hx rfl (hb hby d5_45) rfl hr) ?_
  refine Goes.step (T2 := T80) (g2 := (mkF m 47 #[rv a2, iv 7] [(.ref a2), (.int (((bLo c3) &&& (255 : Int32)) <<< ((0 : Int32) &&& 31)))])) (fun _ hr => XS.aloadN X80.here hx rfl (hb hby d5_46) rfl rfl hr) ?_
  refine Goes.step (T2 := T80) (g2 := (mkF m 48 #[rv a2, iv 7] [(.int (7 : Int32)), (.ref a2), (.int (((bLo c3) &&& (255 : Int32)) <<< ((0 : Int32) &&& 31)))])) (fun _ hr => XS.iloadN X80.here hx rfl (hb hby d5_47) rfl  hr) ?_
  obtain ⟨cl81, Ar81, q81, S81, Nn81, H81, G81⟩ := id V_a2
  have hin81 : ¬ ((7 : Int32) < 0 ∨ cl81.slots.size ≤ ((7 : Int32)).toNatClampNeg) := inb_of S81 ⟨by decide, by decide⟩
  refine Goes.step (T2 := T80) (g2 := (mkF m 49 #[rv a2, iv 7] [(.int (bHi c3)), (.int (((bLo c3) &&& (255 : Int32)) <<< ((0 : Int32) &&& 31)))])) (X80.baloadBytes hx (j := (7 : Int32)) (v := (.int (bHi c3))) (own_at e80 Ar81.1) (State.isArrayOf_alike hZ.alike Ar81.2.1) Ar81.2.2 hin81 (H81.at hin81 rfl) (g := (mkF m 48 #[rv a2, iv 7] [(.int (7 : Int32)), (.ref a2), (.int (((bLo c3) &&& (255 : Int32)) <<< ((0 : Int32) &&& 31)))])) rfl rfl (hb hby d5_48)) ?_
  refine Goes.step (T2 := T80) (g2 := (mkF m 52 #[rv a2, iv 7] [(.int (255 : Int32)), (.int (bHi c3)), (.int (((bLo c3) &&& (255 : Int32)) <<< ((0 : Int32) &&& 31)))])) (fun _ hr => XS.sipush X80.here hx rfl (hb hby d5_49) hr) ?_
  refine Goes.step (T2 := T80) (g2 := (mkF m 53 #[rv a2, iv 7] [(.int ((bHi c3) &&& (255 : Int32))), (.int (((bLo c3) &&& (255 : Int32)) <<< ((0 : Int32) &&& 31)))])) (fun _ hr => XS.iand X80.here hx rfl (hb hby d5_52) rfl hr) ?_
  obtain ⟨T82, X82, e82, st82⟩ := getS2 X80 hx hZ hown (host := "") (Or.inl (tw hw 55 rfl)) Via.refl e80 (S_StringUTF16_LO_BYTE_SHIFT_old.ext (Old.keep O0 K0 hws).2) (g := (mkF m 53 #[rv a2, iv 7] [(.int ((bHi c3) &&& (255 : Int32))), (.int (((bLo c3) &&& (255 : Int32)) <<< ((0 : Int32) &&& 31)))])) rfl (hb hby d5_53)
  refine Goes.step (T2 := T82) (g2 := (mkF m 56 #[rv a2, iv 7] [(.int (8 : Int32)), (.int ((bHi c3) &&& (255 : Int32))), (.int (((bLo c3) &&& (255 : Int32)) <<< ((0 : Int32) &&& 31)))])) st82 ?_
  refine Goes.step (T2 := T82) (g2 := (mkF m 57 #[rv a2, iv 7] [(.int (((bHi c3) &&& (255 : Int32)) <<< ((8 : Int32) &&& 31))), (.int (((bLo c3) &&& (255 : Int32)) <<< ((0 : Int32) &&& 31)))])) (fun _ hr => Jvm.Free.XT.ishl X82.here hx rfl (hb hby d5_56) rfl hr) ?_
  refine Goes.step (T2 := T82) (g2 := (mkF m 58 #[rv a2, iv 7] [(.int ((((bLo c3) &&& (255 : Int32)) <<< ((0 : Int32) &&& 31)) ||| (((bHi c3) &&& (255 : Int32)) <<< ((8 : Int32) &&& 31))))])) (fun _ hr => Jvm.Free.XT.ior X82.here hx rfl (hb hby d5_57) rfl hr) ?_
  refine Goes.step (T2 := T82) (g2 := (mkF m 59 #[rv a2, iv 7] [(.int (((((bLo c3) &&& (255 : Int32)) <<< ((0 : Int32) &&& 31)) ||| (((bHi c3) &&& (255 : Int32)) <<< ((8 : Int32) &&& 31))).toUInt32.toUInt16.toUInt32.toInt32))])) (fun _ hr => Jvm.Free.XT.i2c X82.here hx rfl (hb hby d5_58) rfl hr) ?_
  rw [own_gc hb3]
  exact Goes.ret (v := some (.int c3)) X82 (by decide) (by decide) (fun h => by rw [Bd.returns] at h; cases h) ⟨rfl, N0, e82⟩ (fun fs hr => retOut X82 hx Bd.returns (own_nw hb3) (Or.inl ⟨rfl, Or.inr (Or.inr (Or.inr (Or.inl rfl))), _, rfl⟩) (hb hby d5_59) hr)
theorem d6_0 : decode jdk_52_method_16_code 0 = .ok (.iload_n 2, 1) := by decide +kernel
theorem d6_1 : decode jdk_52_method_16_code 1 = .ok (.newarray .byte, 2) := by decide +kernel
theorem d6_3 : decode jdk_52_method_16_code 3 = .ok (.astore_n 3, 1) := by decide +kernel
theorem d6_4 : decode jdk_52_method_16_code 4 = .ok (.aload_n 0, 1) := by decide +kernel
theorem d6_5 : decode jdk_52_method_16_code 5 = .ok (.iload_n 1, 1) := by decide +kernel
theorem d6_6 : decode jdk_52_method_16_code 6 = .ok (.aload_n 3, 1) := by decide +kernel
theorem d6_7 : decode jdk_52_method_16_code 7 = .ok (.iconst 0, 1) := by decide +kernel
theorem d6_8 : decode jdk_52_method_16_code 8 = .ok (.iload_n 2, 1) := by decide +kernel
theorem d6_9 : decode jdk_52_method_16_code 9 = .ok (.invokestatic 115, 3) := by decide +kernel
theorem d6_12 : decode jdk_52_method_16_code 12 = .ok (.istore 4, 2) := by decide +kernel
theorem d6_14 : decode jdk_52_method_16_code 14 = .ok (.iload 4, 2) := by decide +kernel
theorem d6_16 : decode jdk_52_method_16_code 16 = .ok (.iload_n 2, 1) := by decide +kernel
theorem d6_17 : decode jdk_52_method_16_code 17 = .ok (.if_icmp .eq 40, 3) := by decide +kernel
theorem d6_20 : decode jdk_52_method_16_code 20 = .ok (.aload_n 0, 1) := by decide +kernel
theorem d6_21 : decode jdk_52_method_16_code 21 = .ok (.iload_n 1, 1) := by decide +kernel
theorem d6_22 : decode jdk_52_method_16_code 22 = .ok (.iload_n 2, 1) := by decide +kernel
theorem d6_23 : decode jdk_52_method_16_code 23 = .ok (.invokestatic 119, 3) := by decide +kernel
theorem d6_26 : decode jdk_52_method_16_code 26 = .ok (.astore 5, 2) := by decide +kernel
theorem d6_28 : decode jdk_52_method_16_code 28 = .ok (.aload 5, 2) := by decide +kernel
theorem d6_30 : decode jdk_52_method_16_code 30 = .ok (.iload 4, 2) := by decide +kernel
theorem d6_32 : decode jdk_52_method_16_code 32 = .ok (.invokestatic 71, 3) := by decide +kernel
theorem d6_35 : decode jdk_52_method_16_code 35 = .ok (.sipush 255, 3) := by decide +kernel
theorem d6_38 : decode jdk_52_method_16_code 38 = .ok (.if_icmp .gt 16, 3) := by decide +kernel
theorem d6_54 : decode jdk_52_method_16_code 54 = .ok (.aload 5, 2) := by decide +kernel
theorem d6_56 : decode jdk_52_method_16_code 56 = .ok (.areturn, 1) := by decide +kernel
def Q_rm_cmpn0 (Z : State) (a2 : Addr) (k2 : ClassId) (c0 : Int32) (c1 : Int32) (c2 : Int32) (c3 : Int32) (h0 : Heap) (n0 : Nat) (v : Option Value) (h : Heap) (L : List Loc) : Prop := ∃ w : Addr, ∃ kw : ClassId, v = some (.ref w) ∧ Fr n0 L ∧ Keep h0 h [] ∧ h0.size ≤ w ∧ Arv Z h w kw .byte (8 : Int32) [(.int (bLo c0)), (.int (bHi c0)), (.int (bLo c1)), (.int (bHi c1)), (.int (bLo c2)), (.int (bHi c2)), (.int (bLo c3)), (.int (bHi c3))] (.int (0 : Int32))
set_option maxRecDepth 65536 in
set_option maxHeartbeats 40000000 in
theorem rm_cmpn0 (l : Launch) (Z : State) (a0 : Array Value) (hw : ∀ d ∈ tables_1, d.before a0 Z = true) (ws : List Jvm.Cond) (a2 : Addr) (k2 : ClassId) (c0 : Int32) (c1 : Int32) (c2 : Int32) (c3 : Int32) (h0 : Heap) (n0 : Nat) (Z0 : n0 ≤ h0.size) (O0 : Old Z n0 h0) (V_a2 : Arv Z h0 a2 k2 .char (4 : Int32) [(.int c0), (.int c1), (.int c2), (.int c3)] (.int (0 : Int32))) (S_StringUTF16__assertionsDisabled_old : Sta Z Z.heap "java/lang/StringUTF16" "$assertionsDisabled" "Z" (.int (1 : Int32))) (S_StringUTF16_HI_BYTE_SHIFT_old : Sta Z Z.heap "java/lang/StringUTF16" "HI_BYTE_SHIFT" "I" (.int (0 : Int32))) (S_StringUTF16_LO_BYTE_SHIFT_old : Sta Z Z.heap "java/lang/StringUTF16" "LO_BYTE_SHIFT" "I" (.int (8 : Int32))) (hb0 : B16 c0) (hb1 : B16 c1) (hb2 : B16 c2) (hb3 : B16 c3) (hhigh0 : (255 : Int32) < c0) :
    MetFree l Y6 (head1 (Jvm.Cond.code Y6 jdk_52_method_16_code 6 (some (.array .byte)) :: ws) ({ frames := 3, cells := 2, slots := 12, locals := 40 } : Room)) (fun a U => a = #[(.ref a2), (.int (0 : Int32)), (.int (4 : Int32))] ∧ Z.Warmed39 U.vm ∧ U.heap = h0) (fun _ _ _ _ _ => True) (fun _ U o U' => ∃ v L, o = .returned v ∧ Q_rm_cmpn0 Z a2 k2 c0 c1 c2 c3 h0 n0 v U'.heap L ∧ FrameEnd U o U' L ({ frames := 3, cells := 2, slots := 12, locals := 40 } : Room).cells ({ frames := 3, cells := 2, slots := 12, locals := 40 } : Room).slots) := by
  refine MetFree.of_bodySF (plainFor_of_name pn_java_lang_StringUTF16) hisR ?_
  intro p e s m args below meth c s₁ Bd hml0 hP hK
  obtain ⟨rfl, hZ, hh⟩ := hP
  have hx := Bd.exec
  have hby := Bd.bytes
  have hml : c.maxLocals = 6 := hml0
  have hown : s.vm.findClass "java/lang/StringUTF16" = some m.cls := findClass_of_methodNamed Bd.named
  have hnm := (name_of_methodNamed Bd.named Bd.method).1
  have X0 : Stand p l e ({ frames := 3, cells := 2, slots := 12, locals := 40 } : Room) s m #[(.ref a2), (.int (0 : Int32)), (.int (4 : Int32))] below meth c s₁ [] 0 0 := Stand.of_body Bd
  have e0 : s₁.heap = h0 := by rw [← hh, Bd.state]; rfl
  have N0 := Fr.nil n0
  refine Goes.out (l := l) (c := c) (R := ({ frames := 3, cells := 2, slots := 12, locals := 40 } : Room)) (Q := Q_rm_cmpn0 Z a2 k2 c0 c1 c2 c3 h0 n0) Bd.notSynchronized ?_
  refine Goes.cast (g2 := mkF m 0 #[rv a2, iv 0, iv 4, .unset, .unset, .unset] []) (by first | (simp [entryFrame, mkF, argsToLocals, Value.category]; done) | rfl) ?_
  have K0 : Keep h0 h0 [] := Keep.refl h0 _
  have hws : ∀ x ∈ ([] : List Addr), n0 ≤ x := all0
  refine Goes.step (T2 := s₁) (g2 := (mkF m 1 #[rv a2, iv 0, iv 4, .unset, .unset, .unset] [(.int (4 : Int32))])) (fun _ hr => XS.iloadN X0.here hx rfl (hb hby d6_0) rfl  hr) ?_
  obtain ⟨T83, h83, k83, X83, e83, E83, A83, Ax83, st83⟩ := newPE X0 hx hZ (tw hw 21 rfl) e0 (g := (mkF m 1 #[rv a2, iv 0, iv 4, .unset, .unset, .unset] [(.int (4 : Int32))])) rfl (hb hby d6_1) rfl (by decide) (cap := 4) (by decide) (by decide) (by decide) (by decide) (ad := "[B") (by decide)
  obtain ⟨b83, g83⟩ : ∃ z, z = h0.size := ⟨_, rfl⟩
  rw [← g83] at A83 Ax83 st83
  have sz_b83 : h0.size ≤ b83 := Nat.le_trans K0.1 (Nat.le_of_eq g83.symm)
  have ge_b83 : n0 ≤ b83 := Nat.le_trans Z0 sz_b83
  have V_a2_83 : Arv Z h83 a2 k2 .char (4 : Int32) [(.int c0), (.int c1), (.int c2), (.int c3)] (.int (0 : Int32)) := V_a2.ext E83
  have K83 : Keep h0 h83 [] := K0.ext E83
  have V_b83_83 : Arv Z h83 b83 k83 .byte (4 : Int32) [] (.int (0 : Int32)) := Arv.new A83 (by decide)
  refine Goes.step (T2 := T83) (g2 := (mkF m 3 #[rv a2, iv 0, iv 4, .unset, .unset, .unset] [(.ref b83)])) st83 ?_
  have V_b83_p84 : Arv Z h83 b83 k83 .byte (4 : Int32) [(.int (0 : Int32)), (.int (0 : Int32)), (.int (0 : Int32)), (.int (0 : Int32))] (.int (0 : Int32)) := V_b83_83.pad (pad_rep [] (.int (0 : Int32)) 4)
  refine Goes.step (T2 := T83) (g2 := (mkF m 4 #[rv a2, iv 0, iv 4, rv b83, .unset, .unset] [])) (fun _ hr => XS.astoreN X83.here hx rfl (hb hby d6_3) rfl rfl (l' := #[rv a2, iv 0, iv 4, rv b83, .unset, .unset]) rfl hr) ?_
  refine Goes.step (T2 := T83) (g2 := (mkF m 5 #[rv a2, iv 0, iv 4, rv b83, .unset, .unset] [(.ref a2)])) (fun _ hr => XS.aloadN X83.here hx rfl (hb hby d6_4) rfl rfl hr) ?_
  refine Goes.step (T2 := T83) (g2 := (mkF m 6 #[rv a2, iv 0, iv 4, rv b83, .unset, .unset] [(.int (0 : Int32)), (.ref a2)])) (fun _ hr => XS.iloadN X83.here hx rfl (hb hby d6_5) rfl  hr) ?_
  refine Goes.step (T2 := T83) (g2 := (mkF m 7 #[rv a2, iv 0, iv 4, rv b83, .unset, .unset] [(.ref b83), (.int (0 : Int32)), (.ref a2)])) (fun _ hr => XS.aloadN X83.here hx rfl (hb hby d6_6) rfl rfl hr) ?_
  refine Goes.step (T2 := T83) (g2 := (mkF m 8 #[rv a2, iv 0, iv 4, rv b83, .unset, .unset] [(.int (0 : Int32)), (.ref b83), (.int (0 : Int32)), (.ref a2)])) (fun _ hr => XS.iconst X83.here hx rfl (hb hby d6_7) hr) ?_
  refine Goes.step (T2 := T83) (g2 := (mkF m 9 #[rv a2, iv 0, iv 4, rv b83, .unset, .unset] [(.int (4 : Int32)), (.int (0 : Int32)), (.ref b83), (.int (0 : Int32)), (.ref a2)])) (fun _ hr => XS.iloadN X83.here hx rfl (hb hby d6_8) rfl  hr) ?_
  have Zs85 : n0 ≤ h83.size := Nat.le_trans Z0 K83.1
  obtain ⟨_, _, ⟨T86, L86, k86, n86⟩, -, X86, ⟨Lc86, hQ86, l86, y86, z86⟩, st86⟩ := Jvm.LawKit.callS X83 hx (y := Y0) hown (mvT hZ (tw hw 22 rfl)) (mvT hZ (tw hw 23 rfl)) (mvT hZ (tw hw 19 rfl)) (mvT hZ (tw hw 24 rfl)) (by decide) (backOf (W := 0) (rm_cmp0 l Z a0 hw [] a2 k2 b83 k83 c0 c1 c2 c3 h83 n0 Zs85 (Old.keep O0 K83 hws) V_a2_83 V_b83_p84 ge_b83 (Nat.ne_of_lt (Nat.lt_of_lt_of_le V_a2.lt (Nat.le_of_eq g83.symm))) hhigh0) hZ (tw hw 24 rfl) (tw hw 19 rfl) (by decide) (by decide)) (g := (mkF m 9 #[rv a2, iv 0, iv 4, rv b83, .unset, .unset] [(.int (4 : Int32)), (.int (0 : Int32)), (.ref b83), (.int (0 : Int32)), (.ref a2)])) rfl (by rw [hml]; rfl) (argsL := [(.ref a2), (.int (0 : Int32)), (.ref b83), (.int (0 : Int32)), (.int (4 : Int32))]) (rest := []) (lenOf pd_3 rfl) rfl (by show 2 * 0 + _ ≤ _; exact Nat.le_of_eq rfl) (hb hby d6_9) (fun _ _ => ⟨rfl, e83, (by decide : 1 + 0 ≤ _), (by decide : 4 + 0 ≤ _)⟩)
  dsimp only [Pt.U, Pt.locs, Pt.cells, Pt.slots] at X86 l86 y86 z86 st86 hQ86
  subst l86 y86 z86
  obtain ⟨rfl, N86q, Kc86⟩ := hQ86
  have N86 := Fr.app N0 N86q
  have V_a2_86 : Arv Z T86.heap a2 k2 .char (4 : Int32) [(.int c0), (.int c1), (.int c2), (.int c3)] (.int (0 : Int32)) := V_a2_83.keep Kc86 (ninS (Nat.ne_of_lt (Nat.lt_of_lt_of_le V_a2.lt (Nat.le_of_eq g83.symm))) nin0)
  have E_b83_86 : Exa Z T86.heap b83 "[B" := Ax83.keep Kc86
  have K86 : Keep h0 T86.heap [] := K83.trans Kc86 (allS (Or.inr sz_b83) all0)
  refine Goes.step (T2 := T86) (g2 := (mkF m 12 #[rv a2, iv 0, iv 4, rv b83, .unset, .unset] [(.int (0 : Int32))])) st86 ?_
  refine Goes.step (T2 := T86) (g2 := (mkF m 14 #[rv a2, iv 0, iv 4, rv b83, iv 0, .unset] [])) (fun _ hr => XS.istore X86.here hx rfl (hb hby d6_12) rfl (l' := #[rv a2, iv 0, iv 4, rv b83, iv 0, .unset]) rfl hr) ?_
  refine Goes.step (T2 := T86) (g2 := (mkF m 16 #[rv a2, iv 0, iv 4, rv b83, iv 0, .unset] [(.int (0 : Int32))])) (fun _ hr => XS.iload X86.here hx rfl (hb hby d6_14) rfl  hr) ?_
  refine Goes.step (T2 := T86) (g2 := (mkF m 17 #[rv a2, iv 0, iv 4, rv b83, iv 0, .unset] [(.int (4 : Int32)), (.int (0 : Int32))])) (fun _ hr => XS.iloadN X86.here hx rfl (hb hby d6_16) rfl  hr) ?_
  refine Goes.step (T2 := T86) (g2 := (mkF m 20 #[rv a2, iv 0, iv 4, rv b83, iv 0, .unset] [])) (fun _ hr => XS.icmpNo X86.here hx rfl (hb hby d6_17) rfl (feq (by decide : ¬ ((0 : Int32) = (4 : Int32)))).1 hr) ?_
  refine Goes.step (T2 := T86) (g2 := (mkF m 21 #[rv a2, iv 0, iv 4, rv b83, iv 0, .unset] [(.ref a2)])) (fun _ hr => XS.aloadN X86.here hx rfl (hb hby d6_20) rfl rfl hr) ?_
  refine Goes.step (T2 := T86) (g2 := (mkF m 22 #[rv a2, iv 0, iv 4, rv b83, iv 0, .unset] [(.int (0 : Int32)), (.ref a2)])) (fun _ hr => XS.iloadN X86.here hx rfl (hb hby d6_21) rfl  hr) ?_
  refine Goes.step (T2 := T86) (g2 := (mkF m 23 #[rv a2, iv 0, iv 4, rv b83, iv 0, .unset] [(.int (4 : Int32)), (.int (0 : Int32)), (.ref a2)])) (fun _ hr => XS.iloadN X86.here hx rfl (hb hby d6_22) rfl  hr) ?_
  have Zs87 : n0 ≤ T86.heap.size := Nat.le_trans Z0 K86.1
  obtain ⟨_, _, ⟨T88, L88, k88, n88⟩, -, X88, ⟨Lc88, hQ88, l88, y88, z88⟩, st88⟩ := Jvm.LawKit.callS X86 hx (y := Y4) hown (mvT hZ (tw hw 40 rfl)) (mvT hZ (tw hw 41 rfl)) (mvT hZ (tw hw 19 rfl)) (mvT hZ (tw hw 42 rfl)) (by decide) (backOf (W := 0) (rm_tob16 l Z a0 hw [] a2 k2 c0 c1 c2 c3 T86.heap n0 Zs87 (Old.keep O0 K86 hws) V_a2_86 S_StringUTF16__assertionsDisabled_old S_StringUTF16_HI_BYTE_SHIFT_old S_StringUTF16_LO_BYTE_SHIFT_old) hZ (tw hw 42 rfl) (tw hw 19 rfl) (by decide) (by decide)) (g := (mkF m 23 #[rv a2, iv 0, iv 4, rv b83, iv 0, .unset] [(.int (4 : Int32)), (.int (0 : Int32)), (.ref a2)])) rfl (by rw [hml]; rfl) (argsL := [(.ref a2), (.int (0 : Int32)), (.int (4 : Int32))]) (rest := []) (lenOf pd_4 rfl) rfl (by show 2 * 0 + _ ≤ _; exact Nat.le_of_eq rfl) (hb hby d6_23) (fun _ _ => ⟨rfl, rfl, (by decide : 1 + 1 ≤ _), (by decide : 4 + 8 ≤ _)⟩)
  dsimp only [Pt.U, Pt.locs, Pt.cells, Pt.slots] at X88 l88 y88 z88 st88 hQ88
  subst l88 y88 z88
  obtain ⟨w88, kw88, rfl, N88q, Kc88, P88_0, P88_1⟩ := hQ88
  have N88 := Fr.app N86 N88q
  have V_a2_88 : Arv Z T88.heap a2 k2 .char (4 : Int32) [(.int c0), (.int c1), (.int c2), (.int c3)] (.int (0 : Int32)) := V_a2_86.keep Kc88 nin0
  have E_b83_88 : Exa Z T88.heap b83 "[B" := E_b83_86.keep Kc88
  have K88 : Keep h0 T88.heap [] := K86.trans Kc88 all0
  have sz_w88 : h0.size ≤ w88 := Nat.le_trans K86.1 P88_0
  have ge_w88 : n0 ≤ w88 := Nat.le_trans Z0 sz_w88
  have V_w88_88c : Arv Z T88.heap w88 kw88 .byte (8 : Int32) [(.int (bLo c0)), (.int (bHi c0)), (.int (bLo c1)), (.int (bHi c1)), (.int (bLo c2)), (.int (bHi c2)), (.int (bLo c3)), (.int (bHi c3))] (.int (0 : Int32)) := P88_1
  refine Goes.step (T2 := T88) (g2 := (mkF m 26 #[rv a2, iv 0, iv 4, rv b83, iv 0, .unset] [(.ref w88)])) st88 ?_
  refine Goes.step (T2 := T88) (g2 := (mkF m 28 #[rv a2, iv 0, iv 4, rv b83, iv 0, rv w88] [])) (fun _ hr => XS.astore X88.here hx rfl (hb hby d6_26) rfl rfl (l' := #[rv a2, iv 0, iv 4, rv b83, iv 0, rv w88]) rfl hr) ?_
  refine Goes.step (T2 := T88) (g2 := (mkF m 30 #[rv a2, iv 0, iv 4, rv b83, iv 0, rv w88] [(.ref w88)])) (fun _ hr => XS.aload X88.here hx rfl (hb hby d6_28) rfl rfl hr) ?_
  refine Goes.step (T2 := T88) (g2 := (mkF m 32 #[rv a2, iv 0, iv 4, rv b83, iv 0, rv w88] [(.int (0 : Int32)), (.ref w88)])) (fun _ hr => XS.iload X88.here hx rfl (hb hby d6_30) rfl  hr) ?_
  have Zs89 : n0 ≤ T88.heap.size := Nat.le_trans Z0 K88.1
  obtain ⟨_, _, ⟨T90, L90, k90, n90⟩, -, X90, ⟨Lc90, hQ90, l90, y90, z90⟩, st90⟩ := Jvm.LawKit.callS X88 hx (y := Y5) hown (mvT hZ (tw hw 56 rfl)) (mvT hZ (tw hw 57 rfl)) (mvT hZ (tw hw 19 rfl)) (mvT hZ (tw hw 58 rfl)) (by decide) (backOf (W := 0) (rm_get0 l Z a0 hw [] w88 kw88 c0 c1 c2 c3 T88.heap n0 Zs89 (Old.keep O0 K88 hws) V_w88_88c S_StringUTF16__assertionsDisabled_old S_StringUTF16_HI_BYTE_SHIFT_old S_StringUTF16_LO_BYTE_SHIFT_old hb0) hZ (tw hw 58 rfl) (tw hw 19 rfl) (by decide) (by decide)) (g := (mkF m 32 #[rv a2, iv 0, iv 4, rv b83, iv 0, rv w88] [(.int (0 : Int32)), (.ref w88)])) rfl (by rw [hml]; rfl) (argsL := [(.ref w88), (.int (0 : Int32))]) (rest := []) (lenOf pd_5 rfl) rfl (by show 2 * 0 + _ ≤ _; exact Nat.le_of_eq rfl) (hb hby d6_32) (fun _ _ => ⟨rfl, rfl, (by decide : 2 + 0 ≤ _), (by decide : 12 + 0 ≤ _)⟩)
  dsimp only [Pt.U, Pt.locs, Pt.cells, Pt.slots] at X90 l90 y90 z90 st90 hQ90
  subst l90 y90 z90
  obtain ⟨rfl, N90q, e90⟩ := hQ90
  have N90 := Fr.app N88 N90q
  refine Goes.step (T2 := T90) (g2 := (mkF m 35 #[rv a2, iv 0, iv 4, rv b83, iv 0, rv w88] [(.int c0)])) st90 ?_
  refine Goes.step (T2 := T90) (g2 := (mkF m 38 #[rv a2, iv 0, iv 4, rv b83, iv 0, rv w88] [(.int (255 : Int32)), (.int c0)])) (fun _ hr => XS.sipush X90.here hx rfl (hb hby d6_35) hr) ?_
  refine Goes.step (T2 := T90) (g2 := (mkF m 54 #[rv a2, iv 0, iv 4, rv b83, iv 0, rv w88] [])) (fun _ hr => XS.icmpYes X90.here hx rfl (pc0 := 38) (pc' := 54) rfl (hb hby d6_38) rfl (tlt (hhigh0 : (255 : Int32) < c0)).2.2.1 (by decide) (by decide) hr) ?_
  refine Goes.step (T2 := T90) (g2 := (mkF m 56 #[rv a2, iv 0, iv 4, rv b83, iv 0, rv w88] [(.ref w88)])) (fun _ hr => XS.aload X90.here hx rfl (hb hby d6_54) rfl rfl hr) ?_
  exact Goes.ret (v := some (.ref w88)) X90 (by decide) (by decide) (fun h => by rw [Bd.returns] at h; cases h) (by show Q_rm_cmpn0 Z a2 k2 c0 c1 c2 c3 h0 n0 _ T90.heap _; rw [e90]; exact ⟨w88, kw88, rfl, N90, K88, sz_w88, V_w88_88c⟩) (fun fs hr => retOut X90 hx Bd.returns rfl (Or.inr (Or.inr (Or.inr (Or.inr ⟨rfl, rfl, rfl⟩)))) (hb hby d6_56) hr)
def Q_rm_cmpn1 (Z : State) (a2 : Addr) (k2 : ClassId) (c0 : Int32) (c1 : Int32) (c2 : Int32) (c3 : Int32) (h0 : Heap) (n0 : Nat) (v : Option Value) (h : Heap) (L : List Loc) : Prop := ∃ w : Addr, ∃ kw : ClassId, v = some (.ref w) ∧ Fr n0 L ∧ Keep h0 h [] ∧ h0.size ≤ w ∧ Arv Z h w kw .byte (8 : Int32) [(.int (bLo c0)), (.int (bHi c0)), (.int (bLo c1)), (.int (bHi c1)), (.int (bLo c2)), (.int (bHi c2)), (.int (bLo c3)), (.int (bHi c3))] (.int (0 : Int32))
set_option maxRecDepth 65536 in
set_option maxHeartbeats 40000000 in
theorem rm_cmpn1 (l : Launch) (Z : State) (a0 : Array Value) (hw : ∀ d ∈ tables_1, d.before a0 Z = true) (ws : List Jvm.Cond) (a2 : Addr) (k2 : ClassId) (c0 : Int32) (c1 : Int32) (c2 : Int32) (c3 : Int32) (h0 : Heap) (n0 : Nat) (Z0 : n0 ≤ h0.size) (O0 : Old Z n0 h0) (V_a2 : Arv Z h0 a2 k2 .char (4 : Int32) [(.int c0), (.int c1), (.int c2), (.int c3)] (.int (0 : Int32))) (S_StringUTF16__assertionsDisabled_old : Sta Z Z.heap "java/lang/StringUTF16" "$assertionsDisabled" "Z" (.int (1 : Int32))) (S_StringUTF16_HI_BYTE_SHIFT_old : Sta Z Z.heap "java/lang/StringUTF16" "HI_BYTE_SHIFT" "I" (.int (0 : Int32))) (S_StringUTF16_LO_BYTE_SHIFT_old : Sta Z Z.heap "java/lang/StringUTF16" "LO_BYTE_SHIFT" "I" (.int (8 : Int32))) (hb0 : B16 c0) (hb1 : B16 c1) (hb2 : B16 c2) (hb3 : B16 c3) (hlow0 : ¬ ((255 : Int32) < c0)) (hhigh1 : (255 : Int32) < c1) :
    MetFree l Y6 (head1 (Jvm.Cond.code Y6 jdk_52_method_16_code 6 (some (.array .byte)) :: ws) ({ frames := 3, cells := 2, slots := 12, locals := 40 } : Room)) (fun a U => a = #[(.ref a2), (.int (0 : Int32)), (.int (4 : Int32))] ∧ Z.Warmed39 U.vm ∧ U.heap = h0) (fun _ _ _ _ _ => True) (fun _ U o U' => ∃ v L, o = .returned v ∧ Q_rm_cmpn1 Z a2 k2 c0 c1 c2 c3 h0 n0 v U'.heap L ∧ FrameEnd U o U' L ({ frames := 3, cells := 2, slots := 12, locals := 40 } : Room).cells ({ frames := 3, cells := 2, slots := 12, locals := 40 } : Room).slots) := by
  refine MetFree.of_bodySF (plainFor_of_name pn_java_lang_StringUTF16) hisR ?_
  intro p e s m args below meth c s₁ Bd hml0 hP hK
  obtain ⟨rfl, hZ, hh⟩ := hP
  have hx := Bd.exec
  have hby := Bd.bytes
  have hml : c.maxLocals = 6 := hml0
  have hown : s.vm.findClass "java/lang/StringUTF16" = some m.cls := findClass_of_methodNamed Bd.named
  have hnm := (name_of_methodNamed Bd.named Bd.method).1
  have X0 : Stand p l e ({ frames := 3, cells := 2, slots := 12, locals := 40 } : Room) s m #[(.ref a2), (.int (0 : Int32)), (.int (4 : Int32))] below meth c s₁ [] 0 0 := Stand.of_body Bd
  have e0 : s₁.heap = h0 := by rw [← hh, Bd.state]; rfl
  have N0 := Fr.nil n0
  refine Goes.out (l := l) (c := c) (R := ({ frames := 3, cells := 2, slots := 12, locals := 40 } : Room)) (Q := Q_rm_cmpn1 Z a2 k2 c0 c1 c2 c3 h0 n0) Bd.notSynchronized ?_
  refine Goes.cast (g2 := mkF m 0 #[rv a2, iv 0, iv 4, .unset, .unset, .unset] []) (by first | (simp [entryFrame, mkF, argsToLocals, Value.category]; done) | rfl) ?_
  have K0 : Keep h0 h0 [] := Keep.refl h0 _
  have hws : ∀ x ∈ ([] : List Addr), n0 ≤ x := all0
  refine Goes.step (T2 := s₁) (g2 := (mkF m 1 #[rv a2, iv 0, iv 4, .unset, .unset, .unset] [(.int (4 : Int32))])) (fun _ hr => XS.iloadN X0.here hx rfl (hb hby d6_0) rfl  hr) ?_
  obtain ⟨T91, h91, k91, X91, e91, E91, A91, Ax91, st91⟩ := newPE X0 hx hZ (tw hw 21 rfl) e0 (g := (mkF m 1 #[rv a2, iv 0, iv 4, .unset, .unset, .unset] [(.int (4 : Int32))])) rfl (hb hby d6_1) rfl (by decide) (cap := 4) (by decide) (by decide) (by decide) (by decide) (ad := "[B") (by decide)
  obtain ⟨b91, g91⟩ : ∃ z, z = h0.size := ⟨_, rfl⟩
  rw [← g91] at A91 Ax91 st91
  have sz_b91 : h0.size ≤ b91 := Nat.le_trans K0.1 (Nat.le_of_eq g91.symm)
  have ge_b91 : n0 ≤ b91 := Nat.le_trans Z0 sz_b91
  have V_a2_91 : Arv Z h91 a2 k2 .char (4 : Int32) [(.int c0), (.int c1), (.int c2), (.int c3)] (.int (0 : Int32)) := V_a2.ext E91
  have K91 : Keep h0 h91 [] := K0.ext E91
  have V_b91_91 : Arv Z h91 b91 k91 .byte (4 : Int32) [] (.int (0 : Int32)) := Arv.new A91 (by decide)
  refine Goes.step (T2 := T91) (g2 := (mkF m 3 #[rv a2, iv 0, iv 4, .unset, .unset, .unset] [(.ref b91)])) st91 ?_
  have V_b91_p92 : Arv Z h91 b91 k91 .byte (4 : Int32) [(.int (0 : Int32)), (.int (0 : Int32)), (.int (0 : Int32)), (.int (0 : Int32))] (.int (0 : Int32)) := V_b91_91.pad (pad_rep [] (.int (0 : Int32)) 4)
  refine Goes.step (T2 := T91) (g2 := (mkF m 4 #[rv a2, iv 0, iv 4, rv b91, .unset, .unset] [])) (fun _ hr => XS.astoreN X91.here hx rfl (hb hby d6_3) rfl rfl (l' := #[rv a2, iv 0, iv 4, rv b91, .unset, .unset]) rfl hr) ?_
  refine Goes.step (T2 := T91) (g2 := (mkF m 5 #[rv a2, iv 0, iv 4, rv b91, .unset, .unset] [(.ref a2)])) (fun _ hr => XS.aloadN X91.here hx rfl (hb hby d6_4) rfl rfl hr) ?_
  refine Goes.step (T2 := T91) (g2 := (mkF m 6 #[rv a2, iv 0, iv 4, rv b91, .unset, .unset] [(.int (0 : Int32)), (.ref a2)])) (fun _ hr => XS.iloadN X91.here hx rfl (hb hby d6_5) rfl  hr) ?_
  refine Goes.step (T2 := T91) (g2 := (mkF m 7 #[rv a2, iv 0, iv 4, rv b91, .unset, .unset] [(.ref b91), (.int (0 : Int32)), (.ref a2)])) (fun _ hr => XS.aloadN X91.here hx rfl (hb hby d6_6) rfl rfl hr) ?_
  refine Goes.step (T2 := T91) (g2 := (mkF m 8 #[rv a2, iv 0, iv 4, rv b91, .unset, .unset] [(.int (0 : Int32)), (.ref b91), (.int (0 : Int32)), (.ref a2)])) (fun _ hr => XS.iconst X91.here hx rfl (hb hby d6_7) hr) ?_
  refine Goes.step (T2 := T91) (g2 := (mkF m 9 #[rv a2, iv 0, iv 4, rv b91, .unset, .unset] [(.int (4 : Int32)), (.int (0 : Int32)), (.ref b91), (.int (0 : Int32)), (.ref a2)])) (fun _ hr => XS.iloadN X91.here hx rfl (hb hby d6_8) rfl  hr) ?_
  have Zs93 : n0 ≤ h91.size := Nat.le_trans Z0 K91.1
  obtain ⟨_, _, ⟨T94, L94, k94, n94⟩, -, X94, ⟨Lc94, hQ94, l94, y94, z94⟩, st94⟩ := Jvm.LawKit.callS X91 hx (y := Y0) hown (mvT hZ (tw hw 22 rfl)) (mvT hZ (tw hw 23 rfl)) (mvT hZ (tw hw 19 rfl)) (mvT hZ (tw hw 24 rfl)) (by decide) (backOf (W := 0) (rm_cmp1 l Z a0 hw [] a2 k2 b91 k91 c0 c1 c2 c3 h91 n0 Zs93 (Old.keep O0 K91 hws) V_a2_91 V_b91_p92 ge_b91 (Nat.ne_of_lt (Nat.lt_of_lt_of_le V_a2.lt (Nat.le_of_eq g91.symm))) hlow0 hhigh1) hZ (tw hw 24 rfl) (tw hw 19 rfl) (by decide) (by decide)) (g := (mkF m 9 #[rv a2, iv 0, iv 4, rv b91, .unset, .unset] [(.int (4 : Int32)), (.int (0 : Int32)), (.ref b91), (.int (0 : Int32)), (.ref a2)])) rfl (by rw [hml]; rfl) (argsL := [(.ref a2), (.int (0 : Int32)), (.ref b91), (.int (0 : Int32)), (.int (4 : Int32))]) (rest := []) (lenOf pd_3 rfl) rfl (by show 2 * 0 + _ ≤ _; exact Nat.le_of_eq rfl) (hb hby d6_9) (fun _ _ => ⟨rfl, e91, (by decide : 1 + 0 ≤ _), (by decide : 4 + 0 ≤ _)⟩)
  dsimp only [Pt.U, Pt.locs, Pt.cells, Pt.slots] at X94 l94 y94 z94 st94 hQ94
  subst l94 y94 z94
  obtain ⟨rfl, N94q, Kc94⟩ := hQ94
  have N94 := Fr.app N0 N94q
  have V_a2_94 : Arv Z T94.heap a2 k2 .char (4 : Int32) [(.int c0), (.int c1), (.int c2), (.int c3)] (.int (0 : Int32)) := V_a2_91.keep Kc94 (ninS (Nat.ne_of_lt (Nat.lt_of_lt_of_le V_a2.lt (Nat.le_of_eq g91.symm))) nin0)
  have E_b91_94 : Exa Z T94.heap b91 "[B" := Ax91.keep Kc94
  have K94 : Keep h0 T94.heap [] := K91.trans Kc94 (allS (Or.inr sz_b91) all0)
  refine Goes.step (T2 := T94) (g2 := (mkF m 12 #[rv a2, iv 0, iv 4, rv b91, .unset, .unset] [(.int (1 : Int32))])) st94 ?_
  refine Goes.step (T2 := T94) (g2 := (mkF m 14 #[rv a2, iv 0, iv 4, rv b91, iv 1, .unset] [])) (fun _ hr => XS.istore X94.here hx rfl (hb hby d6_12) rfl (l' := #[rv a2, iv 0, iv 4, rv b91, iv 1, .unset]) rfl hr) ?_
  refine Goes.step (T2 := T94) (g2 := (mkF m 16 #[rv a2, iv 0, iv 4, rv b91, iv 1, .unset] [(.int (1 : Int32))])) (fun _ hr => XS.iload X94.here hx rfl (hb hby d6_14) rfl  hr) ?_
  refine Goes.step (T2 := T94) (g2 := (mkF m 17 #[rv a2, iv 0, iv 4, rv b91, iv 1, .unset] [(.int (4 : Int32)), (.int (1 : Int32))])) (fun _ hr => XS.iloadN X94.here hx rfl (hb hby d6_16) rfl  hr) ?_
  refine Goes.step (T2 := T94) (g2 := (mkF m 20 #[rv a2, iv 0, iv 4, rv b91, iv 1, .unset] [])) (fun _ hr => XS.icmpNo X94.here hx rfl (hb hby d6_17) rfl (feq (by decide : ¬ ((1 : Int32) = (4 : Int32)))).1 hr) ?_
  refine Goes.step (T2 := T94) (g2 := (mkF m 21 #[rv a2, iv 0, iv 4, rv b91, iv 1, .unset] [(.ref a2)])) (fun _ hr => XS.aloadN X94.here hx rfl (hb hby d6_20) rfl rfl hr) ?_
  refine Goes.step (T2 := T94) (g2 := (mkF m 22 #[rv a2, iv 0, iv 4, rv b91, iv 1, .unset] [(.int (0 : Int32)), (.ref a2)])) (fun _ hr => XS.iloadN X94.here hx rfl (hb hby d6_21) rfl  hr) ?_
  refine Goes.step (T2 := T94) (g2 := (mkF m 23 #[rv a2, iv 0, iv 4, rv b91, iv 1, .unset] [(.int (4 : Int32)), (.int (0 : Int32)), (.ref a2)])) (fun _ hr => XS.iloadN X94.here hx rfl (hb hby d6_22) rfl  hr) ?_
  have Zs95 : n0 ≤ T94.heap.size := Nat.le_trans Z0 K94.1
  obtain ⟨_, _, ⟨T96, L96, k96, n96⟩, -, X96, ⟨Lc96, hQ96, l96, y96, z96⟩, st96⟩ := Jvm.LawKit.callS X94 hx (y := Y4) hown (mvT hZ (tw hw 40 rfl)) (mvT hZ (tw hw 41 rfl)) (mvT hZ (tw hw 19 rfl)) (mvT hZ (tw hw 42 rfl)) (by decide) (backOf (W := 0) (rm_tob16 l Z a0 hw [] a2 k2 c0 c1 c2 c3 T94.heap n0 Zs95 (Old.keep O0 K94 hws) V_a2_94 S_StringUTF16__assertionsDisabled_old S_StringUTF16_HI_BYTE_SHIFT_old S_StringUTF16_LO_BYTE_SHIFT_old) hZ (tw hw 42 rfl) (tw hw 19 rfl) (by decide) (by decide)) (g := (mkF m 23 #[rv a2, iv 0, iv 4, rv b91, iv 1, .unset] [(.int (4 : Int32)), (.int (0 : Int32)), (.ref a2)])) rfl (by rw [hml]; rfl) (argsL := [(.ref a2), (.int (0 : Int32)), (.int (4 : Int32))]) (rest := []) (lenOf pd_4 rfl) rfl (by show 2 * 0 + _ ≤ _; exact Nat.le_of_eq rfl) (hb hby d6_23) (fun _ _ => ⟨rfl, rfl, (by decide : 1 + 1 ≤ _), (by decide : 4 + 8 ≤ _)⟩)
  dsimp only [Pt.U, Pt.locs, Pt.cells, Pt.slots] at X96 l96 y96 z96 st96 hQ96
  subst l96 y96 z96
  obtain ⟨w96, kw96, rfl, N96q, Kc96, P96_0, P96_1⟩ := hQ96
  have N96 := Fr.app N94 N96q
  have V_a2_96 : Arv Z T96.heap a2 k2 .char (4 : Int32) [(.int c0), (.int c1), (.int c2), (.int c3)] (.int (0 : Int32)) := V_a2_94.keep Kc96 nin0
  have E_b91_96 : Exa Z T96.heap b91 "[B" := E_b91_94.keep Kc96
  have K96 : Keep h0 T96.heap [] := K94.trans Kc96 all0
  have sz_w96 : h0.size ≤ w96 := Nat.le_trans K94.1 P96_0
  have ge_w96 : n0 ≤ w96 := Nat.le_trans Z0 sz_w96
  have V_w96_96c : Arv Z T96.heap w96 kw96 .byte (8 : Int32) [(.int (bLo c0)), (.int (bHi c0)), (.int (bLo c1)), (.int (bHi c1)), (.int (bLo c2)), (.int (bHi c2)), (.int (bLo c3)), (.int (bHi c3))] (.int (0 : Int32)) := P96_1
  refine Goes.step (T2 := T96) (g2 := (mkF m 26 #[rv a2, iv 0, iv 4, rv b91, iv 1, .unset] [(.ref w96)])) st96 ?_
  refine Goes.step (T2 := T96) (g2 := (mkF m 28 #[rv a2, iv 0, iv 4, rv b91, iv 1, rv w96] [])) (fun _ hr => XS.astore X96.here hx rfl (hb hby d6_26) rfl rfl (l' := #[rv a2, iv 0, iv 4, rv b91, iv 1, rv w96]) rfl hr) ?_
  refine Goes.step (T2 := T96) (g2 := (mkF m 30 #[rv a2, iv 0, iv 4, rv b91, iv 1, rv w96] [(.ref w96)])) (fun _ hr => XS.aload X96.here hx rfl (hb hby d6_28) rfl rfl hr) ?_
  refine Goes.step (T2 := T96) (g2 := (mkF m 32 #[rv a2, iv 0, iv 4, rv b91, iv 1, rv w96] [(.int (1 : Int32)), (.ref w96)])) (fun _ hr => XS.iload X96.here hx rfl (hb hby d6_30) rfl  hr) ?_
  have Zs97 : n0 ≤ T96.heap.size := Nat.le_trans Z0 K96.1
  obtain ⟨_, _, ⟨T98, L98, k98, n98⟩, -, X98, ⟨Lc98, hQ98, l98, y98, z98⟩, st98⟩ := Jvm.LawKit.callS X96 hx (y := Y5) hown (mvT hZ (tw hw 56 rfl)) (mvT hZ (tw hw 57 rfl)) (mvT hZ (tw hw 19 rfl)) (mvT hZ (tw hw 58 rfl)) (by decide) (backOf (W := 0) (rm_get1 l Z a0 hw [] w96 kw96 c0 c1 c2 c3 T96.heap n0 Zs97 (Old.keep O0 K96 hws) V_w96_96c S_StringUTF16__assertionsDisabled_old S_StringUTF16_HI_BYTE_SHIFT_old S_StringUTF16_LO_BYTE_SHIFT_old hb1) hZ (tw hw 58 rfl) (tw hw 19 rfl) (by decide) (by decide)) (g := (mkF m 32 #[rv a2, iv 0, iv 4, rv b91, iv 1, rv w96] [(.int (1 : Int32)), (.ref w96)])) rfl (by rw [hml]; rfl) (argsL := [(.ref w96), (.int (1 : Int32))]) (rest := []) (lenOf pd_5 rfl) rfl (by show 2 * 0 + _ ≤ _; exact Nat.le_of_eq rfl) (hb hby d6_32) (fun _ _ => ⟨rfl, rfl, (by decide : 2 + 0 ≤ _), (by decide : 12 + 0 ≤ _)⟩)
  dsimp only [Pt.U, Pt.locs, Pt.cells, Pt.slots] at X98 l98 y98 z98 st98 hQ98
  subst l98 y98 z98
  obtain ⟨rfl, N98q, e98⟩ := hQ98
  have N98 := Fr.app N96 N98q
  refine Goes.step (T2 := T98) (g2 := (mkF m 35 #[rv a2, iv 0, iv 4, rv b91, iv 1, rv w96] [(.int c1)])) st98 ?_
  refine Goes.step (T2 := T98) (g2 := (mkF m 38 #[rv a2, iv 0, iv 4, rv b91, iv 1, rv w96] [(.int (255 : Int32)), (.int c1)])) (fun _ hr => XS.sipush X98.here hx rfl (hb hby d6_35) hr) ?_
  refine Goes.step (T2 := T98) (g2 := (mkF m 54 #[rv a2, iv 0, iv 4, rv b91, iv 1, rv w96] [])) (fun _ hr => XS.icmpYes X98.here hx rfl (pc0 := 38) (pc' := 54) rfl (hb hby d6_38) rfl (tlt (hhigh1 : (255 : Int32) < c1)).2.2.1 (by decide) (by decide) hr) ?_
  refine Goes.step (T2 := T98) (g2 := (mkF m 56 #[rv a2, iv 0, iv 4, rv b91, iv 1, rv w96] [(.ref w96)])) (fun _ hr => XS.aload X98.here hx rfl (hb hby d6_54) rfl rfl hr) ?_
  exact Goes.ret (v := some (.ref w96)) X98 (by decide) (by decide) (fun h => by rw [Bd.returns] at h; cases h) (by show Q_rm_cmpn1 Z a2 k2 c0 c1 c2 c3 h0 n0 _ T98.heap _; rw [e98]; exact ⟨w96, kw96, rfl, N98, K96, sz_w96, V_w96_96c⟩) (fun fs hr => retOut X98 hx Bd.returns rfl (Or.inr (Or.inr (Or.inr (Or.inr ⟨rfl, rfl, rfl⟩)))) (hb hby d6_56) hr)
def Q_rm_cmpn2 (Z : State) (a2 : Addr) (k2 : ClassId) (c0 : Int32) (c1 : Int32) (c2 : Int32) (c3 : Int32) (h0 : Heap) (n0 : Nat) (v : Option Value) (h : Heap) (L : List Loc) : Prop := ∃ w : Addr, ∃ kw : ClassId, v = some (.ref w) ∧ Fr n0 L ∧ Keep h0 h [] ∧ h0.size ≤ w ∧ Arv Z h w kw .byte (8 : Int32) [(.int (bLo c0)), (.int (bHi c0)), (.int (bLo c1)), (.int (bHi c1)), (.int (bLo c2)), (.int (bHi c2)), (.int (bLo c3)), (.int (bHi c3))] (.int (0 : Int32))
set_option maxRecDepth 65536 in
set_option maxHeartbeats 40000000 in
theorem rm_cmpn2 (l : Launch) (Z : State) (a0 : Array Value) (hw : ∀ d ∈ tables_1, d.before a0 Z = true) (ws : List Jvm.Cond) (a2 : Addr) (k2 : ClassId) (c0 : Int32) (c1 : Int32) (c2 : Int32) (c3 : Int32) (h0 : Heap) (n0 : Nat) (Z0 : n0 ≤ h0.size) (O0 : Old Z n0 h0) (V_a2 : Arv Z h0 a2 k2 .char (4 : Int32) [(.int c0), (.int c1), (.int c2), (.int c3)] (.int (0 : Int32))) (S_StringUTF16__assertionsDisabled_old : Sta Z Z.heap "java/lang/StringUTF16" "$assertionsDisabled" "Z" (.int (1 : Int32))) (S_StringUTF16_HI_BYTE_SHIFT_old : Sta Z Z.heap "java/lang/StringUTF16" "HI_BYTE_SHIFT" "I" (.int (0 : Int32))) (S_StringUTF16_LO_BYTE_SHIFT_old : Sta Z Z.heap "java/lang/StringUTF16" "LO_BYTE_SHIFT" "I" (.int (8 : Int32))) (hb0 : B16 c0) (hb1 : B16 c1) (hb2 : B16 c2) (hb3 : B16 c3) (hlow0 : ¬ ((255 : Int32) < c0)) (hlow1 : ¬ ((255 : Int32) < c1)) (hhigh2 : (255 : Int32) < c2) :
    MetFree l Y6 (head1 (Jvm.Cond.code Y6 jdk_52_method_16_code 6 (some (.array .byte)) :: ws) ({ frames := 3, cells := 2, slots := 12, locals := 40 } : Room)) (fun a U => a = #[(.ref a2), (.int (0 : Int32)), (.int (4 : Int32))] ∧ Z.Warmed39 U.vm ∧ U.heap = h0) (fun _ _ _ _ _ => True) (fun _ U o U' => ∃ v L, o = .returned v ∧ Q_rm_cmpn2 Z a2 k2 c0 c1 c2 c3 h0 n0 v U'.heap L ∧ FrameEnd U o U' L ({ frames := 3, cells := 2, slots := 12, locals := 40 } : Room).cells ({ frames := 3, cells := 2, slots := 12, locals := 40 } : Room).slots) := by
  refine MetFree.of_bodySF (plainFor_of_name pn_java_lang_StringUTF16) hisR ?_
  intro p e s m args below meth c s₁ Bd hml0 hP hK
  obtain ⟨rfl, hZ, hh⟩ := hP
  have hx := Bd.exec
  have hby := Bd.bytes
  have hml : c.maxLocals = 6 := hml0
  have hown : s.vm.findClass "java/lang/StringUTF16" = some m.cls := findClass_of_methodNamed Bd.named
  have hnm := (name_of_methodNamed Bd.named Bd.method).1
  have X0 : Stand p l e ({ frames := 3, cells := 2, slots := 12, locals := 40 } : Room) s m #[(.ref a2), (.int (0 : Int32)), (.int (4 : Int32))] below meth c s₁ [] 0 0 := Stand.of_body Bd
  have e0 : s₁.heap = h0 := by rw [← hh, Bd.state]; rfl
  have N0 := Fr.nil n0
  refine Goes.out (l := l) (c := c) (R := ({ frames := 3, cells := 2, slots := 12, locals := 40 } : Room)) (Q := Q_rm_cmpn2 Z a2 k2 c0 c1 c2 c3 h0 n0) Bd.notSynchronized ?_
  refine Goes.cast (g2 := mkF m 0 #[rv a2, iv 0, iv 4, .unset, .unset, .unset] []) (by first | (simp [entryFrame, mkF, argsToLocals, Value.category]; done) | rfl) ?_
  have K0 : Keep h0 h0 [] := Keep.refl h0 _
  have hws : ∀ x ∈ ([] : List Addr), n0 ≤ x := all0
  refine Goes.step (T2 := s₁) (g2 := (mkF m 1 #[rv a2, iv 0, iv 4, .unset, .unset, .unset] [(.int (4 : Int32))])) (fun _ hr => XS.iloadN X0.here hx rfl (hb hby d6_0) rfl  hr) ?_
  obtain ⟨T99, h99, k99, X99, e99, E99, A99, Ax99, st99⟩ := newPE X0 hx hZ (tw hw 21 rfl) e0 (g := (mkF m 1 #[rv a2, iv 0, iv 4, .unset, .unset, .unset] [(.int (4 : Int32))])) rfl (hb hby d6_1) rfl (by decide) (cap := 4) (by decide) (by decide) (by decide) (by decide) (ad := "[B") (by decide)
  obtain ⟨b99, g99⟩ : ∃ z, z = h0.size := ⟨_, rfl⟩
  rw [← g99] at A99 Ax99 st99
  have sz_b99 : h0.size ≤ b99 := Nat.le_trans K0.1 (Nat.le_of_eq g99.symm)
  have ge_b99 : n0 ≤ b99 := Nat.le_trans Z0 sz_b99
  have V_a2_99 : Arv Z h99 a2 k2 .char (4 : Int32) [(.int c0), (.int c1), (.int c2), (.int c3)] (.int (0 : Int32)) := V_a2.ext E99
  have K99 : Keep h0 h99 [] := K0.ext E99
  have V_b99_99 : Arv Z h99 b99 k99 .byte (4 : Int32) [] (.int (0 : Int32)) := Arv.new A99 (by decide)
  refine Goes.step (T2 := T99) (g2 := (mkF m 3 #[rv a2, iv 0, iv 4, .unset, .unset, .unset] [(.ref b99)])) st99 ?_
  have V_b99_p100 : Arv Z h99 b99 k99 .byte (4 : Int32) [(.int (0 : Int32)), (.int (0 : Int32)), (.int (0 : Int32)), (.int (0 : Int32))] (.int (0 : Int32)) := V_b99_99.pad (pad_rep [] (.int (0 : Int32)) 4)
  refine Goes.step (T2 := T99) (g2 := (mkF m 4 #[rv a2, iv 0, iv 4, rv b99, .unset, .unset] [])) (fun _ hr => XS.astoreN X99.here hx rfl (hb hby d6_3) rfl rfl (l' := #[rv a2, iv 0, iv 4, rv b99, .unset, .unset]) rfl hr) ?_
  refine Goes.step (T2 := T99) (g2 := (mkF m 5 #[rv a2, iv 0, iv 4, rv b99, .unset, .unset] [(.ref a2)])) (fun _ hr => XS.aloadN X99.here hx rfl (hb hby d6_4) rfl rfl hr) ?_
  refine Goes.step (T2 := T99) (g2 := (mkF m 6 #[rv a2, iv 0, iv 4, rv b99, .unset, .unset] [(.int (0 : Int32)), (.ref a2)])) (fun _ hr => XS.iloadN X99.here hx rfl (hb hby d6_5) rfl  hr) ?_
  refine Goes.step (T2 := T99) (g2 := (mkF m 7 #[rv a2, iv 0, iv 4, rv b99, .unset, .unset] [(.ref b99), (.int (0 : Int32)), (.ref a2)])) (fun _ hr => XS.aloadN X99.here hx rfl (hb hby d6_6) rfl rfl hr) ?_
  refine Goes.step (T2 := T99) (g2 := (mkF m 8 #[rv a2, iv 0, iv 4, rv b99, .unset, .unset] [(.int (0 : Int32)), (.ref b99), (.int (0 : Int32)), (.ref a2)])) (fun _ hr => XS.iconst X99.here hx rfl (hb hby d6_7) hr) ?_
  refine Goes.step (T2 := T99) (g2 := (mkF m 9 #[rv a2, iv 0, iv 4, rv b99, .unset, .unset] [(.int (4 : Int32)), (.int (0 : Int32)), (.ref b99), (.int (0 : Int32)), (.ref a2)])) (fun _ hr => XS.iloadN X99.here hx rfl (hb hby d6_8) rfl  hr) ?_
  have Zs101 : n0 ≤ h99.size := Nat.le_trans Z0 K99.1
  obtain ⟨_, _, ⟨T102, L102, k102, n102⟩, -, X102, ⟨Lc102, hQ102, l102, y102, z102⟩, st102⟩ := Jvm.LawKit.callS X99 hx (y := Y0) hown (mvT hZ (tw hw 22 rfl)) (mvT hZ (tw hw 23 rfl)) (mvT hZ (tw hw 19 rfl)) (mvT hZ (tw hw 24 rfl)) (by decide) (backOf (W := 0) (rm_cmp2 l Z a0 hw [] a2 k2 b99 k99 c0 c1 c2 c3 h99 n0 Zs101 (Old.keep O0 K99 hws) V_a2_99 V_b99_p100 ge_b99 (Nat.ne_of_lt (Nat.lt_of_lt_of_le V_a2.lt (Nat.le_of_eq g99.symm))) hlow0 hlow1 hhigh2) hZ (tw hw 24 rfl) (tw hw 19 rfl) (by decide) (by decide)) (g := (mkF m 9 #[rv a2, iv 0, iv 4, rv b99, .unset, .unset] [(.int (4 : Int32)), (.int (0 : Int32)), (.ref b99), (.int (0 : Int32)), (.ref a2)])) rfl (by rw [hml]; rfl) (argsL := [(.ref a2), (.int (0 : Int32)), (.ref b99), (.int (0 : Int32)), (.int (4 : Int32))]) (rest := []) (lenOf pd_3 rfl) rfl (by show 2 * 0 + _ ≤ _; exact Nat.le_of_eq rfl) (hb hby d6_9) (fun _ _ => ⟨rfl, e99, (by decide : 1 + 0 ≤ _), (by decide : 4 + 0 ≤ _)⟩)
  dsimp only [Pt.U, Pt.locs, Pt.cells, Pt.slots] at X102 l102 y102 z102 st102 hQ102
  subst l102 y102 z102
  obtain ⟨rfl, N102q, Kc102⟩ := hQ102
  have N102 := Fr.app N0 N102q
  have V_a2_102 : Arv Z T102.heap a2 k2 .char (4 : Int32) [(.int c0), (.int c1), (.int c2), (.int c3)] (.int (0 : Int32)) := V_a2_99.keep Kc102 (ninS (Nat.ne_of_lt (Nat.lt_of_lt_of_le V_a2.lt (Nat.le_of_eq g99.symm))) nin0)
  have E_b99_102 : Exa Z T102.heap b99 "[B" := Ax99.keep Kc102
  have K102 : Keep h0 T102.heap [] := K99.trans Kc102 (allS (Or.inr sz_b99) all0)
  refine Goes.step (T2 := T102) (g2 := (mkF m 12 #[rv a2, iv 0, iv 4, rv b99, .unset, .unset] [(.int (2 : Int32))])) st102 ?_
  refine Goes.step (T2 := T102) (g2 := (mkF m 14 #[rv a2, iv 0, iv 4, rv b99, iv 2, .unset] [])) (fun _ hr => XS.istore X102.here hx rfl (hb hby d6_12) rfl (l' := #[rv a2, iv 0, iv 4, rv b99, iv 2, .unset]) rfl hr) ?_
  refine Goes.step (T2 := T102) (g2 := (mkF m 16 #[rv a2, iv 0, iv 4, rv b99, iv 2, .unset] [(.int (2 : Int32))])) (fun _ hr => XS.iload X102.here hx rfl (hb hby d6_14) rfl  hr) ?_
  refine Goes.step (T2 := T102) (g2 := (mkF m 17 #[rv a2, iv 0, iv 4, rv b99, iv 2, .unset] [(.int (4 : Int32)), (.int (2 : Int32))])) (fun _ hr => XS.iloadN X102.here hx rfl (hb hby d6_16) rfl  hr) ?_
  refine Goes.step (T2 := T102) (g2 := (mkF m 20 #[rv a2, iv 0, iv 4, rv b99, iv 2, .unset] [])) (fun _ hr => XS.icmpNo X102.here hx rfl (hb hby d6_17) rfl (feq (by decide : ¬ ((2 : Int32) = (4 : Int32)))).1 hr) ?_
  refine Goes.step (T2 := T102) (g2 := (mkF m 21 #[rv a2, iv 0, iv 4, rv b99, iv 2, .unset] [(.ref a2)])) (fun _ hr => XS.aloadN X102.here hx rfl (hb hby d6_20) rfl rfl hr) ?_
  refine Goes.step (T2 := T102) (g2 := (mkF m 22 #[rv a2, iv 0, iv 4, rv b99, iv 2, .unset] [(.int (0 : Int32)), (.ref a2)])) (fun _ hr => XS.iloadN X102.here hx rfl (hb hby d6_21) rfl  hr) ?_
  refine Goes.step (T2 := T102) (g2 := (mkF m 23 #[rv a2, iv 0, iv 4, rv b99, iv 2, .unset] [(.int (4 : Int32)), (.int (0 : Int32)), (.ref a2)])) (fun _ hr => XS.iloadN X102.here hx rfl (hb hby d6_22) rfl  hr) ?_
  have Zs103 : n0 ≤ T102.heap.size := Nat.le_trans Z0 K102.1
  obtain ⟨_, _, ⟨T104, L104, k104, n104⟩, -, X104, ⟨Lc104, hQ104, l104, y104, z104⟩, st104⟩ := Jvm.LawKit.callS X102 hx (y := Y4) hown (mvT hZ (tw hw 40 rfl)) (mvT hZ (tw hw 41 rfl)) (mvT hZ (tw hw 19 rfl)) (mvT hZ (tw hw 42 rfl)) (by decide) (backOf (W := 0) (rm_tob16 l Z a0 hw [] a2 k2 c0 c1 c2 c3 T102.heap n0 Zs103 (Old.keep O0 K102 hws) V_a2_102 S_StringUTF16__assertionsDisabled_old S_StringUTF16_HI_BYTE_SHIFT_old S_StringUTF16_LO_BYTE_SHIFT_old) hZ (tw hw 42 rfl) (tw hw 19 rfl) (by decide) (by decide)) (g := (mkF m 23 #[rv a2, iv 0, iv 4, rv b99, iv 2, .unset] [(.int (4 : Int32)), (.int (0 : Int32)), (.ref a2)])) rfl (by rw [hml]; rfl) (argsL := [(.ref a2), (.int (0 : Int32)), (.int (4 : Int32))]) (rest := []) (lenOf pd_4 rfl) rfl (by show 2 * 0 + _ ≤ _; exact Nat.le_of_eq rfl) (hb hby d6_23) (fun _ _ => ⟨rfl, rfl, (by decide : 1 + 1 ≤ _), (by decide : 4 + 8 ≤ _)⟩)
  dsimp only [Pt.U, Pt.locs, Pt.cells, Pt.slots] at X104 l104 y104 z104 st104 hQ104
  subst l104 y104 z104
  obtain ⟨w104, kw104, rfl, N104q, Kc104, P104_0, P104_1⟩ := hQ104
  have N104 := Fr.app N102 N104q
  have V_a2_104 : Arv Z T104.heap a2 k2 .char (4 : Int32) [(.int c0), (.int c1), (.int c2), (.int c3)] (.int (0 : Int32)) := V_a2_102.keep Kc104 nin0
  have E_b99_104 : Exa Z T104.heap b99 "[B" := E_b99_102.keep Kc104
  have K104 : Keep h0 T104.heap [] := K102.trans Kc104 all0
  have sz_w104 : h0.size ≤ w104 := Nat.le_trans K102.1 P104_0
  have ge_w104 : n0 ≤ w104 := Nat.le_trans Z0 sz_w104
  have V_w104_104c : Arv Z T104.heap w104 kw104 .byte (8 : Int32) [(.int (bLo c0)), (.int (bHi c0)), (.int (bLo c1)), (.int (bHi c1)), (.int (bLo c2)), (.int (bHi c2)), (.int (bLo c3)), (.int (bHi c3))] (.int (0 : Int32)) := P104_1
  refine Goes.step (T2 := T104) (g2 := (mkF m 26 #[rv a2, iv 0, iv 4, rv b99, iv 2, .unset] [(.ref w104)])) st104 ?_
  refine Goes.step (T2 := T104) (g2 := (mkF m 28 #[rv a2, iv 0, iv 4, rv b99, iv 2, rv w104] [])) (fun _ hr => XS.astore X104.here hx rfl (hb hby d6_26) rfl rfl (l' := #[rv a2, iv 0, iv 4, rv b99, iv 2, rv w104]) rfl hr) ?_
  refine Goes.step (T2 := T104) (g2 := (mkF m 30 #[rv a2, iv 0, iv 4, rv b99, iv 2, rv w104] [(.ref w104)])) (fun _ hr => XS.aload X104.here hx rfl (hb hby d6_28) rfl rfl hr) ?_
  refine Goes.step (T2 := T104) (g2 := (mkF m 32 #[rv a2, iv 0, iv 4, rv b99, iv 2, rv w104] [(.int (2 : Int32)), (.ref w104)])) (fun _ hr => XS.iload X104.here hx rfl (hb hby d6_30) rfl  hr) ?_
  have Zs105 : n0 ≤ T104.heap.size := Nat.le_trans Z0 K104.1
  obtain ⟨_, _, ⟨T106, L106, k106, n106⟩, -, X106, ⟨Lc106, hQ106, l106, y106, z106⟩, st106⟩ := Jvm.LawKit.callS X104 hx (y := Y5) hown (mvT hZ (tw hw 56 rfl)) (mvT hZ (tw hw 57 rfl)) (mvT hZ (tw hw 19 rfl)) (mvT hZ (tw hw 58 rfl)) (by decide) (backOf (W := 0) (rm_get2 l Z a0 hw [] w104 kw104 c0 c1 c2 c3 T104.heap n0 Zs105 (Old.keep O0 K104 hws) V_w104_104c S_StringUTF16__assertionsDisabled_old S_StringUTF16_HI_BYTE_SHIFT_old S_StringUTF16_LO_BYTE_SHIFT_old hb2) hZ (tw hw 58 rfl) (tw hw 19 rfl) (by decide) (by decide)) (g := (mkF m 32 #[rv a2, iv 0, iv 4, rv b99, iv 2, rv w104] [(.int (2 : Int32)), (.ref w104)])) rfl (by rw [hml]; rfl) (argsL := [(.ref w104), (.int (2 : Int32))]) (rest := []) (lenOf pd_5 rfl) rfl (by show 2 * 0 + _ ≤ _; exact Nat.le_of_eq rfl) (hb hby d6_32) (fun _ _ => ⟨rfl, rfl, (by decide : 2 + 0 ≤ _), (by decide : 12 + 0 ≤ _)⟩)
  dsimp only [Pt.U, Pt.locs, Pt.cells, Pt.slots] at X106 l106 y106 z106 st106 hQ106
  subst l106 y106 z106
  obtain ⟨rfl, N106q, e106⟩ := hQ106
  have N106 := Fr.app N104 N106q
  refine Goes.step (T2 := T106) (g2 := (mkF m 35 #[rv a2, iv 0, iv 4, rv b99, iv 2, rv w104] [(.int c2)])) st106 ?_
  refine Goes.step (T2 := T106) (g2 := (mkF m 38 #[rv a2, iv 0, iv 4, rv b99, iv 2, rv w104] [(.int (255 : Int32)), (.int c2)])) (fun _ hr => XS.sipush X106.here hx rfl (hb hby d6_35) hr) ?_
  refine Goes.step (T2 := T106) (g2 := (mkF m 54 #[rv a2, iv 0, iv 4, rv b99, iv 2, rv w104] [])) (fun _ hr => XS.icmpYes X106.here hx rfl (pc0 := 38) (pc' := 54) rfl (hb hby d6_38) rfl (tlt (hhigh2 : (255 : Int32) < c2)).2.2.1 (by decide) (by decide) hr) ?_
  refine Goes.step (T2 := T106) (g2 := (mkF m 56 #[rv a2, iv 0, iv 4, rv b99, iv 2, rv w104] [(.ref w104)])) (fun _ hr => XS.aload X106.here hx rfl (hb hby d6_54) rfl rfl hr) ?_
  exact Goes.ret (v := some (.ref w104)) X106 (by decide) (by decide) (fun h => by rw [Bd.returns] at h; cases h) (by show Q_rm_cmpn2 Z a2 k2 c0 c1 c2 c3 h0 n0 _ T106.heap _; rw [e106]; exact ⟨w104, kw104, rfl, N106, K104, sz_w104, V_w104_104c⟩) (fun fs hr => retOut X106 hx Bd.returns rfl (Or.inr (Or.inr (Or.inr (Or.inr ⟨rfl, rfl, rfl⟩)))) (hb hby d6_56) hr)
def Q_rm_cmpn3 (Z : State) (a2 : Addr) (k2 : ClassId) (c0 : Int32) (c1 : Int32) (c2 : Int32) (c3 : Int32) (h0 : Heap) (n0 : Nat) (v : Option Value) (h : Heap) (L : List Loc) : Prop := ∃ w : Addr, ∃ kw : ClassId, v = some (.ref w) ∧ Fr n0 L ∧ Keep h0 h [] ∧ h0.size ≤ w ∧ Arv Z h w kw .byte (8 : Int32) [(.int (bLo c0)), (.int (bHi c0)), (.int (bLo c1)), (.int (bHi c1)), (.int (bLo c2)), (.int (bHi c2)), (.int (bLo c3)), (.int (bHi c3))] (.int (0 : Int32))
set_option maxRecDepth 65536 in
set_option maxHeartbeats 40000000 in
theorem rm_cmpn3 (l : Launch) (Z : State) (a0 : Array Value) (hw : ∀ d ∈ tables_1, d.before a0 Z = true) (ws : List Jvm.Cond) (a2 : Addr) (k2 : ClassId) (c0 : Int32) (c1 : Int32) (c2 : Int32) (c3 : Int32) (h0 : Heap) (n0 : Nat) (Z0 : n0 ≤ h0.size) (O0 : Old Z n0 h0) (V_a2 : Arv Z h0 a2 k2 .char (4 : Int32) [(.int c0), (.int c1), (.int c2), (.int c3)] (.int (0 : Int32))) (S_StringUTF16__assertionsDisabled_old : Sta Z Z.heap "java/lang/StringUTF16" "$assertionsDisabled" "Z" (.int (1 : Int32))) (S_StringUTF16_HI_BYTE_SHIFT_old : Sta Z Z.heap "java/lang/StringUTF16" "HI_BYTE_SHIFT" "I" (.int (0 : Int32))) (S_StringUTF16_LO_BYTE_SHIFT_old : Sta Z Z.heap "java/lang/StringUTF16" "LO_BYTE_SHIFT" "I" (.int (8 : Int32))) (hb0 : B16 c0) (hb1 : B16 c1) (hb2 : B16 c2) (hb3 : B16 c3) (hlow0 : ¬ ((255 : Int32) < c0)) (hlow1 : ¬ ((255 : Int32) < c1)) (hlow2 : ¬ ((255 : Int32) < c2)) (hhigh3 : (255 : Int32) < c3) :
    MetFree l Y6 (head1 (Jvm.Cond.code Y6 jdk_52_method_16_code 6 (some (.array .byte)) :: ws) ({ frames := 3, cells := 2, slots := 12, locals := 40 } : Room)) (fun a U => a = #[(.ref a2), (.int (0 : Int32)), (.int (4 : Int32))] ∧ Z.Warmed39 U.vm ∧ U.heap = h0) (fun _ _ _ _ _ => True) (fun _ U o U' => ∃ v L, o = .returned v ∧ Q_rm_cmpn3 Z a2 k2 c0 c1 c2 c3 h0 n0 v U'.heap L ∧ FrameEnd U o U' L ({ frames := 3, cells := 2, slots := 12, locals := 40 } : Room).cells ({ frames := 3, cells := 2, slots := 12, locals := 40 } : Room).slots) := by
  refine MetFree.of_bodySF (plainFor_of_name pn_java_lang_StringUTF16) hisR ?_
  intro p e s m args below meth c s₁ Bd hml0 hP hK
  obtain ⟨rfl, hZ, hh⟩ := hP
  have hx := Bd.exec
  have hby := Bd.bytes
  have hml : c.maxLocals = 6 := hml0
  have hown : s.vm.findClass "java/lang/StringUTF16" = some m.cls := findClass_of_methodNamed Bd.named
  have hnm := (name_of_methodNamed Bd.named Bd.method).1
  have X0 : Stand p l e ({ frames := 3, cells := 2, slots := 12, locals := 40 } : Room) s m #[(.ref a2), (.int (0 : Int32)), (.int (4 : Int32))] below meth c s₁ [] 0 0 := Stand.of_body Bd
  have e0 : s₁.heap = h0 := by rw [← hh, Bd.state]; rfl
  have N0 := Fr.nil n0
  refine Goes.out (l := l) (c := c) (R := ({ frames := 3, cells := 2, slots := 12, locals := 40 } : Room)) (Q := Q_rm_cmpn3 Z a2 k2 c0 c1 c2 c3 h0 n0) Bd.notSynchronized ?_
  refine Goes.cast (g2 := mkF m 0 #[rv a2, iv 0, iv 4, .unset, .unset, .unset] []) (by first | (simp [entryFrame, mkF, argsToLocals, Value.category]; done) | rfl) ?_
  have K0 : Keep h0 h0 [] := Keep.refl h0 _
  have hws : ∀ x ∈ ([] : List Addr), n0 ≤ x := all0
  refine Goes.step (T2 := s₁) (g2 := (mkF m 1 #[rv a2, iv 0, iv 4, .unset, .unset, .unset] [(.int (4 : Int32))])) (fun _ hr => XS.iloadN X0.here hx rfl (hb hby d6_0) rfl  hr) ?_
  obtain ⟨T107, h107, k107, X107, e107, E107, A107, Ax107, st107⟩ := newPE X0 hx hZ (tw hw 21 rfl) e0 (g := (mkF m 1 #[rv a2, iv 0, iv 4, .unset, .unset, .unset] [(.int (4 : Int32))])) rfl (hb hby d6_1) rfl (by decide) (cap := 4) (by decide) (by decide) (by decide) (by decide) (ad := "[B") (by decide)
  obtain ⟨b107, g107⟩ : ∃ z, z = h0.size := ⟨_, rfl⟩
  rw [← g107] at A107 Ax107 st107
  have sz_b107 : h0.size ≤ b107 := Nat.le_trans K0.1 (Nat.le_of_eq g107.symm)
  have ge_b107 : n0 ≤ b107 := Nat.le_trans Z0 sz_b107
  have V_a2_107 : Arv Z h107 a2 k2 .char (4 : Int32) [(.int c0), (.int c1), (.int c2), (.int c3)] (.int (0 : Int32)) := V_a2.ext E107
  have K107 : Keep h0 h107 [] := K0.ext E107
  have V_b107_107 : Arv Z h107 b107 k107 .byte (4 : Int32) [] (.int (0 : Int32)) := Arv.new A107 (by decide)
  refine Goes.step (T2 := T107) (g2 := (mkF m 3 #[rv a2, iv 0, iv 4, .unset, .unset, .unset] [(.ref b107)])) st107 ?_
  have V_b107_p108 : Arv Z h107 b107 k107 .byte (4 : Int32) [(.int (0 : Int32)), (.int (0 : Int32)), (.int (0 : Int32)), (.int (0 : Int32))] (.int (0 : Int32)) := V_b107_107.pad (pad_rep [] (.int (0 : Int32)) 4)
  refine Goes.step (T2 := T107) (g2 := (mkF m 4 #[rv a2, iv 0, iv 4, rv b107, .unset, .unset] [])) (fun _ hr => XS.astoreN X107.here hx rfl (hb hby d6_3) rfl rfl (l' := #[rv a2, iv 0, iv 4, rv b107, .unset, .unset]) rfl hr) ?_
  refine Goes.step (T2 := T107) (g2 := (mkF m 5 #[rv a2, iv 0, iv 4, rv b107, .unset, .unset] [(.ref a2)])) (fun _ hr => XS.aloadN X107.here hx rfl (hb hby d6_4) rfl rfl hr) ?_
  refine Goes.step (T2 := T107) (g2 := (mkF m 6 #[rv a2, iv 0, iv 4, rv b107, .unset, .unset] [(.int (0 : Int32)), (.ref a2)])) (fun _ hr => XS.iloadN X107.here hx rfl (hb hby d6_5) rfl  hr) ?_
  refine Goes.step (T2 := T107) (g2 := (mkF m 7 #[rv a2, iv 0, iv 4, rv b107, .unset, .unset] [(.ref b107), (.int (0 : Int32)), (.ref a2)])) (fun _ hr => XS.aloadN X107.here hx rfl (hb hby d6_6) rfl rfl hr) ?_
  refine Goes.step (T2 := T107) (g2 := (mkF m 8 #[rv a2, iv 0, iv 4, rv b107, .unset, .unset] [(.int (0 : Int32)), (.ref b107), (.int (0 : Int32)), (.ref a2)])) (fun _ hr => XS.iconst X107.here hx rfl (hb hby d6_7) hr) ?_
  refine Goes.step (T2 := T107) (g2 := (mkF m 9 #[rv a2, iv 0, iv 4, rv b107, .unset, .unset] [(.int (4 : Int32)), (.int (0 : Int32)), (.ref b107), (.int (0 : Int32)), (.ref a2)])) (fun _ hr => XS.iloadN X107.here hx rfl (hb hby d6_8) rfl  hr) ?_
  have Zs109 : n0 ≤ h107.size := Nat.le_trans Z0 K107.1
  obtain ⟨_, _, ⟨T110, L110, k110, n110⟩, -, X110, ⟨Lc110, hQ110, l110, y110, z110⟩, st110⟩ := Jvm.LawKit.callS X107 hx (y := Y0) hown (mvT hZ (tw hw 22 rfl)) (mvT hZ (tw hw 23 rfl)) (mvT hZ (tw hw 19 rfl)) (mvT hZ (tw hw 24 rfl)) (by decide) (backOf (W := 0) (rm_cmp3 l Z a0 hw [] a2 k2 b107 k107 c0 c1 c2 c3 h107 n0 Zs109 (Old.keep O0 K107 hws) V_a2_107 V_b107_p108 ge_b107 (Nat.ne_of_lt (Nat.lt_of_lt_of_le V_a2.lt (Nat.le_of_eq g107.symm))) hlow0 hlow1 hlow2 hhigh3) hZ (tw hw 24 rfl) (tw hw 19 rfl) (by decide) (by decide)) (g := (mkF m 9 #[rv a2, iv 0, iv 4, rv b107, .unset, .unset] [(.int (4 : Int32)), (.int (0 : Int32)), (.ref b107), (.int (0 : Int32)), (.ref a2)])) rfl (by rw [hml]; rfl) (argsL := [(.ref a2), (.int (0 : Int32)), (.ref b107), (.int (0 : Int32)), (.int (4 : Int32))]) (rest := []) (lenOf pd_3 rfl) rfl (by show 2 * 0 + _ ≤ _; exact Nat.le_of_eq rfl) (hb hby d6_9) (fun _ _ => ⟨rfl, e107, (by decide : 1 + 0 ≤ _), (by decide : 4 + 0 ≤ _)⟩)
  dsimp only [Pt.U, Pt.locs, Pt.cells, Pt.slots] at X110 l110 y110 z110 st110 hQ110
  subst l110 y110 z110
  obtain ⟨rfl, N110q, Kc110⟩ := hQ110
  have N110 := Fr.app N0 N110q
  have V_a2_110 : Arv Z T110.heap a2 k2 .char (4 : Int32) [(.int c0), (.int c1), (.int c2), (.int c3)] (.int (0 : Int32)) := V_a2_107.keep Kc110 (ninS (Nat.ne_of_lt (Nat.lt_of_lt_of_le V_a2.lt (Nat.le_of_eq g107.symm))) nin0)
  have E_b107_110 : Exa Z T110.heap b107 "[B" := Ax107.keep Kc110
  have K110 : Keep h0 T110.heap [] := K107.trans Kc110 (allS (Or.inr sz_b107) all0)
  refine Goes.step (T2 := T110) (g2 := (mkF m 12 #[rv a2, iv 0, iv 4, rv b107, .unset, .unset] [(.int (3 : Int32))])) st110 ?_
  refine Goes.step (T2 := T110) (g2 := (mkF m 14 #[rv a2, iv 0, iv 4, rv b107, iv 3, .unset] [])) (fun _ hr => XS.istore X110.here hx rfl (hb hby d6_12) rfl (l' := #[rv a2, iv 0, iv 4, rv b107, iv 3, .unset]) rfl hr) ?_
  refine Goes.step (T2 := T110) (g2 := (mkF m 16 #[rv a2, iv 0, iv 4, rv b107, iv 3, .unset] [(.int (3 : Int32))])) (fun _ hr => XS.iload X110.here hx rfl (hb hby d6_14) rfl  hr) ?_
  refine Goes.step (T2 := T110) (g2 := (mkF m 17 #[rv a2, iv 0, iv 4, rv b107, iv 3, .unset] [(.int (4 : Int32)), (.int (3 : Int32))])) (fun _ hr => XS.iloadN X110.here hx rfl (hb hby d6_16) rfl  hr) ?_
  refine Goes.step (T2 := T110) (g2 := (mkF m 20 #[rv a2, iv 0, iv 4, rv b107, iv 3, .unset] [])) (fun _ hr => XS.icmpNo X110.here hx rfl (hb hby d6_17) rfl (feq (by decide : ¬ ((3 : Int32) = (4 : Int32)))).1 hr) ?_
  refine Goes.step (T2 := T110) (g2 := (mkF m 21 #[rv a2, iv 0, iv 4, rv b107, iv 3, .unset] [(.ref a2)])) (fun _ hr => XS.aloadN X110.here hx rfl (hb hby d6_20) rfl rfl hr) ?_
  refine Goes.step (T2 := T110) (g2 := (mkF m 22 #[rv a2, iv 0, iv 4, rv b107, iv 3, .unset] [(.int (0 : Int32)), (.ref a2)])) (fun _ hr => XS.iloadN X110.here hx rfl (hb hby d6_21) rfl  hr) ?_
  refine Goes.step (T2 := T110) (g2 := (mkF m 23 #[rv a2, iv 0, iv 4, rv b107, iv 3, .unset] [(.int (4 : Int32)), (.int (0 : Int32)), (.ref a2)])) (fun _ hr => XS.iloadN X110.here hx rfl (hb hby d6_22) rfl  hr) ?_
  have Zs111 : n0 ≤ T110.heap.size := Nat.le_trans Z0 K110.1
  obtain ⟨_, _, ⟨T112, L112, k112, n112⟩, -, X112, ⟨Lc112, hQ112, l112, y112, z112⟩, st112⟩ := Jvm.LawKit.callS X110 hx (y := Y4) hown (mvT hZ (tw hw 40 rfl)) (mvT hZ (tw hw 41 rfl)) (mvT hZ (tw hw 19 rfl)) (mvT hZ (tw hw 42 rfl)) (by decide) (backOf (W := 0) (rm_tob16 l Z a0 hw [] a2 k2 c0 c1 c2 c3 T110.heap n0 Zs111 (Old.keep O0 K110 hws) V_a2_110 S_StringUTF16__assertionsDisabled_old S_StringUTF16_HI_BYTE_SHIFT_old S_StringUTF16_LO_BYTE_SHIFT_old) hZ (tw hw 42 rfl) (tw hw 19 rfl) (by decide) (by decide)) (g := (mkF m 23 #[rv a2, iv 0, iv 4, rv b107, iv 3, .unset] [(.int (4 : Int32)), (.int (0 : Int32)), (.ref a2)])) rfl (by rw [hml]; rfl) (argsL := [(.ref a2), (.int (0 : Int32)), (.int (4 : Int32))]) (rest := []) (lenOf pd_4 rfl) rfl (by show 2 * 0 + _ ≤ _; exact Nat.le_of_eq rfl) (hb hby d6_23) (fun _ _ => ⟨rfl, rfl, (by decide : 1 + 1 ≤ _), (by decide : 4 + 8 ≤ _)⟩)
  dsimp only [Pt.U, Pt.locs, Pt.cells, Pt.slots] at X112 l112 y112 z112 st112 hQ112
  subst l112 y112 z112
  obtain ⟨w112, kw112, rfl, N112q, Kc112, P112_0, P112_1⟩ := hQ112
  have N112 := Fr.app N110 N112q
  have V_a2_112 : Arv Z T112.heap a2 k2 .char (4 : Int32) [(.int c0), (.int c1), (.int c2), (.int c3)] (.int (0 : Int32)) := V_a2_110.keep Kc112 nin0
  have E_b107_112 : Exa Z T112.heap b107 "[B" := E_b107_110.keep Kc112
  have K112 : Keep h0 T112.heap [] := K110.trans Kc112 all0
  have sz_w112 : h0.size ≤ w112 := Nat.le_trans K110.1 P112_0
  have ge_w112 : n0 ≤ w112 := Nat.le_trans Z0 sz_w112
  have V_w112_112c : Arv Z T112.heap w112 kw112 .byte (8 : Int32) [(.int (bLo c0)), (.int (bHi c0)), (.int (bLo c1)), (.int (bHi c1)), (.int (bLo c2)), (.int (bHi c2)), (.int (bLo c3)), (.int (bHi c3))] (.int (0 : Int32)) := P112_1
  refine Goes.step (T2 := T112) (g2 := (mkF m 26 #[rv a2, iv 0, iv 4, rv b107, iv 3, .unset] [(.ref w112)])) st112 ?_
  refine Goes.step (T2 := T112) (g2 := (mkF m 28 #[rv a2, iv 0, iv 4, rv b107, iv 3, rv w112] [])) (fun _ hr => XS.astore X112.here hx rfl (hb hby d6_26) rfl rfl (l' := #[rv a2, iv 0, iv 4, rv b107, iv 3, rv w112]) rfl hr) ?_
  refine Goes.step (T2 := T112) (g2 := (mkF m 30 #[rv a2, iv 0, iv 4, rv b107, iv 3, rv w112] [(.ref w112)])) (fun _ hr => XS.aload X112.here hx rfl (hb hby d6_28) rfl rfl hr) ?_
  refine Goes.step (T2 := T112) (g2 := (mkF m 32 #[rv a2, iv 0, iv 4, rv b107, iv 3, rv w112] [(.int (3 : Int32)), (.ref w112)])) (fun _ hr => XS.iload X112.here hx rfl (hb hby d6_30) rfl  hr) ?_
  have Zs113 : n0 ≤ T112.heap.size := Nat.le_trans Z0 K112.1
  obtain ⟨_, _, ⟨T114, L114, k114, n114⟩, -, X114, ⟨Lc114, hQ114, l114, y114, z114⟩, st114⟩ := Jvm.LawKit.callS X112 hx (y := Y5) hown (mvT hZ (tw hw 56 rfl)) (mvT hZ (tw hw 57 rfl)) (mvT hZ (tw hw 19 rfl)) (mvT hZ (tw hw 58 rfl)) (by decide) (backOf (W := 0) (rm_get3 l Z a0 hw [] w112 kw112 c0 c1 c2 c3 T112.heap n0 Zs113 (Old.keep O0 K112 hws) V_w112_112c S_StringUTF16__assertionsDisabled_old S_StringUTF16_HI_BYTE_SHIFT_old S_StringUTF16_LO_BYTE_SHIFT_old hb3) hZ (tw hw 58 rfl) (tw hw 19 rfl) (by decide) (by decide)) (g := (mkF m 32 #[rv a2, iv 0, iv 4, rv b107, iv 3, rv w112] [(.int (3 : Int32)), (.ref w112)])) rfl (by rw [hml]; rfl) (argsL := [(.ref w112), (.int (3 : Int32))]) (rest := []) (lenOf pd_5 rfl) rfl (by show 2 * 0 + _ ≤ _; exact Nat.le_of_eq rfl) (hb hby d6_32) (fun _ _ => ⟨rfl, rfl, (by decide : 2 + 0 ≤ _), (by decide : 12 + 0 ≤ _)⟩)
  dsimp only [Pt.U, Pt.locs, Pt.cells, Pt.slots] at X114 l114 y114 z114 st114 hQ114
  subst l114 y114 z114
  obtain ⟨rfl, N114q, e114⟩ := hQ114
  have N114 := Fr.app N112 N114q
  refine Goes.step (T2 := T114) (g2 := (mkF m 35 #[rv a2, iv 0, iv 4, rv b107, iv 3, rv w112] [(.int c3)])) st114 ?_
  refine Goes.step (T2 := T114) (g2 := (mkF m 38 #[rv a2, iv 0, iv 4, rv b107, iv 3, rv w112] [(.int (255 : Int32)), (.int c3)])) (fun _ hr => XS.sipush X114.here hx rfl (hb hby d6_35) hr) ?_
  refine Goes.step (T2 := T114) (g2 := (mkF m 54 #[rv a2, iv 0, iv 4, rv b107, iv 3, rv w112] [])) (fun _ hr => XS.icmpYes X114.here hx rfl (pc0 := 38) (pc' := 54) rfl (hb hby d6_38) rfl (tlt (hhigh3 : (255 : Int32) < c3)).2.2.1 (by decide) (by decide) hr) ?_
  refine Goes.step (T2 := T114) (g2 := (mkF m 56 #[rv a2, iv 0, iv 4, rv b107, iv 3, rv w112] [(.ref w112)])) (fun _ hr => XS.aload X114.here hx rfl (hb hby d6_54) rfl rfl hr) ?_
  exact Goes.ret (v := some (.ref w112)) X114 (by decide) (by decide) (fun h => by rw [Bd.returns] at h; cases h) (by show Q_rm_cmpn3 Z a2 k2 c0 c1 c2 c3 h0 n0 _ T114.heap _; rw [e114]; exact ⟨w112, kw112, rfl, N114, K112, sz_w112, V_w112_112c⟩) (fun fs hr => retOut X114 hx Bd.returns rfl (Or.inr (Or.inr (Or.inr (Or.inr ⟨rfl, rfl, rfl⟩)))) (hb hby d6_56) hr)
theorem d6_57 : decode jdk_52_method_16_code 57 = .ok (.aload_n 3, 1) := by decide +kernel
theorem d6_58 : decode jdk_52_method_16_code 58 = .ok (.areturn, 1) := by decide +kernel
def Q_rm_cmpn4 (Z : State) (a2 : Addr) (k2 : ClassId) (c0 : Int32) (c1 : Int32) (c2 : Int32) (c3 : Int32) (h0 : Heap) (n0 : Nat) (v : Option Value) (h : Heap) (L : List Loc) : Prop := ∃ w : Addr, ∃ kw : ClassId, v = some (.ref w) ∧ Fr n0 L ∧ Keep h0 h [] ∧ h0.size ≤ w ∧ Arv Z h w kw .byte (4 : Int32) [(.int (bL1 c0)), (.int (bL1 c1)), (.int (bL1 c2)), (.int (bL1 c3))] (.int (0 : Int32))
set_option maxRecDepth 65536 in
set_option maxHeartbeats 40000000 in
theorem rm_cmpn4 (l : Launch) (Z : State) (a0 : Array Value) (hw : ∀ d ∈ tables_1, d.before a0 Z = true) (ws : List Jvm.Cond) (a2 : Addr) (k2 : ClassId) (c0 : Int32) (c1 : Int32) (c2 : Int32) (c3 : Int32) (h0 : Heap) (n0 : Nat) (Z0 : n0 ≤ h0.size) (O0 : Old Z n0 h0) (V_a2 : Arv Z h0 a2 k2 .char (4 : Int32) [(.int c0), (.int c1), (.int c2), (.int c3)] (.int (0 : Int32))) (S_StringUTF16__assertionsDisabled_old : Sta Z Z.heap "java/lang/StringUTF16" "$assertionsDisabled" "Z" (.int (1 : Int32))) (S_StringUTF16_HI_BYTE_SHIFT_old : Sta Z Z.heap "java/lang/StringUTF16" "HI_BYTE_SHIFT" "I" (.int (0 : Int32))) (S_StringUTF16_LO_BYTE_SHIFT_old : Sta Z Z.heap "java/lang/StringUTF16" "LO_BYTE_SHIFT" "I" (.int (8 : Int32))) (hb0 : B16 c0) (hb1 : B16 c1) (hb2 : B16 c2) (hb3 : B16 c3) (hlow0 : ¬ ((255 : Int32) < c0)) (hlow1 : ¬ ((255 : Int32) < c1)) (hlow2 : ¬ ((255 : Int32) < c2)) (hlow3 : ¬ ((255 : Int32) < c3)) :
    MetFree l Y6 (head1 (Jvm.Cond.code Y6 jdk_52_method_16_code 6 (some (.array .byte)) :: ws) ({ frames := 1, cells := 1, slots := 4, locals := 18 } : Room)) (fun a U => a = #[(.ref a2), (.int (0 : Int32)), (.int (4 : Int32))] ∧ Z.Warmed39 U.vm ∧ U.heap = h0) (fun _ _ _ _ _ => True) (fun _ U o U' => ∃ v L, o = .returned v ∧ Q_rm_cmpn4 Z a2 k2 c0 c1 c2 c3 h0 n0 v U'.heap L ∧ FrameEnd U o U' L ({ frames := 1, cells := 1, slots := 4, locals := 18 } : Room).cells ({ frames := 1, cells := 1, slots := 4, locals := 18 } : Room).slots) := by
  refine MetFree.of_bodySF (plainFor_of_name pn_java_lang_StringUTF16) hisR ?_
  intro p e s m args below meth c s₁ Bd hml0 hP hK
  obtain ⟨rfl, hZ, hh⟩ := hP
  have hx := Bd.exec
  have hby := Bd.bytes
  have hml : c.maxLocals = 6 := hml0
  have hown : s.vm.findClass "java/lang/StringUTF16" = some m.cls := findClass_of_methodNamed Bd.named
  have hnm := (name_of_methodNamed Bd.named Bd.method).1
  have X0 : Stand p l e ({ frames := 1, cells := 1, slots := 4, locals := 18 } : Room) s m #[(.ref a2), (.int (0 : Int32)), (.int (4 : Int32))] below meth c s₁ [] 0 0 := Stand.of_body Bd
  have e0 : s₁.heap = h0 := by rw [← hh, Bd.state]; rfl
  have N0 := Fr.nil n0
  refine Goes.out (l := l) (c := c) (R := ({ frames := 1, cells := 1, slots := 4, locals := 18 } : Room)) (Q := Q_rm_cmpn4 Z a2 k2 c0 c1 c2 c3 h0 n0) Bd.notSynchronized ?_
  refine Goes.cast (g2 := mkF m 0 #[rv a2, iv 0, iv 4, .unset, .unset, .unset] []) (by first | (simp [entryFrame, mkF, argsToLocals, Value.category]; done) | rfl) ?_
  have K0 : Keep h0 h0 [] := Keep.refl h0 _
  have hws : ∀ x ∈ ([] : List Addr), n0 ≤ x := all0
  refine Goes.step (T2 := s₁) (g2 := (mkF m 1 #[rv a2, iv 0, iv 4, .unset, .unset, .unset] [(.int (4 : Int32))])) (fun _ hr => XS.iloadN X0.here hx rfl (hb hby d6_0) rfl  hr) ?_
  obtain ⟨T115, h115, k115, X115, e115, E115, A115, Ax115, st115⟩ := newPE X0 hx hZ (tw hw 21 rfl) e0 (g := (mkF m 1 #[rv a2, iv 0, iv 4, .unset, .unset, .unset] [(.int (4 : Int32))])) rfl (hb hby d6_1) rfl (by decide) (cap := 4) (by decide) (by decide) (by decide) (by decide) (ad := "[B") (by decide)
  obtain ⟨b115, g115⟩ : ∃ z, z = h0.size := ⟨_, rfl⟩
  rw [← g115] at A115 Ax115 st115
  have sz_b115 : h0.size ≤ b115 := Nat.le_trans K0.1 (Nat.le_of_eq g115.symm)
  have ge_b115 : n0 ≤ b115 := Nat.le_trans Z0 sz_b115
  have V_a2_115 : Arv Z h115 a2 k2 .char (4 : Int32) [(.int c0), (.int c1), (.int c2), (.int c3)] (.int (0 : Int32)) := V_a2.ext E115
  have K115 : Keep h0 h115 [] := K0.ext E115
  have V_b115_115 : Arv Z h115 b115 k115 .byte (4 : Int32) [] (.int (0 : Int32)) := Arv.new A115 (by decide)
  refine Goes.step (T2 := T115) (g2 := (mkF m 3 #[rv a2, iv 0, iv 4, .unset, .unset, .unset] [(.ref b115)])) st115 ?_
  have V_b115_p116 : Arv Z h115 b115 k115 .byte (4 : Int32) [(.int (0 : Int32)), (.int (0 : Int32)), (.int (0 : Int32)), (.int (0 : Int32))] (.int (0 : Int32)) := V_b115_115.pad (pad_rep [] (.int (0 : Int32)) 4)
  refine Goes.step (T2 := T115) (g2 := (mkF m 4 #[rv a2, iv 0, iv 4, rv b115, .unset, .unset] [])) (fun _ hr => XS.astoreN X115.here hx rfl (hb hby d6_3) rfl rfl (l' := #[rv a2, iv 0, iv 4, rv b115, .unset, .unset]) rfl hr) ?_
  refine Goes.step (T2 := T115) (g2 := (mkF m 5 #[rv a2, iv 0, iv 4, rv b115, .unset, .unset] [(.ref a2)])) (fun _ hr => XS.aloadN X115.here hx rfl (hb hby d6_4) rfl rfl hr) ?_
  refine Goes.step (T2 := T115) (g2 := (mkF m 6 #[rv a2, iv 0, iv 4, rv b115, .unset, .unset] [(.int (0 : Int32)), (.ref a2)])) (fun _ hr => XS.iloadN X115.here hx rfl (hb hby d6_5) rfl  hr) ?_
  refine Goes.step (T2 := T115) (g2 := (mkF m 7 #[rv a2, iv 0, iv 4, rv b115, .unset, .unset] [(.ref b115), (.int (0 : Int32)), (.ref a2)])) (fun _ hr => XS.aloadN X115.here hx rfl (hb hby d6_6) rfl rfl hr) ?_
  refine Goes.step (T2 := T115) (g2 := (mkF m 8 #[rv a2, iv 0, iv 4, rv b115, .unset, .unset] [(.int (0 : Int32)), (.ref b115), (.int (0 : Int32)), (.ref a2)])) (fun _ hr => XS.iconst X115.here hx rfl (hb hby d6_7) hr) ?_
  refine Goes.step (T2 := T115) (g2 := (mkF m 9 #[rv a2, iv 0, iv 4, rv b115, .unset, .unset] [(.int (4 : Int32)), (.int (0 : Int32)), (.ref b115), (.int (0 : Int32)), (.ref a2)])) (fun _ hr => XS.iloadN X115.here hx rfl (hb hby d6_8) rfl  hr) ?_
  have Zs117 : n0 ≤ h115.size := Nat.le_trans Z0 K115.1
  obtain ⟨_, _, ⟨T118, L118, k118, n118⟩, -, X118, ⟨Lc118, hQ118, l118, y118, z118⟩, st118⟩ := Jvm.LawKit.callS X115 hx (y := Y0) hown (mvT hZ (tw hw 22 rfl)) (mvT hZ (tw hw 23 rfl)) (mvT hZ (tw hw 19 rfl)) (mvT hZ (tw hw 24 rfl)) (by decide) (backOf (W := 0) (rm_cmp4 l Z a0 hw [] a2 k2 b115 k115 c0 c1 c2 c3 h115 n0 Zs117 (Old.keep O0 K115 hws) V_a2_115 V_b115_p116 ge_b115 (Nat.ne_of_lt (Nat.lt_of_lt_of_le V_a2.lt (Nat.le_of_eq g115.symm))) hlow0 hlow1 hlow2 hlow3) hZ (tw hw 24 rfl) (tw hw 19 rfl) (by decide) (by decide)) (g := (mkF m 9 #[rv a2, iv 0, iv 4, rv b115, .unset, .unset] [(.int (4 : Int32)), (.int (0 : Int32)), (.ref b115), (.int (0 : Int32)), (.ref a2)])) rfl (by rw [hml]; rfl) (argsL := [(.ref a2), (.int (0 : Int32)), (.ref b115), (.int (0 : Int32)), (.int (4 : Int32))]) (rest := []) (lenOf pd_3 rfl) rfl (by show 2 * 0 + _ ≤ _; exact Nat.le_of_eq rfl) (hb hby d6_9) (fun _ _ => ⟨rfl, e115, (by decide : 1 + 0 ≤ _), (by decide : 4 + 0 ≤ _)⟩)
  dsimp only [Pt.U, Pt.locs, Pt.cells, Pt.slots] at X118 l118 y118 z118 st118 hQ118
  subst l118 y118 z118
  obtain ⟨rfl, N118q, Kc118, P118_0⟩ := hQ118
  have N118 := Fr.app N0 N118q
  have V_a2_118 : Arv Z T118.heap a2 k2 .char (4 : Int32) [(.int c0), (.int c1), (.int c2), (.int c3)] (.int (0 : Int32)) := V_a2_115.keep Kc118 (ninS (Nat.ne_of_lt (Nat.lt_of_lt_of_le V_a2.lt (Nat.le_of_eq g115.symm))) nin0)
  have E_b115_118 : Exa Z T118.heap b115 "[B" := Ax115.keep Kc118
  have K118 : Keep h0 T118.heap [] := K115.trans Kc118 (allS (Or.inr sz_b115) all0)
  have V_b115_118c : Arv Z T118.heap b115 k115 .byte (4 : Int32) [(.int (bL1 c0)), (.int (bL1 c1)), (.int (bL1 c2)), (.int (bL1 c3))] (.int (0 : Int32)) := P118_0
  refine Goes.step (T2 := T118) (g2 := (mkF m 12 #[rv a2, iv 0, iv 4, rv b115, .unset, .unset] [(.int (4 : Int32))])) st118 ?_
  refine Goes.step (T2 := T118) (g2 := (mkF m 14 #[rv a2, iv 0, iv 4, rv b115, iv 4, .unset] [])) (fun _ hr => XS.istore X118.here hx rfl (hb hby d6_12) rfl (l' := #[rv a2, iv 0, iv 4, rv b115, iv 4, .unset]) rfl hr) ?_
  refine Goes.step (T2 := T118) (g2 := (mkF m 16 #[rv a2, iv 0, iv 4, rv b115, iv 4, .unset] [(.int (4 : Int32))])) (fun _ hr => XS.iload X118.here hx rfl (hb hby d6_14) rfl  hr) ?_
  refine Goes.step (T2 := T118) (g2 := (mkF m 17 #[rv a2, iv 0, iv 4, rv b115, iv 4, .unset] [(.int (4 : Int32)), (.int (4 : Int32))])) (fun _ hr => XS.iloadN X118.here hx rfl (hb hby d6_16) rfl  hr) ?_
  refine Goes.step (T2 := T118) (g2 := (mkF m 57 #[rv a2, iv 0, iv 4, rv b115, iv 4, .unset] [])) (fun _ hr => XS.icmpYes X118.here hx rfl (pc0 := 17) (pc' := 57) rfl (hb hby d6_17) rfl (teq (by decide : (4 : Int32) = (4 : Int32))).1 (by decide) (by decide) hr) ?_
  refine Goes.step (T2 := T118) (g2 := (mkF m 58 #[rv a2, iv 0, iv 4, rv b115, iv 4, .unset] [(.ref b115)])) (fun _ hr => XS.aloadN X118.here hx rfl (hb hby d6_57) rfl rfl hr) ?_
  exact Goes.ret (v := some (.ref b115)) X118 (by decide) (by decide) (fun h => by rw [Bd.returns] at h; cases h) (by show Q_rm_cmpn4 Z a2 k2 c0 c1 c2 c3 h0 n0 _ T118.heap _; exact ⟨b115, k115, rfl, N118, K118, sz_b115, V_b115_118c⟩) (fun fs hr => retOut X118 hx Bd.returns rfl (Or.inr (Or.inr (Or.inr (Or.inr ⟨rfl, rfl, rfl⟩)))) (hb hby d6_58) hr)
theorem d7_0 : decode jdk_52_method_15_code 0 = .ok (.iload_n 1, 1) := by decide +kernel
theorem d7_1 : decode jdk_52_method_15_code 1 = .ok (.aload_n 0, 1) := by decide +kernel
theorem d7_2 : decode jdk_52_method_15_code 2 = .ok (.arraylength, 1) := by decide +kernel
theorem d7_3 : decode jdk_52_method_15_code 3 = .ok (.isub, 1) := by decide +kernel
theorem d7_4 : decode jdk_52_method_15_code 4 = .ok (.bipush 31, 2) := by decide +kernel
theorem d7_6 : decode jdk_52_method_15_code 6 = .ok (.iushr, 1) := by decide +kernel
theorem d7_7 : decode jdk_52_method_15_code 7 = .ok (.i2b, 1) := by decide +kernel
theorem d7_8 : decode jdk_52_method_15_code 8 = .ok (.ireturn, 1) := by decide +kernel
def Q_rm_cod0 (Z : State) (a2 : Addr) (k2 : ClassId) (c0 : Int32) (c1 : Int32) (c2 : Int32) (c3 : Int32) (h0 : Heap) (n0 : Nat) (v : Option Value) (h : Heap) (L : List Loc) : Prop := v = some (.int (0 : Int32)) ∧ Fr n0 L ∧ h = h0
set_option maxRecDepth 65536 in
set_option maxHeartbeats 40000000 in
theorem rm_cod0 (l : Launch) (Z : State) (a0 : Array Value) (hw : ∀ d ∈ tables_1, d.before a0 Z = true) (ws : List Jvm.Cond) (a2 : Addr) (k2 : ClassId) (c0 : Int32) (c1 : Int32) (c2 : Int32) (c3 : Int32) (h0 : Heap) (n0 : Nat) (Z0 : n0 ≤ h0.size) (O0 : Old Z n0 h0) (V_a2 : Arv Z h0 a2 k2 .byte (4 : Int32) [(.int (bL1 c0)), (.int (bL1 c1)), (.int (bL1 c2)), (.int (bL1 c3))] (.int (0 : Int32))) :
    MetFree l Y7 (head1 (Jvm.Cond.code Y7 jdk_52_method_15_code 2 (some .byte) :: ws) ({ frames := 0, cells := 0, slots := 0, locals := 0 } : Room)) (fun a U => a = #[(.ref a2), (.int (4 : Int32))] ∧ Z.Warmed39 U.vm ∧ U.heap = h0) (fun _ _ _ _ _ => True) (fun _ U o U' => ∃ v L, o = .returned v ∧ Q_rm_cod0 Z a2 k2 c0 c1 c2 c3 h0 n0 v U'.heap L ∧ FrameEnd U o U' L ({ frames := 0, cells := 0, slots := 0, locals := 0 } : Room).cells ({ frames := 0, cells := 0, slots := 0, locals := 0 } : Room).slots) := by
  refine MetFree.of_bodySF (plainFor_of_name pn_java_lang_StringUTF16) hisR ?_
  intro p e s m args below meth c s₁ Bd hml0 hP hK
  obtain ⟨rfl, hZ, hh⟩ := hP
  have hx := Bd.exec
  have hby := Bd.bytes
  have hml : c.maxLocals = 2 := hml0
  have hown : s.vm.findClass "java/lang/StringUTF16" = some m.cls := findClass_of_methodNamed Bd.named
  have hnm := (name_of_methodNamed Bd.named Bd.method).1
  have X0 : Stand p l e ({ frames := 0, cells := 0, slots := 0, locals := 0 } : Room) s m #[(.ref a2), (.int (4 : Int32))] below meth c s₁ [] 0 0 := Stand.of_body Bd
  have e0 : s₁.heap = h0 := by rw [← hh, Bd.state]; rfl
  have N0 := Fr.nil n0
  refine Goes.out (l := l) (c := c) (R := ({ frames := 0, cells := 0, slots := 0, locals := 0 } : Room)) (Q := Q_rm_cod0 Z a2 k2 c0 c1 c2 c3 h0 n0) Bd.notSynchronized ?_
  refine Goes.cast (g2 := mkF m 0 #[rv a2, iv 4] []) (by first | (simp [entryFrame, mkF, argsToLocals, Value.category]; done) | rfl) ?_
  have K0 : Keep h0 h0 [] := Keep.refl h0 _
  have hws : ∀ x ∈ ([] : List Addr), n0 ≤ x := all0
  refine Goes.step (T2 := s₁) (g2 := (mkF m 1 #[rv a2, iv 4] [(.int (4 : Int32))])) (fun _ hr => XS.iloadN X0.here hx rfl (hb hby d7_0) rfl  hr) ?_
  refine Goes.step (T2 := s₁) (g2 := (mkF m 2 #[rv a2, iv 4] [(.ref a2), (.int (4 : Int32))])) (fun _ hr => XS.aloadN X0.here hx rfl (hb hby d7_1) rfl rfl hr) ?_
  obtain ⟨cl119, Ar119, -, S119, Nn119, -, -⟩ := id V_a2
  refine Goes.step (T2 := s₁) (g2 := (mkF m 3 #[rv a2, iv 4] [(.int (4 : Int32)), (.int (4 : Int32))])) (fun t hr => X0.arraylength hx (own_at e0 Ar119.1) (State.isArrayOf_alike hZ.alike Ar119.2.1) (g := (mkF m 2 #[rv a2, iv 4] [(.ref a2), (.int (4 : Int32))])) rfl rfl (hb hby d7_2) t (by rw [len_of S119 Nn119]; exact hr)) ?_
  refine Goes.step (T2 := s₁) (g2 := (mkF m 4 #[rv a2, iv 4] [(.int (0 : Int32))])) (fun _ hr => XS.isub X0.here hx rfl (hb hby d7_3) rfl hr) ?_
  refine Goes.step (T2 := s₁) (g2 := (mkF m 6 #[rv a2, iv 4] [(.int (31 : Int32)), (.int (0 : Int32))])) (fun _ hr => XS.bipush X0.here hx rfl (hb hby d7_4) hr) ?_
  refine Goes.step (T2 := s₁) (g2 := (mkF m 7 #[rv a2, iv 4] [(.int (0 : Int32))])) (fun _ hr => Jvm.Free.XT.iushr X0.here hx rfl (hb hby d7_6) rfl hr) ?_
  refine Goes.step (T2 := s₁) (g2 := (mkF m 8 #[rv a2, iv 4] [(.int (0 : Int32))])) (fun _ hr => Jvm.Free.XT.i2b X0.here hx rfl (hb hby d7_7) rfl hr) ?_
  exact Goes.ret (v := some (.int (0 : Int32))) X0 (by decide) (by decide) (fun h => by rw [Bd.returns] at h; cases h) ⟨rfl, N0, e0⟩ (fun fs hr => retN X0 hx (t := .byte) Bd.returns (by simp) (hb hby d7_8) hr)
def Q_rm_cod1 (Z : State) (a2 : Addr) (k2 : ClassId) (c0 : Int32) (c1 : Int32) (c2 : Int32) (c3 : Int32) (h0 : Heap) (n0 : Nat) (v : Option Value) (h : Heap) (L : List Loc) : Prop := v = some (.int (1 : Int32)) ∧ Fr n0 L ∧ h = h0
set_option maxRecDepth 65536 in
set_option maxHeartbeats 40000000 in
theorem rm_cod1 (l : Launch) (Z : State) (a0 : Array Value) (hw : ∀ d ∈ tables_1, d.before a0 Z = true) (ws : List Jvm.Cond) (a2 : Addr) (k2 : ClassId) (c0 : Int32) (c1 : Int32) (c2 : Int32) (c3 : Int32) (h0 : Heap) (n0 : Nat) (Z0 : n0 ≤ h0.size) (O0 : Old Z n0 h0) (V_a2 : Arv Z h0 a2 k2 .byte (8 : Int32) [(.int (bLo c0)), (.int (bHi c0)), (.int (bLo c1)), (.int (bHi c1)), (.int (bLo c2)), (.int (bHi c2)), (.int (bLo c3)), (.int (bHi c3))] (.int (0 : Int32))) :
    MetFree l Y7 (head1 (Jvm.Cond.code Y7 jdk_52_method_15_code 2 (some .byte) :: ws) ({ frames := 0, cells := 0, slots := 0, locals := 0 } : Room)) (fun a U => a = #[(.ref a2), (.int (4 : Int32))] ∧ Z.Warmed39 U.vm ∧ U.heap = h0) (fun _ _ _ _ _ => True) (fun _ U o U' => ∃ v L, o = .returned v ∧ Q_rm_cod1 Z a2 k2 c0 c1 c2 c3 h0 n0 v U'.heap L ∧ FrameEnd U o U' L ({ frames := 0, cells := 0, slots := 0, locals := 0 } : Room).cells ({ frames := 0, cells := 0, slots := 0, locals := 0 } : Room).slots) := by
  refine MetFree.of_bodySF (plainFor_of_name pn_java_lang_StringUTF16) hisR ?_
  intro p e s m args below meth c s₁ Bd hml0 hP hK
  obtain ⟨rfl, hZ, hh⟩ := hP
  have hx := Bd.exec
  have hby := Bd.bytes
  have hml : c.maxLocals = 2 := hml0
  have hown : s.vm.findClass "java/lang/StringUTF16" = some m.cls := findClass_of_methodNamed Bd.named
  have hnm := (name_of_methodNamed Bd.named Bd.method).1
  have X0 : Stand p l e ({ frames := 0, cells := 0, slots := 0, locals := 0 } : Room) s m #[(.ref a2), (.int (4 : Int32))] below meth c s₁ [] 0 0 := Stand.of_body Bd
  have e0 : s₁.heap = h0 := by rw [← hh, Bd.state]; rfl
  have N0 := Fr.nil n0
  refine Goes.out (l := l) (c := c) (R := ({ frames := 0, cells := 0, slots := 0, locals := 0 } : Room)) (Q := Q_rm_cod1 Z a2 k2 c0 c1 c2 c3 h0 n0) Bd.notSynchronized ?_
  refine Goes.cast (g2 := mkF m 0 #[rv a2, iv 4] []) (by first | (simp [entryFrame, mkF, argsToLocals, Value.category]; done) | rfl) ?_
  have K0 : Keep h0 h0 [] := Keep.refl h0 _
  have hws : ∀ x ∈ ([] : List Addr), n0 ≤ x := all0
  refine Goes.step (T2 := s₁) (g2 := (mkF m 1 #[rv a2, iv 4] [(.int (4 : Int32))])) (fun _ hr => XS.iloadN X0.here hx rfl (hb hby d7_0) rfl  hr) ?_
  refine Goes.step (T2 := s₁) (g2 := (mkF m 2 #[rv a2, iv 4] [(.ref a2), (.int (4 : Int32))])) (fun _ hr => XS.aloadN X0.here hx rfl (hb hby d7_1) rfl rfl hr) ?_
  obtain ⟨cl120, Ar120, -, S120, Nn120, -, -⟩ := id V_a2
  refine Goes.step (T2 := s₁) (g2 := (mkF m 3 #[rv a2, iv 4] [(.int (8 : Int32)), (.int (4 : Int32))])) (fun t hr => X0.arraylength hx (own_at e0 Ar120.1) (State.isArrayOf_alike hZ.alike Ar120.2.1) (g := (mkF m 2 #[rv a2, iv 4] [(.ref a2), (.int (4 : Int32))])) rfl rfl (hb hby d7_2) t (by rw [len_of S120 Nn120]; exact hr)) ?_
  refine Goes.step (T2 := s₁) (g2 := (mkF m 4 #[rv a2, iv 4] [(.int (-4 : Int32))])) (fun _ hr => XS.isub X0.here hx rfl (hb hby d7_3) rfl hr) ?_
  refine Goes.step (T2 := s₁) (g2 := (mkF m 6 #[rv a2, iv 4] [(.int (31 : Int32)), (.int (-4 : Int32))])) (fun _ hr => XS.bipush X0.here hx rfl (hb hby d7_4) hr) ?_
  refine Goes.step (T2 := s₁) (g2 := (mkF m 7 #[rv a2, iv 4] [(.int (1 : Int32))])) (fun _ hr => Jvm.Free.XT.iushr X0.here hx rfl (hb hby d7_6) rfl hr) ?_
  refine Goes.step (T2 := s₁) (g2 := (mkF m 8 #[rv a2, iv 4] [(.int (1 : Int32))])) (fun _ hr => Jvm.Free.XT.i2b X0.here hx rfl (hb hby d7_7) rfl hr) ?_
  exact Goes.ret (v := some (.int (1 : Int32))) X0 (by decide) (by decide) (fun h => by rw [Bd.returns] at h; cases h) ⟨rfl, N0, e0⟩ (fun fs hr => retN X0 hx (t := .byte) Bd.returns (by simp) (hb hby d7_8) hr)
def Sch (Z : State) (h : Heap) (a : Addr) (c0 c1 c2 c3 : Int32) : Prop := ∃ (w : Addr) (k : ClassId), Fld Z h a "java/lang/String" "value" "[B" (.ref w) ∧ ((Fld Z h a "java/lang/String" "coder" "B" (.int (0 : Int32)) ∧ Arv Z h w k .byte (4 : Int32) [(.int (bL1 c0)), (.int (bL1 c1)), (.int (bL1 c2)), (.int (bL1 c3))] (.int (0 : Int32)) ∧ ¬ ((255 : Int32) < c0) ∧ ¬ ((255 : Int32) < c1) ∧ ¬ ((255 : Int32) < c2) ∧ ¬ ((255 : Int32) < c3)) ∨ (Fld Z h a "java/lang/String" "coder" "B" (.int (1 : Int32)) ∧ Arv Z h w k .byte (8 : Int32) [(.int (bLo c0)), (.int (bHi c0)), (.int (bLo c1)), (.int (bHi c1)), (.int (bLo c2)), (.int (bHi c2)), (.int (bLo c3)), (.int (bHi c3))] (.int (0 : Int32))))
theorem d8_0 : decode jdk_42_method_149_code 0 = .ok (.aload_n 0, 1) := by decide +kernel
theorem d8_1 : decode jdk_42_method_149_code 1 = .ok (.invokespecial 1, 3) := by decide +kernel
theorem d8_4 : decode jdk_42_method_149_code 4 = .ok (.iload_n 3, 1) := by decide +kernel
theorem d8_5 : decode jdk_42_method_149_code 5 = .ok (.ifCond .ne 22, 3) := by decide +kernel
theorem d8_27 : decode jdk_42_method_149_code 27 = .ok (.getstatic 38, 3) := by decide +kernel
theorem d8_30 : decode jdk_42_method_149_code 30 = .ok (.ifCond .eq 28, 3) := by decide +kernel
theorem d8_33 : decode jdk_42_method_149_code 33 = .ok (.aload_n 1, 1) := by decide +kernel
theorem d8_34 : decode jdk_42_method_149_code 34 = .ok (.iload_n 2, 1) := by decide +kernel
theorem d8_35 : decode jdk_42_method_149_code 35 = .ok (.iload_n 3, 1) := by decide +kernel
theorem d8_36 : decode jdk_42_method_149_code 36 = .ok (.invokestatic 177, 3) := by decide +kernel
theorem d8_39 : decode jdk_42_method_149_code 39 = .ok (.astore 5, 2) := by decide +kernel
theorem d8_41 : decode jdk_42_method_149_code 41 = .ok (.aload_n 0, 1) := by decide +kernel
theorem d8_42 : decode jdk_42_method_149_code 42 = .ok (.aload 5, 2) := by decide +kernel
theorem d8_44 : decode jdk_42_method_149_code 44 = .ok (.iload_n 3, 1) := by decide +kernel
theorem d8_45 : decode jdk_42_method_149_code 45 = .ok (.invokestatic 47, 3) := by decide +kernel
theorem d8_48 : decode jdk_42_method_149_code 48 = .ok (.putfield 15, 3) := by decide +kernel
theorem d8_51 : decode jdk_42_method_149_code 51 = .ok (.aload_n 0, 1) := by decide +kernel
theorem d8_52 : decode jdk_42_method_149_code 52 = .ok (.aload 5, 2) := by decide +kernel
theorem d8_54 : decode jdk_42_method_149_code 54 = .ok (.putfield 9, 3) := by decide +kernel
theorem d8_57 : decode jdk_42_method_149_code 57 = .ok (.return_, 1) := by decide +kernel
theorem pn_java_lang_String : plainName "java/lang/String" = true := by first | (simp [plainName, overriddenIn]; done) | decide +kernel
def Q_rm_str4 (Z : State) (a1 : Addr) (a2 : Addr) (k2 : ClassId) (cs : Int32) (c0 : Int32) (c1 : Int32) (c2 : Int32) (c3 : Int32) (h0 : Heap) (n0 : Nat) (v : Option Value) (h : Heap) (L : List Loc) : Prop := v = none ∧ Fr n0 L ∧ Keep h0 h [a1] ∧ Sch Z h a1 c0 c1 c2 c3
set_option maxRecDepth 65536 in
set_option maxHeartbeats 40000000 in
theorem rm_str4 (l : Launch) (Z : State) (a0 : Array Value) (hw : ∀ d ∈ tables_1, d.before a0 Z = true) (ws : List Jvm.Cond) (a1 : Addr) (a2 : Addr) (k2 : ClassId) (cs : Int32) (c0 : Int32) (c1 : Int32) (c2 : Int32) (c3 : Int32) (h0 : Heap) (n0 : Nat) (Z0 : n0 ≤ h0.size) (O0 : Old Z n0 h0) (E_a1 : Exa Z h0 a1 "java/lang/String") (F_a1_coder : Fld Z h0 a1 "java/lang/String" "coder" "B" (.int (0 : Int32))) (F_a1_value : Fld Z h0 a1 "java/lang/String" "value" "[B" .null) (V_a2 : Arv Z h0 a2 k2 .char (4 : Int32) [(.int c0), (.int c1), (.int c2), (.int c3)] (.int (0 : Int32))) (S_String_COMPACT_STRINGS_old : Sta Z Z.heap "java/lang/String" "COMPACT_STRINGS" "Z" (.int cs)) (S_StringUTF16__assertionsDisabled_old : Sta Z Z.heap "java/lang/StringUTF16" "$assertionsDisabled" "Z" (.int (1 : Int32))) (S_StringUTF16_HI_BYTE_SHIFT_old : Sta Z Z.heap "java/lang/StringUTF16" "HI_BYTE_SHIFT" "I" (.int (0 : Int32))) (S_StringUTF16_LO_BYTE_SHIFT_old : Sta Z Z.heap "java/lang/StringUTF16" "LO_BYTE_SHIFT" "I" (.int (8 : Int32))) (ge_a1 : n0 ≤ a1) (ne_a1_a2 : a1 ≠ a2) (hcs : ¬ (cs = (0 : Int32))) (hb0 : B16 c0) (hb1 : B16 c1) (hb2 : B16 c2) (hb3 : B16 c3) :
    MetFree l Y8 (head1 (Jvm.Cond.code Y8 jdk_42_method_149_code 6 none :: ws) ({ frames := 4, cells := 2, slots := 12, locals := 57 } : Room)) (fun a U => a = #[(.ref a1), (.ref a2), (.int (0 : Int32)), (.int (4 : Int32)), .null] ∧ Z.Warmed39 U.vm ∧ U.heap = h0) (fun _ _ _ _ _ => True) (fun _ U o U' => ∃ v L, o = .returned v ∧ Q_rm_str4 Z a1 a2 k2 cs c0 c1 c2 c3 h0 n0 v U'.heap L ∧ FrameEnd U o U' L ({ frames := 4, cells := 2, slots := 12, locals := 57 } : Room).cells ({ frames := 4, cells := 2, slots := 12, locals := 57 } : Room).slots) := by
  refine MetFree.of_bodySF (plainFor_of_name pn_java_lang_String) hisR ?_
  intro p e s m args below meth c s₁ Bd hml0 hP hK
  obtain ⟨rfl, hZ, hh⟩ := hP
  have hx := Bd.exec
  have hby := Bd.bytes
  have hml : c.maxLocals = 6 := hml0
  have hown : s.vm.findClass "java/lang/String" = some m.cls := findClass_of_methodNamed Bd.named
  have hnm := (name_of_methodNamed Bd.named Bd.method).1
  have X0 : Stand p l e ({ frames := 4, cells := 2, slots := 12, locals := 57 } : Room) s m #[(.ref a1), (.ref a2), (.int (0 : Int32)), (.int (4 : Int32)), .null] below meth c s₁ [] 0 0 := Stand.of_body Bd
  have e0 : s₁.heap = h0 := by rw [← hh, Bd.state]; rfl
  have N0 := Fr.nil n0
  refine Goes.out (l := l) (c := c) (R := ({ frames := 4, cells := 2, slots := 12, locals := 57 } : Room)) (Q := Q_rm_str4 Z a1 a2 k2 cs c0 c1 c2 c3 h0 n0) Bd.notSynchronized ?_
  refine Goes.cast (g2 := mkF m 0 #[rv a1, rv a2, iv 0, iv 4, .val .null, .unset] []) (by first | (simp [entryFrame, mkF, argsToLocals, Value.category]; done) | rfl) ?_
  have K0 : Keep h0 h0 [a1] := Keep.refl h0 _
  have hws : ∀ x ∈ [a1], n0 ≤ x := (allS ge_a1 all0)
  refine Goes.step (T2 := s₁) (g2 := (mkF m 1 #[rv a1, rv a2, iv 0, iv 4, .val .null, .unset] [(.ref a1)])) (fun _ hr => XS.aloadN X0.here hx rfl (hb hby d8_0) rfl rfl hr) ?_
  have Zs121 : n0 ≤ h0.size := Nat.le_trans Z0 K0.1
  obtain ⟨T122, X122, e122, st122⟩ := initO X0 hx hZ hown (tw hw 13 rfl) (tw hw 14 rfl) (tw hw 15 rfl) e0 (g := (mkF m 1 #[rv a1, rv a2, iv 0, iv 4, .val .null, .unset] [(.ref a1)])) rfl (by rw [hml]; rfl) rfl (hb hby d8_1) (by decide) (W := 0) (by show 2 * 0 + _ ≤ _; exact Nat.le_of_eq rfl) (by decide)
  refine Goes.step (T2 := T122) (g2 := (mkF m 4 #[rv a1, rv a2, iv 0, iv 4, .val .null, .unset] [])) st122 ?_
  refine Goes.step (T2 := T122) (g2 := (mkF m 5 #[rv a1, rv a2, iv 0, iv 4, .val .null, .unset] [(.int (4 : Int32))])) (fun _ hr => XS.iloadN X122.here hx rfl (hb hby d8_4) rfl  hr) ?_
  refine Goes.step (T2 := T122) (g2 := (mkF m 27 #[rv a1, rv a2, iv 0, iv 4, .val .null, .unset] [])) (fun _ hr => XS.ifYes X122.here hx rfl (pc0 := 5) (pc' := 27) rfl (hb hby d8_5) rfl ((if0 _ _).trans (feq (by decide : ¬ ((4 : Int32) = (0 : Int32)))).2) (by decide) (by decide) hr) ?_
  obtain ⟨T123, X123, e123, st123⟩ := getS2 X122 hx hZ hown (host := "") (Or.inl (tw hw 16 rfl)) Via.refl e122 (S_String_COMPACT_STRINGS_old.ext (Old.keep O0 K0 hws).2) (g := (mkF m 27 #[rv a1, rv a2, iv 0, iv 4, .val .null, .unset] [])) rfl (hb hby d8_27)
  refine Goes.step (T2 := T123) (g2 := (mkF m 30 #[rv a1, rv a2, iv 0, iv 4, .val .null, .unset] [(.int cs)])) st123 ?_
  refine Goes.step (T2 := T123) (g2 := (mkF m 33 #[rv a1, rv a2, iv 0, iv 4, .val .null, .unset] [])) (fun _ hr => XS.ifNo X123.here hx rfl (hb hby d8_30) rfl ((if0 _ _).trans (feq (hcs : ¬ (cs = (0 : Int32)))).1) hr) ?_
  refine Goes.step (T2 := T123) (g2 := (mkF m 34 #[rv a1, rv a2, iv 0, iv 4, .val .null, .unset] [(.ref a2)])) (fun _ hr => XS.aloadN X123.here hx rfl (hb hby d8_33) rfl rfl hr) ?_
  refine Goes.step (T2 := T123) (g2 := (mkF m 35 #[rv a1, rv a2, iv 0, iv 4, .val .null, .unset] [(.int (0 : Int32)), (.ref a2)])) (fun _ hr => XS.iloadN X123.here hx rfl (hb hby d8_34) rfl  hr) ?_
  refine Goes.step (T2 := T123) (g2 := (mkF m 36 #[rv a1, rv a2, iv 0, iv 4, .val .null, .unset] [(.int (4 : Int32)), (.int (0 : Int32)), (.ref a2)])) (fun _ hr => XS.iloadN X123.here hx rfl (hb hby d8_35) rfl  hr) ?_
  by_cases hhigh0 : (255 : Int32) < c0
  · have Zs124 : n0 ≤ h0.size := Nat.le_trans Z0 K0.1
    obtain ⟨_, _, ⟨T125, L125, k125, n125⟩, -, X125, ⟨Lc125, hQ125, l125, y125, z125⟩, st125⟩ := Jvm.LawKit.callS X123 hx (y := Y6) hown (mvT hZ (tw hw 17 rfl)) (mvT hZ (tw hw 18 rfl)) (mvT hZ (tw hw 19 rfl)) (mvT hZ (tw hw 20 rfl)) (by decide) (backOf (W := 0) (rm_cmpn0 l Z a0 hw [] a2 k2 c0 c1 c2 c3 h0 n0 Zs124 (Old.keep O0 K0 hws) V_a2 S_StringUTF16__assertionsDisabled_old S_StringUTF16_HI_BYTE_SHIFT_old S_StringUTF16_LO_BYTE_SHIFT_old hb0 hb1 hb2 hb3 hhigh0) hZ (tw hw 20 rfl) (tw hw 19 rfl) (by decide) (by decide)) (g := (mkF m 36 #[rv a1, rv a2, iv 0, iv 4, .val .null, .unset] [(.int (4 : Int32)), (.int (0 : Int32)), (.ref a2)])) rfl (by rw [hml]; rfl) (argsL := [(.ref a2), (.int (0 : Int32)), (.int (4 : Int32))]) (rest := []) (lenOf pd_4 rfl) rfl (by show 2 * 0 + _ ≤ _; exact Nat.le_of_eq rfl) (hb hby d8_36) (fun _ _ => ⟨rfl, e123, (by decide : 0 + 2 ≤ _), (by decide : 0 + 12 ≤ _)⟩)
    dsimp only [Pt.U, Pt.locs, Pt.cells, Pt.slots] at X125 l125 y125 z125 st125 hQ125
    subst l125 y125 z125
    obtain ⟨w125, kw125, rfl, N125q, Kc125, P125_0, P125_1⟩ := hQ125
    have N125 := Fr.app N0 N125q
    have E_a1_125 : Exa Z T125.heap a1 "java/lang/String" := E_a1.keep Kc125
    have F_a1_coder_125 : Fld Z T125.heap a1 "java/lang/String" "coder" "B" (.int (0 : Int32)) := F_a1_coder.keep Kc125 nin0
    have F_a1_value_125 : Fld Z T125.heap a1 "java/lang/String" "value" "[B" .null := F_a1_value.keep Kc125 nin0
    have V_a2_125 : Arv Z T125.heap a2 k2 .char (4 : Int32) [(.int c0), (.int c1), (.int c2), (.int c3)] (.int (0 : Int32)) := V_a2.keep Kc125 nin0
    have K125 : Keep h0 T125.heap [a1] := K0.trans Kc125 all0
    have sz_w125 : h0.size ≤ w125 := Nat.le_trans K0.1 P125_0
    have ge_w125 : n0 ≤ w125 := Nat.le_trans Z0 sz_w125
    have V_w125_125c : Arv Z T125.heap w125 kw125 .byte (8 : Int32) [(.int (bLo c0)), (.int (bHi c0)), (.int (bLo c1)), (.int (bHi c1)), (.int (bLo c2)), (.int (bHi c2)), (.int (bLo c3)), (.int (bHi c3))] (.int (0 : Int32)) := P125_1
    refine Goes.step (T2 := T125) (g2 := (mkF m 39 #[rv a1, rv a2, iv 0, iv 4, .val .null, .unset] [(.ref w125)])) st125 ?_
    refine Goes.step (T2 := T125) (g2 := (mkF m 41 #[rv a1, rv a2, iv 0, iv 4, .val .null, rv w125] [])) (fun _ hr => XS.astore X125.here hx rfl (hb hby d8_39) rfl rfl (l' := #[rv a1, rv a2, iv 0, iv 4, .val .null, rv w125]) rfl hr) ?_
    refine Goes.step (T2 := T125) (g2 := (mkF m 42 #[rv a1, rv a2, iv 0, iv 4, .val .null, rv w125] [(.ref a1)])) (fun _ hr => XS.aloadN X125.here hx rfl (hb hby d8_41) rfl rfl hr) ?_
    refine Goes.step (T2 := T125) (g2 := (mkF m 44 #[rv a1, rv a2, iv 0, iv 4, .val .null, rv w125] [(.ref w125), (.ref a1)])) (fun _ hr => XS.aload X125.here hx rfl (hb hby d8_42) rfl rfl hr) ?_
    refine Goes.step (T2 := T125) (g2 := (mkF m 45 #[rv a1, rv a2, iv 0, iv 4, .val .null, rv w125] [(.int (4 : Int32)), (.ref w125), (.ref a1)])) (fun _ hr => XS.iloadN X125.here hx rfl (hb hby d8_44) rfl  hr) ?_
    have Zs126 : n0 ≤ T125.heap.size := Nat.le_trans Z0 K125.1
    obtain ⟨_, _, ⟨T127, L127, k127, n127⟩, -, X127, ⟨Lc127, hQ127, l127, y127, z127⟩, st127⟩ := Jvm.LawKit.callS X125 hx (y := Y7) hown (mvT hZ (tw hw 25 rfl)) (mvT hZ (tw hw 26 rfl)) (mvT hZ (tw hw 19 rfl)) (mvT hZ (tw hw 27 rfl)) (by decide) (backOf (W := 1) (rm_cod1 l Z a0 hw [] w125 kw125 c0 c1 c2 c3 T125.heap n0 Zs126 (Old.keep O0 K125 hws) V_w125_125c) hZ (tw hw 27 rfl) (tw hw 19 rfl) (by decide) (by decide)) (g := (mkF m 45 #[rv a1, rv a2, iv 0, iv 4, .val .null, rv w125] [(.int (4 : Int32)), (.ref w125), (.ref a1)])) rfl (by rw [hml]; rfl) (argsL := [(.ref w125), (.int (4 : Int32))]) (rest := [(.ref a1)]) (lenOf pd_6 rfl) rfl (by show 2 * 0 + _ ≤ _; exact Nat.le_of_eq rfl) (hb hby d8_45) (fun _ _ => ⟨rfl, rfl, (by decide : 2 + 0 ≤ _), (by decide : 12 + 0 ≤ _)⟩)
    dsimp only [Pt.U, Pt.locs, Pt.cells, Pt.slots] at X127 l127 y127 z127 st127 hQ127
    subst l127 y127 z127
    obtain ⟨rfl, N127q, e127⟩ := hQ127
    have N127 := Fr.app N125 N127q
    refine Goes.step (T2 := T127) (g2 := (mkF m 48 #[rv a1, rv a2, iv 0, iv 4, .val .null, rv w125] [(.int (1 : Int32)), (.ref a1)])) st127 ?_
    obtain ⟨T128, h128, X128, e128, W128, st128⟩ := putFN X127 hx hZ hown (tw hw 28 rfl) Via.refl e127 F_a1_coder_125 E_a1_125 (Or.inr ⟨(tw hw 29 rfl), rfl, hnm⟩) (tw hw 4 rfl) (ty := .byte) (v' := (.int (1 : Int32))) (by decide) rfl rfl (g := (mkF m 48 #[rv a1, rv a2, iv 0, iv 4, .val .null, rv w125] [(.int (1 : Int32)), (.ref a1)])) rfl rfl (hb hby d8_48)
    have E_a1_128 : Exa Z h128 a1 "java/lang/String" := E_a1_125.wr W128
    have F_a1_value_128 : Fld Z h128 a1 "java/lang/String" "value" "[B" .null := F_a1_value_125.other W128 (Or.inr (slot_ne (Or.inr (tw hw 31 rfl)) (Or.inr (tw hw 29 rfl)) (by decide) (t := (.array .byte)) (t' := .byte) (by decide) (by decide)))
    have V_a2_128 : Arv Z h128 a2 k2 .char (4 : Int32) [(.int c0), (.int c1), (.int c2), (.int c3)] (.int (0 : Int32)) := V_a2_125.other W128 (Ne.symm ne_a1_a2)
    have V_w125_128 : Arv Z h128 w125 kw125 .byte (8 : Int32) [(.int (bLo c0)), (.int (bHi c0)), (.int (bLo c1)), (.int (bHi c1)), (.int (bLo c2)), (.int (bHi c2)), (.int (bLo c3)), (.int (bHi c3))] (.int (0 : Int32)) := V_w125_125c.other W128 (Ne.symm (Nat.ne_of_lt (Nat.lt_of_lt_of_le E_a1.lt P125_0)))
    have K128 : Keep h0 h128 [a1] := K125.wr W128 (Or.inl (List.mem_of_getElem? (i := 0) rfl))
    have N128 := Fr.snoc X128 N127 ge_a1
    have F_a1_coder_128 : Fld Z h128 a1 "java/lang/String" "coder" "B" (.int (1 : Int32)) := F_a1_coder_125.same W128
    refine Goes.step (T2 := T128) (g2 := (mkF m 51 #[rv a1, rv a2, iv 0, iv 4, .val .null, rv w125] [])) st128 ?_
    refine Goes.step (T2 := T128) (g2 := (mkF m 52 #[rv a1, rv a2, iv 0, iv 4, .val .null, rv w125] [(.ref a1)])) (fun _ hr => XS.aloadN X128.here hx rfl (hb hby d8_51) rfl rfl hr) ?_
    refine Goes.step (T2 := T128) (g2 := (mkF m 54 #[rv a1, rv a2, iv 0, iv 4, .val .null, rv w125] [(.ref w125), (.ref a1)])) (fun _ hr => XS.aload X128.here hx rfl (hb hby d8_52) rfl rfl hr) ?_
    obtain ⟨T129, h129, X129, e129, W129, st129⟩ := putF X128 hx hZ hown (host := "") (Or.inl (tw hw 30 rfl)) Via.refl e128 F_a1_value_128 E_a1_128 (Or.inr ⟨(tw hw 31 rfl), rfl, hnm⟩) (tw hw 4 rfl) (ty := (.array .byte)) (by decide) rfl rfl (g := (mkF m 54 #[rv a1, rv a2, iv 0, iv 4, .val .null, rv w125] [(.ref w125), (.ref a1)])) rfl rfl (hb hby d8_54)
    have E_a1_129 : Exa Z h129 a1 "java/lang/String" := E_a1_128.wr W129
    have V_a2_129 : Arv Z h129 a2 k2 .char (4 : Int32) [(.int c0), (.int c1), (.int c2), (.int c3)] (.int (0 : Int32)) := V_a2_128.other W129 (Ne.symm ne_a1_a2)
    have V_w125_129 : Arv Z h129 w125 kw125 .byte (8 : Int32) [(.int (bLo c0)), (.int (bHi c0)), (.int (bLo c1)), (.int (bHi c1)), (.int (bLo c2)), (.int (bHi c2)), (.int (bLo c3)), (.int (bHi c3))] (.int (0 : Int32)) := V_w125_128.other W129 (Ne.symm (Nat.ne_of_lt (Nat.lt_of_lt_of_le E_a1.lt P125_0)))
    have F_a1_coder_129 : Fld Z h129 a1 "java/lang/String" "coder" "B" (.int (1 : Int32)) := F_a1_coder_128.other W129 (Or.inr (slot_ne (Or.inr (tw hw 29 rfl)) (Or.inr (tw hw 31 rfl)) (by decide) (t := .byte) (t' := (.array .byte)) (by decide) (by decide)))
    have K129 : Keep h0 h129 [a1] := K128.wr W129 (Or.inl (List.mem_of_getElem? (i := 0) rfl))
    have N129 := Fr.snoc X129 N128 ge_a1
    have F_a1_value_129 : Fld Z h129 a1 "java/lang/String" "value" "[B" (.ref w125) := F_a1_value_128.same W129
    refine Goes.step (T2 := T129) (g2 := (mkF m 57 #[rv a1, rv a2, iv 0, iv 4, .val .null, rv w125] [])) st129 ?_
    exact Goes.ret (v := none) X129 (by decide) (by decide) (fun _ => rfl) (by show Q_rm_str4 Z a1 a2 k2 cs c0 c1 c2 c3 h0 n0 _ T129.heap _; rw [e129]; exact ⟨rfl, N129, K129, ⟨_, _, F_a1_value_129, Or.inr ⟨F_a1_coder_129, V_w125_129⟩⟩⟩) (fun fs hr => X129.returnOut hx Bd.returns (hb hby d8_57) hr)
  · have hlow0 := hhigh0
    by_cases hhigh1 : (255 : Int32) < c1
    · have Zs130 : n0 ≤ h0.size := Nat.le_trans Z0 K0.1
      obtain ⟨_, _, ⟨T131, L131, k131, n131⟩, -, X131, ⟨Lc131, hQ131, l131, y131, z131⟩, st131⟩ := Jvm.LawKit.callS X123 hx (y := Y6) hown (mvT hZ (tw hw 17 rfl)) (mvT hZ (tw hw 18 rfl)) (mvT hZ (tw hw 19 rfl)) (mvT hZ (tw hw 20 rfl)) (by decide) (backOf (W := 0) (rm_cmpn1 l Z a0 hw [] a2 k2 c0 c1 c2 c3 h0 n0 Zs130 (Old.keep O0 K0 hws) V_a2 S_StringUTF16__assertionsDisabled_old S_StringUTF16_HI_BYTE_SHIFT_old S_StringUTF16_LO_BYTE_SHIFT_old hb0 hb1 hb2 hb3 hlow0 hhigh1) hZ (tw hw 20 rfl) (tw hw 19 rfl) (by decide) (by decide)) (g := (mkF m 36 #[rv a1, rv a2, iv 0, iv 4, .val .null, .unset] [(.int (4 : Int32)), (.int (0 : Int32)), (.ref a2)])) rfl (by rw [hml]; rfl) (argsL := [(.ref a2), (.int (0 : Int32)), (.int (4 : Int32))]) (rest := []) (lenOf pd_4 rfl) rfl (by show 2 * 0 + _ ≤ _; exact Nat.le_of_eq rfl) (hb hby d8_36) (fun _ _ => ⟨rfl, e123, (by decide : 0 + 2 ≤ _), (by decide : 0 + 12 ≤ _)⟩)
      dsimp only [Pt.U, Pt.locs, Pt.cells, Pt.slots] at X131 l131 y131 z131 st131 hQ131
      subst l131 y131 z131
      obtain ⟨w131, kw131, rfl, N131q, Kc131, P131_0, P131_1⟩ := hQ131
      have N131 := Fr.app N0 N131q
      have E_a1_131 : Exa Z T131.heap a1 "java/lang/String" := E_a1.keep Kc131
      have F_a1_coder_131 : Fld Z T131.heap a1 "java/lang/String" "coder" "B" (.int (0 : Int32)) := F_a1_coder.keep Kc131 nin0
      have F_a1_value_131 : Fld Z T131.heap a1 "java/lang/String" "value" "[B" .null := F_a1_value.keep Kc131 nin0
      have V_a2_131 : Arv Z T131.heap a2 k2 .char (4 : Int32) [(.int c0), (.int c1), (.int c2), (.int c3)] (.int (0 : Int32)) := V_a2.keep Kc131 nin0
      have K131 : Keep h0 T131.heap [a1] := K0.trans Kc131 all0
      have sz_w131 : h0.size ≤ w131 := Nat.le_trans K0.1 P131_0
      have ge_w131 : n0 ≤ w131 := Nat.le_trans Z0 sz_w131
      have V_w131_131c : Arv Z T131.heap w131 kw131 .byte (8 : Int32) [(.int (bLo c0)), (.int (bHi c0)), (.int (bLo c1)), (.int (bHi c1)), (.int (bLo c2)), (.int (bHi c2)), (.int (bLo c3)), (.int (bHi c3))] (.int (0 : Int32)) := P131_1
      refine Goes.step (T2 := T131) (g2 := (mkF m 39 #[rv a1, rv a2, iv 0, iv 4, .val .null, .unset] [(.ref w131)])) st131 ?_
      refine Goes.step (T2 := T131) (g2 := (mkF m 41 #[rv a1, rv a2, iv 0, iv 4, .val .null, rv w131] [])) (fun _ hr => XS.astore X131.here hx rfl (hb hby d8_39) rfl rfl (l' := #[rv a1, rv a2, iv 0, iv 4, .val .null, rv w131]) rfl hr) ?_
      refine Goes.step (T2 := T131) (g2 := (mkF m 42 #[rv a1, rv a2, iv 0, iv 4, .val .null, rv w131] [(.ref a1)])) (fun _ hr => XS.aloadN X131.here hx rfl (hb hby d8_41) rfl rfl hr) ?_
      refine Goes.step (T2 := T131) (g2 := (mkF m 44 #[rv a1, rv a2, iv 0, iv 4, .val .null, rv w131] [(.ref w131), (.ref a1)])) (fun _ hr => XS.aload X131.here hx rfl (hb hby d8_42) rfl rfl hr) ?_
      refine Goes.step (T2 := T131) (g2 := (mkF m 45 #[rv a1, rv a2, iv 0, iv 4, .val .null, rv w131] [(.int (4 : Int32)), (.ref w131), (.ref a1)])) (fun _ hr => XS.iloadN X131.here hx rfl (hb hby d8_44) rfl  hr) ?_
      have Zs132 : n0 ≤ T131.heap.size := Nat.le_trans Z0 K131.1
      obtain ⟨_, _, ⟨T133, L133, k133, n133⟩, -, X133, ⟨Lc133, hQ133, l133, y133, z133⟩, st133⟩ := Jvm.LawKit.callS X131 hx (y := Y7) hown (mvT hZ (tw hw 25 rfl)) (mvT hZ (tw hw 26 rfl)) (mvT hZ (tw hw 19 rfl)) (mvT hZ (tw hw 27 rfl)) (by decide) (backOf (W := 1) (rm_cod1 l Z a0 hw [] w131 kw131 c0 c1 c2 c3 T131.heap n0 Zs132 (Old.keep O0 K131 hws) V_w131_131c) hZ (tw hw 27 rfl) (tw hw 19 rfl) (by decide) (by decide)) (g := (mkF m 45 #[rv a1, rv a2, iv 0, iv 4, .val .null, rv w131] [(.int (4 : Int32)), (.ref w131), (.ref a1)])) rfl (by rw [hml]; rfl) (argsL := [(.ref w131), (.int (4 : Int32))]) (rest := [(.ref a1)]) (lenOf pd_6 rfl) rfl (by show 2 * 0 + _ ≤ _; exact Nat.le_of_eq rfl) (hb hby d8_45) (fun _ _ => ⟨rfl, rfl, (by decide : 2 + 0 ≤ _), (by decide : 12 + 0 ≤ _)⟩)
      dsimp only [Pt.U, Pt.locs, Pt.cells, Pt.slots] at X133 l133 y133 z133 st133 hQ133
      subst l133 y133 z133
      obtain ⟨rfl, N133q, e133⟩ := hQ133
      have N133 := Fr.app N131 N133q
      refine Goes.step (T2 := T133) (g2 := (mkF m 48 #[rv a1, rv a2, iv 0, iv 4, .val .null, rv w131] [(.int (1 : Int32)), (.ref a1)])) st133 ?_
      obtain ⟨T134, h134, X134, e134, W134, st134⟩ := putFN X133 hx hZ hown (tw hw 28 rfl) Via.refl e133 F_a1_coder_131 E_a1_131 (Or.inr ⟨(tw hw 29 rfl), rfl, hnm⟩) (tw hw 4 rfl) (ty := .byte) (v' := (.int (1 : Int32))) (by decide) rfl rfl (g := (mkF m 48 #[rv a1, rv a2, iv 0, iv 4, .val .null, rv w131] [(.int (1 : Int32)), (.ref a1)])) rfl rfl (hb hby d8_48)
      have E_a1_134 : Exa Z h134 a1 "java/lang/String" := E_a1_131.wr W134
      have F_a1_value_134 : Fld Z h134 a1 "java/lang/String" "value" "[B" .null := F_a1_value_131.other W134 (Or.inr (slot_ne (Or.inr (tw hw 31 rfl)) (Or.inr (tw hw 29 rfl)) (by decide) (t := (.array .byte)) (t' := .byte) (by decide) (by decide)))
      have V_a2_134 : Arv Z h134 a2 k2 .char (4 : Int32) [(.int c0), (.int c1), (.int c2), (.int c3)] (.int (0 : Int32)) := V_a2_131.other W134 (Ne.symm ne_a1_a2)
      have V_w131_134 : Arv Z h134 w131 kw131 .byte (8 : Int32) [(.int (bLo c0)), (.int (bHi c0)), (.int (bLo c1)), (.int (bHi c1)), (.int (bLo c2)), (.int (bHi c2)), (.int (bLo c3)), (.int (bHi c3))] (.int (0 : Int32)) := V_w131_131c.other W134 (Ne.symm (Nat.ne_of_lt (Nat.lt_of_lt_of_le E_a1.lt P131_0)))
      have K134 : Keep h0 h134 [a1] := K131.wr W134 (Or.inl (List.mem_of_getElem? (i := 0) rfl))
      have N134 := Fr.snoc X134 N133 ge_a1
      have F_a1_coder_134 : Fld Z h134 a1 "java/lang/String" "coder" "B" (.int (1 : Int32)) := F_a1_coder_131.same W134
      refine Goes.step (T2 := T134) (g2 := (mkF m 51 #[rv a1, rv a2, iv 0, iv 4, .val .null, rv w131] [])) st134 ?_
      refine Goes.step (T2 := T134) (g2 := (mkF m 52 #[rv a1, rv a2, iv 0, iv 4, .val .null, rv w131] [(.ref a1)])) (fun _ hr => XS.aloadN X134.here hx rfl (hb hby d8_51) rfl rfl hr) ?_
      refine Goes.step (T2 := T134) (g2 := (mkF m 54 #[rv a1, rv a2, iv 0, iv 4, .val .null, rv w131] [(.ref w131), (.ref a1)])) (fun _ hr => XS.aload X134.here hx rfl (hb hby d8_52) rfl rfl hr) ?_
      obtain ⟨T135, h135, X135, e135, W135, st135⟩ := putF X134 hx hZ hown (host := "") (Or.inl (tw hw 30 rfl)) Via.refl e134 F_a1_value_134 E_a1_134 (Or.inr ⟨(tw hw 31 rfl), rfl, hnm⟩) (tw hw 4 rfl) (ty := (.array .byte)) (by decide) rfl rfl (g := (mkF m 54 #[rv a1, rv a2, iv 0, iv 4, .val .null, rv w131] [(.ref w131), (.ref a1)])) rfl rfl (hb hby d8_54)
      have E_a1_135 : Exa Z h135 a1 "java/lang/String" := E_a1_134.wr W135
      have V_a2_135 : Arv Z h135 a2 k2 .char (4 : Int32) [(.int c0), (.int c1), (.int c2), (.int c3)] (.int (0 : Int32)) := V_a2_134.other W135 (Ne.symm ne_a1_a2)
      have V_w131_135 : Arv Z h135 w131 kw131 .byte (8 : Int32) [(.int (bLo c0)), (.int (bHi c0)), (.int (bLo c1)), (.int (bHi c1)), (.int (bLo c2)), (.int (bHi c2)), (.int (bLo c3)), (.int (bHi c3))] (.int (0 : Int32)) := V_w131_134.other W135 (Ne.symm (Nat.ne_of_lt (Nat.lt_of_lt_of_le E_a1.lt P131_0)))
      have F_a1_coder_135 : Fld Z h135 a1 "java/lang/String" "coder" "B" (.int (1 : Int32)) := F_a1_coder_134.other W135 (Or.inr (slot_ne (Or.inr (tw hw 29 rfl)) (Or.inr (tw hw 31 rfl)) (by decide) (t := .byte) (t' := (.array .byte)) (by decide) (by decide)))
      have K135 : Keep h0 h135 [a1] := K134.wr W135 (Or.inl (List.mem_of_getElem? (i := 0) rfl))
      have N135 := Fr.snoc X135 N134 ge_a1
      have F_a1_value_135 : Fld Z h135 a1 "java/lang/String" "value" "[B" (.ref w131) := F_a1_value_134.same W135
      refine Goes.step (T2 := T135) (g2 := (mkF m 57 #[rv a1, rv a2, iv 0, iv 4, .val .null, rv w131] [])) st135 ?_
      exact Goes.ret (v := none) X135 (by decide) (by decide) (fun _ => rfl) (by show Q_rm_str4 Z a1 a2 k2 cs c0 c1 c2 c3 h0 n0 _ T135.heap _; rw [e135]; exact ⟨rfl, N135, K135, ⟨_, _, F_a1_value_135, Or.inr ⟨F_a1_coder_135, V_w131_135⟩⟩⟩) (fun fs hr => X135.returnOut hx Bd.returns (hb hby d8_57) hr)
    · have hlow1 := hhigh1
      by_cases hhigh2 : (255 : Int32) < c2
      · have Zs136 : n0 ≤ h0.size := Nat.le_trans Z0 K0.1
        obtain ⟨_, _, ⟨T137, L137, k137, n137⟩, -, X137, ⟨Lc137, hQ137, l137, y137, z137⟩, st137⟩ := Jvm.LawKit.callS X123 hx (y := Y6) hown (mvT hZ (tw hw 17 rfl)) (mvT hZ (tw hw 18 rfl)) (mvT hZ (tw hw 19 rfl)) (mvT hZ (tw hw 20 rfl)) (by decide) (backOf (W := 0) (rm_cmpn2 l Z a0 hw [] a2 k2 c0 c1 c2 c3 h0 n0 Zs136 (Old.keep O0 K0 hws) V_a2 S_StringUTF16__assertionsDisabled_old S_StringUTF16_HI_BYTE_SHIFT_old S_StringUTF16_LO_BYTE_SHIFT_old hb0 hb1 hb2 hb3 hlow0 hlow1 hhigh2) hZ (tw hw 20 rfl) (tw hw 19 rfl) (by decide) (by decide)) (g := (mkF m 36 #[rv a1, rv a2, iv 0, iv 4, .val .null, .unset] [(.int (4 : Int32)), (.int (0 : Int32)), (.ref a2)])) rfl (by rw [hml]; rfl) (argsL := [(.ref a2), (.int (0 : Int32)), (.int (4 : Int32))]) (rest := []) (lenOf pd_4 rfl) rfl (by show 2 * 0 + _ ≤ _; exact Nat.le_of_eq rfl) (hb hby d8_36) (fun _ _ => ⟨rfl, e123, (by decide : 0 + 2 ≤ _), (by decide : 0 + 12 ≤ _)⟩)
        dsimp only [Pt.U, Pt.locs, Pt.cells, Pt.slots] at X137 l137 y137 z137 st137 hQ137
        subst l137 y137 z137
        obtain ⟨w137, kw137, rfl, N137q, Kc137, P137_0, P137_1⟩ := hQ137
        have N137 := Fr.app N0 N137q
        have E_a1_137 : Exa Z T137.heap a1 "java/lang/String" := E_a1.keep Kc137
        have F_a1_coder_137 : Fld Z T137.heap a1 "java/lang/String" "coder" "B" (.int (0 : Int32)) := F_a1_coder.keep Kc137 nin0
        have F_a1_value_137 : Fld Z T137.heap a1 "java/lang/String" "value" "[B" .null := F_a1_value.keep Kc137 nin0
        have V_a2_137 : Arv Z T137.heap a2 k2 .char (4 : Int32) [(.int c0), (.int c1), (.int c2), (.int c3)] (.int (0 : Int32)) := V_a2.keep Kc137 nin0
        have K137 : Keep h0 T137.heap [a1] := K0.trans Kc137 all0
        have sz_w137 : h0.size ≤ w137 := Nat.le_trans K0.1 P137_0
        have ge_w137 : n0 ≤ w137 := Nat.le_trans Z0 sz_w137
        have V_w137_137c : Arv Z T137.heap w137 kw137 .byte (8 : Int32) [(.int (bLo c0)), (.int (bHi c0)), (.int (bLo c1)), (.int (bHi c1)), (.int (bLo c2)), (.int (bHi c2)), (.int (bLo c3)), (.int (bHi c3))] (.int (0 : Int32)) := P137_1
        refine Goes.step (T2 := T137) (g2 := (mkF m 39 #[rv a1, rv a2, iv 0, iv 4, .val .null, .unset] [(.ref w137)])) st137 ?_
        refine Goes.step (T2 := T137) (g2 := (mkF m 41 #[rv a1, rv a2, iv 0, iv 4, .val .null, rv w137] [])) (fun _ hr => XS.astore X137.here hx rfl (hb hby d8_39) rfl rfl (l' := #[rv a1, rv a2, iv 0, iv 4, .val .null, rv w137]) rfl hr) ?_
        refine Goes.step (T2 := T137) (g2 := (mkF m 42 #[rv a1, rv a2, iv 0, iv 4, .val .null, rv w137] [(.ref a1)])) (fun _ hr => XS.aloadN X137.here hx rfl (hb hby d8_41) rfl rfl hr) ?_
        refine Goes.step (T2 := T137) (g2 := (mkF m 44 #[rv a1, rv a2, iv 0, iv 4, .val .null, rv w137] [(.ref w137), (.ref a1)])) (fun _ hr => XS.aload X137.here hx rfl (hb hby d8_42) rfl rfl hr) ?_
        refine Goes.step (T2 := T137) (g2 := (mkF m 45 #[rv a1, rv a2, iv 0, iv 4, .val .null, rv w137] [(.int (4 : Int32)), (.ref w137), (.ref a1)])) (fun _ hr => XS.iloadN X137.here hx rfl (hb hby d8_44) rfl  hr) ?_
        have Zs138 : n0 ≤ T137.heap.size := Nat.le_trans Z0 K137.1
        obtain ⟨_, _, ⟨T139, L139, k139, n139⟩, -, X139, ⟨Lc139, hQ139, l139, y139, z139⟩, st139⟩ := Jvm.LawKit.callS X137 hx (y := Y7) hown (mvT hZ (tw hw 25 rfl)) (mvT hZ (tw hw 26 rfl)) (mvT hZ (tw hw 19 rfl)) (mvT hZ (tw hw 27 rfl)) (by decide) (backOf (W := 1) (rm_cod1 l Z a0 hw [] w137 kw137 c0 c1 c2 c3 T137.heap n0 Zs138 (Old.keep O0 K137 hws) V_w137_137c) hZ (tw hw 27 rfl) (tw hw 19 rfl) (by decide) (by decide)) (g := (mkF m 45 #[rv a1, rv a2, iv 0, iv 4, .val .null, rv w137] [(.int (4 : Int32)), (.ref w137), (.ref a1)])) rfl (by rw [hml]; rfl) (argsL := [(.ref w137), (.int (4 : Int32))]) (rest := [(.ref a1)]) (lenOf pd_6 rfl) rfl (by show 2 * 0 + _ ≤ _; exact Nat.le_of_eq rfl) (hb hby d8_45) (fun _ _ => ⟨rfl, rfl, (by decide : 2 + 0 ≤ _), (by decide : 12 + 0 ≤ _)⟩)
        dsimp only [Pt.U, Pt.locs, Pt.cells, Pt.slots] at X139 l139 y139 z139 st139 hQ139
        subst l139 y139 z139
        obtain ⟨rfl, N139q, e139⟩ := hQ139
        have N139 := Fr.app N137 N139q
        refine Goes.step (T2 := T139) (g2 := (mkF m 48 #[rv a1, rv a2, iv 0, iv 4, .val .null, rv w137] [(.int (1 : Int32)), (.ref a1)])) st139 ?_
        obtain ⟨T140, h140, X140, e140, W140, st140⟩ := putFN X139 hx hZ hown (tw hw 28 rfl) Via.refl e139 F_a1_coder_137 E_a1_137 (Or.inr ⟨(tw hw 29 rfl), rfl, hnm⟩) (tw hw 4 rfl) (ty := .byte) (v' := (.int (1 : Int32))) (by decide) rfl rfl (g := (mkF m 48 #[rv a1, rv a2, iv 0, iv 4, .val .null, rv w137] [(.int (1 : Int32)), (.ref a1)])) rfl rfl (hb hby d8_48)
        have E_a1_140 : Exa Z h140 a1 "java/lang/String" := E_a1_137.wr W140
        have F_a1_value_140 : Fld Z h140 a1 "java/lang/String" "value" "[B" .null := F_a1_value_137.other W140 (Or.inr (slot_ne (Or.inr (tw hw 31 rfl)) (Or.inr (tw hw 29 rfl)) (by decide) (t := (.array .byte)) (t' := .byte) (by decide) (by decide)))
        have V_a2_140 : Arv Z h140 a2 k2 .char (4 : Int32) [(.int c0), (.int c1), (.int c2), (.int c3)] (.int (0 : Int32)) := V_a2_137.other W140 (Ne.symm ne_a1_a2)
        have V_w137_140 : Arv Z h140 w137 kw137 .byte (8 : Int32) [(.int (bLo c0)), (.int (bHi c0)), (.int (bLo c1)), (.int (bHi c1)), (.int (bLo c2)), (.int (bHi c2)), (.int (bLo c3)), (.int (bHi c3))] (.int (0 : Int32)) := V_w137_137c.other W140 (Ne.symm (Nat.ne_of_lt (Nat.lt_of_lt_of_le E_a1.lt P137_0)))
        have K140 : Keep h0 h140 [a1] := K137.wr W140 (Or.inl (List.mem_of_getElem? (i := 0) rfl))
        have N140 := Fr.snoc X140 N139 ge_a1
        have F_a1_coder_140 : Fld Z h140 a1 "java/lang/String" "coder" "B" (.int (1 : Int32)) := F_a1_coder_137.same W140
        refine Goes.step (T2 := T140) (g2 := (mkF m 51 #[rv a1, rv a2, iv 0, iv 4, .val .null, rv w137] [])) st140 ?_
        refine Goes.step (T2 := T140) (g2 := (mkF m 52 #[rv a1, rv a2, iv 0, iv 4, .val .null, rv w137] [(.ref a1)])) (fun _ hr => XS.aloadN X140.here hx rfl (hb hby d8_51) rfl rfl hr) ?_
        refine Goes.step (T2 := T140) (g2 := (mkF m 54 #[rv a1, rv a2, iv 0, iv 4, .val .null, rv w137] [(.ref w137), (.ref a1)])) (fun _ hr => XS.aload X140.here hx rfl (hb hby d8_52) rfl rfl hr) ?_
        obtain ⟨T141, h141, X141, e141, W141, st141⟩ := putF X140 hx hZ hown (host := "") (Or.inl (tw hw 30 rfl)) Via.refl e140 F_a1_value_140 E_a1_140 (Or.inr ⟨(tw hw 31 rfl), rfl, hnm⟩) (tw hw 4 rfl) (ty := (.array .byte)) (by decide) rfl rfl (g := (mkF m 54 #[rv a1, rv a2, iv 0, iv 4, .val .null, rv w137] [(.ref w137), (.ref a1)])) rfl rfl (hb hby d8_54)
        have E_a1_141 : Exa Z h141 a1 "java/lang/String" := E_a1_140.wr W141
        have V_a2_141 : Arv Z h141 a2 k2 .char (4 : Int32) [(.int c0), (.int c1), (.int c2), (.int c3)] (.int (0 : Int32)) := V_a2_140.other W141 (Ne.symm ne_a1_a2)
        have V_w137_141 : Arv Z h141 w137 kw137 .byte (8 : Int32) [(.int (bLo c0)), (.int (bHi c0)), (.int (bLo c1)), (.int (bHi c1)), (.int (bLo c2)), (.int (bHi c2)), (.int (bLo c3)), (.int (bHi c3))] (.int (0 : Int32)) := V_w137_140.other W141 (Ne.symm (Nat.ne_of_lt (Nat.lt_of_lt_of_le E_a1.lt P137_0)))
        have F_a1_coder_141 : Fld Z h141 a1 "java/lang/String" "coder" "B" (.int (1 : Int32)) := F_a1_coder_140.other W141 (Or.inr (slot_ne (Or.inr (tw hw 29 rfl)) (Or.inr (tw hw 31 rfl)) (by decide) (t := .byte) (t' := (.array .byte)) (by decide) (by decide)))
        have K141 : Keep h0 h141 [a1] := K140.wr W141 (Or.inl (List.mem_of_getElem? (i := 0) rfl))
        have N141 := Fr.snoc X141 N140 ge_a1
        have F_a1_value_141 : Fld Z h141 a1 "java/lang/String" "value" "[B" (.ref w137) := F_a1_value_140.same W141
        refine Goes.step (T2 := T141) (g2 := (mkF m 57 #[rv a1, rv a2, iv 0, iv 4, .val .null, rv w137] [])) st141 ?_
        exact Goes.ret (v := none) X141 (by decide) (by decide) (fun _ => rfl) (by show Q_rm_str4 Z a1 a2 k2 cs c0 c1 c2 c3 h0 n0 _ T141.heap _; rw [e141]; exact ⟨rfl, N141, K141, ⟨_, _, F_a1_value_141, Or.inr ⟨F_a1_coder_141, V_w137_141⟩⟩⟩) (fun fs hr => X141.returnOut hx Bd.returns (hb hby d8_57) hr)
      · have hlow2 := hhigh2
        by_cases hhigh3 : (255 : Int32) < c3
        · have Zs142 : n0 ≤ h0.size := Nat.le_trans Z0 K0.1
          obtain ⟨_, _, ⟨T143, L143, k143, n143⟩, -, X143, ⟨Lc143, hQ143, l143, y143, z143⟩, st143⟩ := Jvm.LawKit.callS X123 hx (y := Y6) hown (mvT hZ (tw hw 17 rfl)) (mvT hZ (tw hw 18 rfl)) (mvT hZ (tw hw 19 rfl)) (mvT hZ (tw hw 20 rfl)) (by decide) (backOf (W := 0) (rm_cmpn3 l Z a0 hw [] a2 k2 c0 c1 c2 c3 h0 n0 Zs142 (Old.keep O0 K0 hws) V_a2 S_StringUTF16__assertionsDisabled_old S_StringUTF16_HI_BYTE_SHIFT_old S_StringUTF16_LO_BYTE_SHIFT_old hb0 hb1 hb2 hb3 hlow0 hlow1 hlow2 hhigh3) hZ (tw hw 20 rfl) (tw hw 19 rfl) (by decide) (by decide)) (g := (mkF m 36 #[rv a1, rv a2, iv 0, iv 4, .val .null, .unset] [(.int (4 : Int32)), (.int (0 : Int32)), (.ref a2)])) rfl (by rw [hml]; rfl) (argsL := [(.ref a2), (.int (0 : Int32)), (.int (4 : Int32))]) (rest := []) (lenOf pd_4 rfl) rfl (by show 2 * 0 + _ ≤ _; exact Nat.le_of_eq rfl) (hb hby d8_36) (fun _ _ => ⟨rfl, e123, (by decide : 0 + 2 ≤ _), (by decide : 0 + 12 ≤ _)⟩)
          dsimp only [Pt.U, Pt.locs, Pt.cells, Pt.slots] at X143 l143 y143 z143 st143 hQ143
          subst l143 y143 z143
          obtain ⟨w143, kw143, rfl, N143q, Kc143, P143_0, P143_1⟩ := hQ143
          have N143 := Fr.app N0 N143q
          have E_a1_143 : Exa Z T143.heap a1 "java/lang/String" := E_a1.keep Kc143
          have F_a1_coder_143 : Fld Z T143.heap a1 "java/lang/String" "coder" "B" (.int (0 : Int32)) := F_a1_coder.keep Kc143 nin0
          have F_a1_value_143 : Fld Z T143.heap a1 "java/lang/String" "value" "[B" .null := F_a1_value.keep Kc143 nin0
          have V_a2_143 : Arv Z T143.heap a2 k2 .char (4 : Int32) [(.int c0), (.int c1), (.int c2), (.int c3)] (.int (0 : Int32)) := V_a2.keep Kc143 nin0
          have K143 : Keep h0 T143.heap [a1] := K0.trans Kc143 all0
          have sz_w143 : h0.size ≤ w143 := Nat.le_trans K0.1 P143_0
          have ge_w143 : n0 ≤ w143 := Nat.le_trans Z0 sz_w143
          have V_w143_143c : Arv Z T143.heap w143 kw143 .byte (8 : Int32) [(.int (bLo c0)), (.int (bHi c0)), (.int (bLo c1)), (.int (bHi c1)), (.int (bLo c2)), (.int (bHi c2)), (.int (bLo c3)), (.int (bHi c3))] (.int (0 : Int32)) := P143_1
          refine Goes.step (T2 := T143) (g2 := (mkF m 39 #[rv a1, rv a2, iv 0, iv 4, .val .null, .unset] [(.ref w143)])) st143 ?_
          refine Goes.step (T2 := T143) (g2 := (mkF m 41 #[rv a1, rv a2, iv 0, iv 4, .val .null, rv w143] [])) (fun _ hr => XS.astore X143.here hx rfl (hb hby d8_39) rfl rfl (l' := #[rv a1, rv a2, iv 0, iv 4, .val .null, rv w143]) rfl hr) ?_
          refine Goes.step (T2 := T143) (g2 := (mkF m 42 #[rv a1, rv a2, iv 0, iv 4, .val .null, rv w143] [(.ref a1)])) (fun _ hr => XS.aloadN X143.here hx rfl (hb hby d8_41) rfl rfl hr) ?_
          refine Goes.step (T2 := T143) (g2 := (mkF m 44 #[rv a1, rv a2, iv 0, iv 4, .val .null, rv w143] [(.ref w143), (.ref a1)])) (fun _ hr => XS.aload X143.here hx rfl (hb hby d8_42) rfl rfl hr) ?_
          refine Goes.step (T2 := T143) (g2 := (mkF m 45 #[rv a1, rv a2, iv 0, iv 4, .val .null, rv w143] [(.int (4 : Int32)), (.ref w143), (.ref a1)])) (fun _ hr => XS.iloadN X143.here hx rfl (hb hby d8_44) rfl  hr) ?_
          have Zs144 : n0 ≤ T143.heap.size := Nat.le_trans Z0 K143.1
          obtain ⟨_, _, ⟨T145, L145, k145, n145⟩, -, X145, ⟨Lc145, hQ145, l145, y145, z145⟩, st145⟩ := Jvm.LawKit.callS X143 hx (y := Y7) hown (mvT hZ (tw hw 25 rfl)) (mvT hZ (tw hw 26 rfl)) (mvT hZ (tw hw 19 rfl)) (mvT hZ (tw hw 27 rfl)) (by decide) (backOf (W := 1) (rm_cod1 l Z a0 hw [] w143 kw143 c0 c1 c2 c3 T143.heap n0 Zs144 (Old.keep O0 K143 hws) V_w143_143c) hZ (tw hw 27 rfl) (tw hw 19 rfl) (by decide) (by decide)) (g := (mkF m 45 #[rv a1, rv a2, iv 0, iv 4, .val .null, rv w143] [(.int (4 : Int32)), (.ref w143), (.ref a1)])) rfl (by rw [hml]; rfl) (argsL := [(.ref w143), (.int (4 : Int32))]) (rest := [(.ref a1)]) (lenOf pd_6 rfl) rfl (by show 2 * 0 + _ ≤ _; exact Nat.le_of_eq rfl) (hb hby d8_45) (fun _ _ => ⟨rfl, rfl, (by decide : 2 + 0 ≤ _), (by decide : 12 + 0 ≤ _)⟩)
          dsimp only [Pt.U, Pt.locs, Pt.cells, Pt.slots] at X145 l145 y145 z145 st145 hQ145
          subst l145 y145 z145
          obtain ⟨rfl, N145q, e145⟩ := hQ145
          have N145 := Fr.app N143 N145q
          refine Goes.step (T2 := T145) (g2 := (mkF m 48 #[rv a1, rv a2, iv 0, iv 4, .val .null, rv w143] [(.int (1 : Int32)), (.ref a1)])) st145 ?_
          obtain ⟨T146, h146, X146, e146, W146, st146⟩ := putFN X145 hx hZ hown (tw hw 28 rfl) Via.refl e145 F_a1_coder_143 E_a1_143 (Or.inr ⟨(tw hw 29 rfl), rfl, hnm⟩) (tw hw 4 rfl) (ty := .byte) (v' := (.int (1 : Int32))) (by decide) rfl rfl (g := (mkF m 48 #[rv a1, rv a2, iv 0, iv 4, .val .null, rv w143] [(.int (1 : Int32)), (.ref a1)])) rfl rfl (hb hby d8_48)
          have E_a1_146 : Exa Z h146 a1 "java/lang/String" := E_a1_143.wr W146
          have F_a1_value_146 : Fld Z h146 a1 "java/lang/String" "value" "[B" .null := F_a1_value_143.other W146 (Or.inr (slot_ne (Or.inr (tw hw 31 rfl)) (Or.inr (tw hw 29 rfl)) (by decide) (t := (.array .byte)) (t' := .byte) (by decide) (by decide)))
          have V_a2_146 : Arv Z h146 a2 k2 .char (4 : Int32) [(.int c0), (.int c1), (.int c2), (.int c3)] (.int (0 : Int32)) := V_a2_143.other W146 (Ne.symm ne_a1_a2)
          have V_w143_146 : Arv Z h146 w143 kw143 .byte (8 : Int32) [(.int (bLo c0)), (.int (bHi c0)), (.int (bLo c1)), (.int (bHi c1)), (.int (bLo c2)), (.int (bHi c2)), (.int (bLo c3)), (.int (bHi c3))] (.int (0 : Int32)) := V_w143_143c.other W146 (Ne.symm (Nat.ne_of_lt (Nat.lt_of_lt_of_le E_a1.lt P143_0)))
          have K146 : Keep h0 h146 [a1] := K143.wr W146 (Or.inl (List.mem_of_getElem? (i := 0) rfl))
          have N146 := Fr.snoc X146 N145 ge_a1
          have F_a1_coder_146 : Fld Z h146 a1 "java/lang/String" "coder" "B" (.int (1 : Int32)) := F_a1_coder_143.same W146
          refine Goes.step (T2 := T146) (g2 := (mkF m 51 #[rv a1, rv a2, iv 0, iv 4, .val .null, rv w143] [])) st146 ?_
          refine Goes.step (T2 := T146) (g2 := (mkF m 52 #[rv a1, rv a2, iv 0, iv 4, .val .null, rv w143] [(.ref a1)])) (fun _ hr => XS.aloadN X146.here hx rfl (hb hby d8_51) rfl rfl hr) ?_
          refine Goes.step (T2 := T146) (g2 := (mkF m 54 #[rv a1, rv a2, iv 0, iv 4, .val .null, rv w143] [(.ref w143), (.ref a1)])) (fun _ hr => XS.aload X146.here hx rfl (hb hby d8_52) rfl rfl hr) ?_
          obtain ⟨T147, h147, X147, e147, W147, st147⟩ := putF X146 hx hZ hown (host := "") (Or.inl (tw hw 30 rfl)) Via.refl e146 F_a1_value_146 E_a1_146 (Or.inr ⟨(tw hw 31 rfl), rfl, hnm⟩) (tw hw 4 rfl) (ty := (.array .byte)) (by decide) rfl rfl (g := (mkF m 54 #[rv a1, rv a2, iv 0, iv 4, .val .null, rv w143] [(.ref w143), (.ref a1)])) rfl rfl (hb hby d8_54)
          have E_a1_147 : Exa Z h147 a1 "java/lang/String" := E_a1_146.wr W147
          have V_a2_147 : Arv Z h147 a2 k2 .char (4 : Int32) [(.int c0), (.int c1), (.int c2), (.int c3)] (.int (0 : Int32)) := V_a2_146.other W147 (Ne.symm ne_a1_a2)
          have V_w143_147 : Arv Z h147 w143 kw143 .byte (8 : Int32) [(.int (bLo c0)), (.int (bHi c0)), (.int (bLo c1)), (.int (bHi c1)), (.int (bLo c2)), (.int (bHi c2)), (.int (bLo c3)), (.int (bHi c3))] (.int (0 : Int32)) := V_w143_146.other W147 (Ne.symm (Nat.ne_of_lt (Nat.lt_of_lt_of_le E_a1.lt P143_0)))
          have F_a1_coder_147 : Fld Z h147 a1 "java/lang/String" "coder" "B" (.int (1 : Int32)) := F_a1_coder_146.other W147 (Or.inr (slot_ne (Or.inr (tw hw 29 rfl)) (Or.inr (tw hw 31 rfl)) (by decide) (t := .byte) (t' := (.array .byte)) (by decide) (by decide)))
          have K147 : Keep h0 h147 [a1] := K146.wr W147 (Or.inl (List.mem_of_getElem? (i := 0) rfl))
          have N147 := Fr.snoc X147 N146 ge_a1
          have F_a1_value_147 : Fld Z h147 a1 "java/lang/String" "value" "[B" (.ref w143) := F_a1_value_146.same W147
          refine Goes.step (T2 := T147) (g2 := (mkF m 57 #[rv a1, rv a2, iv 0, iv 4, .val .null, rv w143] [])) st147 ?_
          exact Goes.ret (v := none) X147 (by decide) (by decide) (fun _ => rfl) (by show Q_rm_str4 Z a1 a2 k2 cs c0 c1 c2 c3 h0 n0 _ T147.heap _; rw [e147]; exact ⟨rfl, N147, K147, ⟨_, _, F_a1_value_147, Or.inr ⟨F_a1_coder_147, V_w143_147⟩⟩⟩) (fun fs hr => X147.returnOut hx Bd.returns (hb hby d8_57) hr)
        · have hlow3 := hhigh3
          have Zs148 : n0 ≤ h0.size := Nat.le_trans Z0 K0.1
          obtain ⟨_, _, ⟨T149, L149, k149, n149⟩, -, X149, ⟨Lc149, hQ149, l149, y149, z149⟩, st149⟩ := Jvm.LawKit.callS X123 hx (y := Y6) hown (mvT hZ (tw hw 17 rfl)) (mvT hZ (tw hw 18 rfl)) (mvT hZ (tw hw 19 rfl)) (mvT hZ (tw hw 20 rfl)) (by decide) (backOf (W := 0) (rm_cmpn4 l Z a0 hw [] a2 k2 c0 c1 c2 c3 h0 n0 Zs148 (Old.keep O0 K0 hws) V_a2 S_StringUTF16__assertionsDisabled_old S_StringUTF16_HI_BYTE_SHIFT_old S_StringUTF16_LO_BYTE_SHIFT_old hb0 hb1 hb2 hb3 hlow0 hlow1 hlow2 hlow3) hZ (tw hw 20 rfl) (tw hw 19 rfl) (by decide) (by decide)) (g := (mkF m 36 #[rv a1, rv a2, iv 0, iv 4, .val .null, .unset] [(.int (4 : Int32)), (.int (0 : Int32)), (.ref a2)])) rfl (by rw [hml]; rfl) (argsL := [(.ref a2), (.int (0 : Int32)), (.int (4 : Int32))]) (rest := []) (lenOf pd_4 rfl) rfl (by show 2 * 0 + _ ≤ _; exact Nat.le_of_eq rfl) (hb hby d8_36) (fun _ _ => ⟨rfl, e123, (by decide : 0 + 1 ≤ _), (by decide : 0 + 4 ≤ _)⟩)
          dsimp only [Pt.U, Pt.locs, Pt.cells, Pt.slots] at X149 l149 y149 z149 st149 hQ149
          subst l149 y149 z149
          obtain ⟨w149, kw149, rfl, N149q, Kc149, P149_0, P149_1⟩ := hQ149
          have N149 := Fr.app N0 N149q
          have E_a1_149 : Exa Z T149.heap a1 "java/lang/String" := E_a1.keep Kc149
          have F_a1_coder_149 : Fld Z T149.heap a1 "java/lang/String" "coder" "B" (.int (0 : Int32)) := F_a1_coder.keep Kc149 nin0
          have F_a1_value_149 : Fld Z T149.heap a1 "java/lang/String" "value" "[B" .null := F_a1_value.keep Kc149 nin0
          have V_a2_149 : Arv Z T149.heap a2 k2 .char (4 : Int32) [(.int c0), (.int c1), (.int c2), (.int c3)] (.int (0 : Int32)) := V_a2.keep Kc149 nin0
          have K149 : Keep h0 T149.heap [a1] := K0.trans Kc149 all0
          have sz_w149 : h0.size ≤ w149 := Nat.le_trans K0.1 P149_0
          have ge_w149 : n0 ≤ w149 := Nat.le_trans Z0 sz_w149
          have V_w149_149c : Arv Z T149.heap w149 kw149 .byte (4 : Int32) [(.int (bL1 c0)), (.int (bL1 c1)), (.int (bL1 c2)), (.int (bL1 c3))] (.int (0 : Int32)) := P149_1
          refine Goes.step (T2 := T149) (g2 := (mkF m 39 #[rv a1, rv a2, iv 0, iv 4, .val .null, .unset] [(.ref w149)])) st149 ?_
          refine Goes.step (T2 := T149) (g2 := (mkF m 41 #[rv a1, rv a2, iv 0, iv 4, .val .null, rv w149] [])) (fun _ hr => XS.astore X149.here hx rfl (hb hby d8_39) rfl rfl (l' := #[rv a1, rv a2, iv 0, iv 4, .val .null, rv w149]) rfl hr) ?_
          refine Goes.step (T2 := T149) (g2 := (mkF m 42 #[rv a1, rv a2, iv 0, iv 4, .val .null, rv w149] [(.ref a1)])) (fun _ hr => XS.aloadN X149.here hx rfl (hb hby d8_41) rfl rfl hr) ?_
          refine Goes.step (T2 := T149) (g2 := (mkF m 44 #[rv a1, rv a2, iv 0, iv 4, .val .null, rv w149] [(.ref w149), (.ref a1)])) (fun _ hr => XS.aload X149.here hx rfl (hb hby d8_42) rfl rfl hr) ?_
          refine Goes.step (T2 := T149) (g2 := (mkF m 45 #[rv a1, rv a2, iv 0, iv 4, .val .null, rv w149] [(.int (4 : Int32)), (.ref w149), (.ref a1)])) (fun _ hr => XS.iloadN X149.here hx rfl (hb hby d8_44) rfl  hr) ?_
          have Zs150 : n0 ≤ T149.heap.size := Nat.le_trans Z0 K149.1
          obtain ⟨_, _, ⟨T151, L151, k151, n151⟩, -, X151, ⟨Lc151, hQ151, l151, y151, z151⟩, st151⟩ := Jvm.LawKit.callS X149 hx (y := Y7) hown (mvT hZ (tw hw 25 rfl)) (mvT hZ (tw hw 26 rfl)) (mvT hZ (tw hw 19 rfl)) (mvT hZ (tw hw 27 rfl)) (by decide) (backOf (W := 1) (rm_cod0 l Z a0 hw [] w149 kw149 c0 c1 c2 c3 T149.heap n0 Zs150 (Old.keep O0 K149 hws) V_w149_149c) hZ (tw hw 27 rfl) (tw hw 19 rfl) (by decide) (by decide)) (g := (mkF m 45 #[rv a1, rv a2, iv 0, iv 4, .val .null, rv w149] [(.int (4 : Int32)), (.ref w149), (.ref a1)])) rfl (by rw [hml]; rfl) (argsL := [(.ref w149), (.int (4 : Int32))]) (rest := [(.ref a1)]) (lenOf pd_6 rfl) rfl (by show 2 * 0 + _ ≤ _; exact Nat.le_of_eq rfl) (hb hby d8_45) (fun _ _ => ⟨rfl, rfl, (by decide : 1 + 0 ≤ _), (by decide : 4 + 0 ≤ _)⟩)
          dsimp only [Pt.U, Pt.locs, Pt.cells, Pt.slots] at X151 l151 y151 z151 st151 hQ151
          subst l151 y151 z151
          obtain ⟨rfl, N151q, e151⟩ := hQ151
          have N151 := Fr.app N149 N151q
          refine Goes.step (T2 := T151) (g2 := (mkF m 48 #[rv a1, rv a2, iv 0, iv 4, .val .null, rv w149] [(.int (0 : Int32)), (.ref a1)])) st151 ?_
          obtain ⟨T152, h152, X152, e152, W152, st152⟩ := putFN X151 hx hZ hown (tw hw 28 rfl) Via.refl e151 F_a1_coder_149 E_a1_149 (Or.inr ⟨(tw hw 29 rfl), rfl, hnm⟩) (tw hw 4 rfl) (ty := .byte) (v' := (.int (0 : Int32))) (by decide) rfl rfl (g := (mkF m 48 #[rv a1, rv a2, iv 0, iv 4, .val .null, rv w149] [(.int (0 : Int32)), (.ref a1)])) rfl rfl (hb hby d8_48)
          have E_a1_152 : Exa Z h152 a1 "java/lang/String" := E_a1_149.wr W152
          have F_a1_value_152 : Fld Z h152 a1 "java/lang/String" "value" "[B" .null := F_a1_value_149.other W152 (Or.inr (slot_ne (Or.inr (tw hw 31 rfl)) (Or.inr (tw hw 29 rfl)) (by decide) (t := (.array .byte)) (t' := .byte) (by decide) (by decide)))
          have V_a2_152 : Arv Z h152 a2 k2 .char (4 : Int32) [(.int c0), (.int c1), (.int c2), (.int c3)] (.int (0 : Int32)) := V_a2_149.other W152 (Ne.symm ne_a1_a2)
          have V_w149_152 : Arv Z h152 w149 kw149 .byte (4 : Int32) [(.int (bL1 c0)), (.int (bL1 c1)), (.int (bL1 c2)), (.int (bL1 c3))] (.int (0 : Int32)) := V_w149_149c.other W152 (Ne.symm (Nat.ne_of_lt (Nat.lt_of_lt_of_le E_a1.lt P149_0)))
          have K152 : Keep h0 h152 [a1] := K149.wr W152 (Or.inl (List.mem_of_getElem? (i := 0) rfl))
          have N152 := Fr.snoc X152 N151 ge_a1
          have F_a1_coder_152 : Fld Z h152 a1 "java/lang/String" "coder" "B" (.int (0 : Int32)) := F_a1_coder_149.same W152
          refine Goes.step (T2 := T152) (g2 := (mkF m 51 #[rv a1, rv a2, iv 0, iv 4, .val .null, rv w149] [])) st152 ?_
          refine Goes.step (T2 := T152) (g2 := (mkF m 52 #[rv a1, rv a2, iv 0, iv 4, .val .null, rv w149] [(.ref a1)])) (fun _ hr => XS.aloadN X152.here hx rfl (hb hby d8_51) rfl rfl hr) ?_
          refine Goes.step (T2 := T152) (g2 := (mkF m 54 #[rv a1, rv a2, iv 0, iv 4, .val .null, rv w149] [(.ref w149), (.ref a1)])) (fun _ hr => XS.aload X152.here hx rfl (hb hby d8_52) rfl rfl hr) ?_
          obtain ⟨T153, h153, X153, e153, W153, st153⟩ := putF X152 hx hZ hown (host := "") (Or.inl (tw hw 30 rfl)) Via.refl e152 F_a1_value_152 E_a1_152 (Or.inr ⟨(tw hw 31 rfl), rfl, hnm⟩) (tw hw 4 rfl) (ty := (.array .byte)) (by decide) rfl rfl (g := (mkF m 54 #[rv a1, rv a2, iv 0, iv 4, .val .null, rv w149] [(.ref w149), (.ref a1)])) rfl rfl (hb hby d8_54)
          have E_a1_153 : Exa Z h153 a1 "java/lang/String" := E_a1_152.wr W153
          have V_a2_153 : Arv Z h153 a2 k2 .char (4 : Int32) [(.int c0), (.int c1), (.int c2), (.int c3)] (.int (0 : Int32)) := V_a2_152.other W153 (Ne.symm ne_a1_a2)
          have V_w149_153 : Arv Z h153 w149 kw149 .byte (4 : Int32) [(.int (bL1 c0)), (.int (bL1 c1)), (.int (bL1 c2)), (.int (bL1 c3))] (.int (0 : Int32)) := V_w149_152.other W153 (Ne.symm (Nat.ne_of_lt (Nat.lt_of_lt_of_le E_a1.lt P149_0)))
          have F_a1_coder_153 : Fld Z h153 a1 "java/lang/String" "coder" "B" (.int (0 : Int32)) := F_a1_coder_152.other W153 (Or.inr (slot_ne (Or.inr (tw hw 29 rfl)) (Or.inr (tw hw 31 rfl)) (by decide) (t := .byte) (t' := (.array .byte)) (by decide) (by decide)))
          have K153 : Keep h0 h153 [a1] := K152.wr W153 (Or.inl (List.mem_of_getElem? (i := 0) rfl))
          have N153 := Fr.snoc X153 N152 ge_a1
          have F_a1_value_153 : Fld Z h153 a1 "java/lang/String" "value" "[B" (.ref w149) := F_a1_value_152.same W153
          refine Goes.step (T2 := T153) (g2 := (mkF m 57 #[rv a1, rv a2, iv 0, iv 4, .val .null, rv w149] [])) st153 ?_
          exact Goes.ret (v := none) X153 (by decide) (by decide) (fun _ => rfl) (by show Q_rm_str4 Z a1 a2 k2 cs c0 c1 c2 c3 h0 n0 _ T153.heap _; rw [e153]; exact ⟨rfl, N153, K153, ⟨_, _, F_a1_value_153, Or.inl ⟨F_a1_coder_153, V_w149_153, hlow0, hlow1, hlow2, hlow3⟩⟩⟩) (fun fs hr => X153.returnOut hx Bd.returns (hb hby d8_57) hr)
theorem d9_0 : decode jdk_42_method_3_code 0 = .ok (.aload_n 0, 1) := by decide +kernel
theorem d9_1 : decode jdk_42_method_3_code 1 = .ok (.aload_n 1, 1) := by decide +kernel
theorem d9_2 : decode jdk_42_method_3_code 2 = .ok (.iconst 0, 1) := by decide +kernel
theorem d9_3 : decode jdk_42_method_3_code 3 = .ok (.aload_n 1, 1) := by decide +kernel
theorem d9_4 : decode jdk_42_method_3_code 4 = .ok (.arraylength, 1) := by decide +kernel
theorem d9_5 : decode jdk_42_method_3_code 5 = .ok (.aconst_null, 1) := by decide +kernel
theorem d9_6 : decode jdk_42_method_3_code 6 = .ok (.invokespecial 27, 3) := by decide +kernel
theorem d9_9 : decode jdk_42_method_3_code 9 = .ok (.return_, 1) := by decide +kernel
def Q_rm_str1 (Z : State) (a1 : Addr) (a2 : Addr) (k2 : ClassId) (cs : Int32) (c0 : Int32) (c1 : Int32) (c2 : Int32) (c3 : Int32) (h0 : Heap) (n0 : Nat) (v : Option Value) (h : Heap) (L : List Loc) : Prop := v = none ∧ Fr n0 L ∧ Keep h0 h [a1] ∧ Sch Z h a1 c0 c1 c2 c3
set_option maxRecDepth 65536 in
set_option maxHeartbeats 40000000 in
theorem rm_str1 (l : Launch) (Z : State) (a0 : Array Value) (hw : ∀ d ∈ tables_1, d.before a0 Z = true) (ws : List Jvm.Cond) (a1 : Addr) (a2 : Addr) (k2 : ClassId) (cs : Int32) (c0 : Int32) (c1 : Int32) (c2 : Int32) (c3 : Int32) (h0 : Heap) (n0 : Nat) (Z0 : n0 ≤ h0.size) (O0 : Old Z n0 h0) (E_a1 : Exa Z h0 a1 "java/lang/String") (F_a1_coder : Fld Z h0 a1 "java/lang/String" "coder" "B" (.int (0 : Int32))) (F_a1_value : Fld Z h0 a1 "java/lang/String" "value" "[B" .null) (V_a2 : Arv Z h0 a2 k2 .char (4 : Int32) [(.int c0), (.int c1), (.int c2), (.int c3)] (.int (0 : Int32))) (S_String_COMPACT_STRINGS_old : Sta Z Z.heap "java/lang/String" "COMPACT_STRINGS" "Z" (.int cs)) (S_StringUTF16__assertionsDisabled_old : Sta Z Z.heap "java/lang/StringUTF16" "$assertionsDisabled" "Z" (.int (1 : Int32))) (S_StringUTF16_HI_BYTE_SHIFT_old : Sta Z Z.heap "java/lang/StringUTF16" "HI_BYTE_SHIFT" "I" (.int (0 : Int32))) (S_StringUTF16_LO_BYTE_SHIFT_old : Sta Z Z.heap "java/lang/StringUTF16" "LO_BYTE_SHIFT" "I" (.int (8 : Int32))) (ge_a1 : n0 ≤ a1) (ne_a1_a2 : a1 ≠ a2) (hcs : ¬ (cs = (0 : Int32))) (hb0 : B16 c0) (hb1 : B16 c1) (hb2 : B16 c2) (hb3 : B16 c3) :
    MetFree l Y9 (head1 (Jvm.Cond.code Y9 jdk_42_method_3_code 2 none :: ws) ({ frames := 5, cells := 2, slots := 12, locals := 74 } : Room)) (fun a U => a = #[(.ref a1), (.ref a2)] ∧ Z.Warmed39 U.vm ∧ U.heap = h0) (fun _ _ _ _ _ => True) (fun _ U o U' => ∃ v L, o = .returned v ∧ Q_rm_str1 Z a1 a2 k2 cs c0 c1 c2 c3 h0 n0 v U'.heap L ∧ FrameEnd U o U' L ({ frames := 5, cells := 2, slots := 12, locals := 74 } : Room).cells ({ frames := 5, cells := 2, slots := 12, locals := 74 } : Room).slots) := by
  refine MetFree.of_bodySF (plainFor_of_name pn_java_lang_String) hisR ?_
  intro p e s m args below meth c s₁ Bd hml0 hP hK
  obtain ⟨rfl, hZ, hh⟩ := hP
  have hx := Bd.exec
  have hby := Bd.bytes
  have hml : c.maxLocals = 2 := hml0
  have hown : s.vm.findClass "java/lang/String" = some m.cls := findClass_of_methodNamed Bd.named
  have hnm := (name_of_methodNamed Bd.named Bd.method).1
  have X0 : Stand p l e ({ frames := 5, cells := 2, slots := 12, locals := 74 } : Room) s m #[(.ref a1), (.ref a2)] below meth c s₁ [] 0 0 := Stand.of_body Bd
  have e0 : s₁.heap = h0 := by rw [← hh, Bd.state]; rfl
  have N0 := Fr.nil n0
  refine Goes.out (l := l) (c := c) (R := ({ frames := 5, cells := 2, slots := 12, locals := 74 } : Room)) (Q := Q_rm_str1 Z a1 a2 k2 cs c0 c1 c2 c3 h0 n0) Bd.notSynchronized ?_
  refine Goes.cast (g2 := mkF m 0 #[rv a1, rv a2] []) (by first | (simp [entryFrame, mkF, argsToLocals, Value.category]; done) | rfl) ?_
  have K0 : Keep h0 h0 [a1] := Keep.refl h0 _
  have hws : ∀ x ∈ [a1], n0 ≤ x := (allS ge_a1 all0)
  refine Goes.step (T2 := s₁) (g2 := (mkF m 1 #[rv a1, rv a2] [(.ref a1)])) (fun _ hr => XS.aloadN X0.here hx rfl (hb hby d9_0) rfl rfl hr) ?_
  refine Goes.step (T2 := s₁) (g2 := (mkF m 2 #[rv a1, rv a2] [(.ref a2), (.ref a1)])) (fun _ hr => XS.aloadN X0.here hx rfl (hb hby d9_1) rfl rfl hr) ?_
  refine Goes.step (T2 := s₁) (g2 := (mkF m 3 #[rv a1, rv a2] [(.int (0 : Int32)), (.ref a2), (.ref a1)])) (fun _ hr => XS.iconst X0.here hx rfl (hb hby d9_2) hr) ?_
  refine Goes.step (T2 := s₁) (g2 := (mkF m 4 #[rv a1, rv a2] [(.ref a2), (.int (0 : Int32)), (.ref a2), (.ref a1)])) (fun _ hr => XS.aloadN X0.here hx rfl (hb hby d9_3) rfl rfl hr) ?_
  obtain ⟨cl154, Ar154, -, S154, Nn154, -, -⟩ := id V_a2
  refine Goes.step (T2 := s₁) (g2 := (mkF m 5 #[rv a1, rv a2] [(.int (4 : Int32)), (.int (0 : Int32)), (.ref a2), (.ref a1)])) (fun t hr => X0.arraylength hx (own_at e0 Ar154.1) (State.isArrayOf_alike hZ.alike Ar154.2.1) (g := (mkF m 4 #[rv a1, rv a2] [(.ref a2), (.int (0 : Int32)), (.ref a2), (.ref a1)])) rfl rfl (hb hby d9_4) t (by rw [len_of S154 Nn154]; exact hr)) ?_
  refine Goes.step (T2 := s₁) (g2 := (mkF m 6 #[rv a1, rv a2] [.null, (.int (4 : Int32)), (.int (0 : Int32)), (.ref a2), (.ref a1)])) (fun _ hr => XS.aconstNull X0.here hx rfl (hb hby d9_5) hr) ?_
  have Zs155 : n0 ≤ h0.size := Nat.le_trans Z0 K0.1
  obtain ⟨_, _, ⟨T156, L156, k156, n156⟩, -, X156, ⟨Lc156, hQ156, l156, y156, z156⟩, st156⟩ := X0.specialBack hx (y := Y8) rfl hown (mvT hZ (tw hw 9 rfl)) (mvT hZ (tw hw 10 rfl)) (mvT hZ (tw hw 12 rfl)) (by decide) (backOf (W := 0) (rm_str4 l Z a0 hw [] a1 a2 k2 cs c0 c1 c2 c3 h0 n0 Zs155 (Old.keep O0 K0 hws) E_a1 F_a1_coder F_a1_value V_a2 S_String_COMPACT_STRINGS_old S_StringUTF16__assertionsDisabled_old S_StringUTF16_HI_BYTE_SHIFT_old S_StringUTF16_LO_BYTE_SHIFT_old ge_a1 ne_a1_a2 hcs hb0 hb1 hb2 hb3) hZ (tw hw 12 rfl) (tw hw 5 rfl) (by decide) (by decide)) (g := (mkF m 6 #[rv a1, rv a2] [.null, (.int (4 : Int32)), (.int (0 : Int32)), (.ref a2), (.ref a1)])) rfl (by rw [hml]; rfl) (Steps.refl _) (a := a1) (argsL := [(.ref a2), (.int (0 : Int32)), (.int (4 : Int32)), .null]) (rest := []) (lenOf pd_7 rfl) rfl (by show 2 * 0 + _ ≤ _; exact Nat.le_of_eq rfl) (hb hby d9_6) (fun _ _ => ⟨rfl, e0, (by decide : 0 + 2 ≤ _), (by decide : 0 + 12 ≤ _)⟩)
  dsimp only [Pt.U, Pt.locs, Pt.cells, Pt.slots] at X156 l156 y156 z156 st156 hQ156
  subst l156 y156 z156
  obtain ⟨rfl, N156q, Kc156, P156_0⟩ := hQ156
  have N156 := Fr.app N0 N156q
  have E_a1_156 : Exa Z T156.heap a1 "java/lang/String" := E_a1.keep Kc156
  have V_a2_156 : Arv Z T156.heap a2 k2 .char (4 : Int32) [(.int c0), (.int c1), (.int c2), (.int c3)] (.int (0 : Int32)) := V_a2.keep Kc156 (ninS (Ne.symm ne_a1_a2) nin0)
  have K156 : Keep h0 T156.heap [a1] := K0.trans Kc156 (allS (Or.inl (List.mem_of_getElem? (i := 0) rfl)) all0)
  refine Goes.step (T2 := T156) (g2 := (mkF m 9 #[rv a1, rv a2] [])) (fun _ hr => st156.trans hr) ?_
  exact Goes.ret (v := none) X156 (by decide) (by decide) (fun _ => rfl) (by show Q_rm_str1 Z a1 a2 k2 cs c0 c1 c2 c3 h0 n0 _ T156.heap _; exact ⟨rfl, N156, K156, P156_0⟩) (fun fs hr => X156.returnOut hx Bd.returns (hb hby d9_9) hr)
theorem d10_0 : decode jdk_42_method_154_code 0 = .ok (.getstatic 38, 3) := by decide +kernel
theorem d10_3 : decode jdk_42_method_154_code 3 = .ok (.ifCond .eq 14, 3) := by decide +kernel
theorem d10_6 : decode jdk_42_method_154_code 6 = .ok (.aload_n 0, 1) := by decide +kernel
theorem d10_7 : decode jdk_42_method_154_code 7 = .ok (.getfield 15, 3) := by decide +kernel
theorem d10_10 : decode jdk_42_method_154_code 10 = .ok (.ifCond .ne 7, 3) := by decide +kernel
theorem d10_13 : decode jdk_42_method_154_code 13 = .ok (.iconst 1, 1) := by decide +kernel
theorem d10_14 : decode jdk_42_method_154_code 14 = .ok (.goto 4, 3) := by decide +kernel
theorem d10_18 : decode jdk_42_method_154_code 18 = .ok (.ireturn, 1) := by decide +kernel
def Q_rm_isl0 (Z : State) (a1 : Addr) (cs : Int32) (h0 : Heap) (n0 : Nat) (v : Option Value) (h : Heap) (L : List Loc) : Prop := v = some (.int (1 : Int32)) ∧ Fr n0 L ∧ h = h0
set_option maxRecDepth 65536 in
set_option maxHeartbeats 40000000 in
theorem rm_isl0 (l : Launch) (Z : State) (a0 : Array Value) (hw : ∀ d ∈ tables_1, d.before a0 Z = true) (ws : List Jvm.Cond) (a1 : Addr) (cs : Int32) (h0 : Heap) (n0 : Nat) (Z0 : n0 ≤ h0.size) (O0 : Old Z n0 h0) (F_a1_coder : Fld Z h0 a1 "java/lang/String" "coder" "B" (.int (0 : Int32))) (S_String_COMPACT_STRINGS_old : Sta Z Z.heap "java/lang/String" "COMPACT_STRINGS" "Z" (.int cs)) (hcs : ¬ (cs = (0 : Int32))) :
    MetFree l Y10 (head1 (Jvm.Cond.code Y10 jdk_42_method_154_code 1 (some .boolean) :: ws) ({ frames := 0, cells := 0, slots := 0, locals := 0 } : Room)) (fun a U => a = #[(.ref a1)] ∧ Z.Warmed39 U.vm ∧ U.heap = h0) (fun _ _ _ _ _ => True) (fun _ U o U' => ∃ v L, o = .returned v ∧ Q_rm_isl0 Z a1 cs h0 n0 v U'.heap L ∧ FrameEnd U o U' L ({ frames := 0, cells := 0, slots := 0, locals := 0 } : Room).cells ({ frames := 0, cells := 0, slots := 0, locals := 0 } : Room).slots) := by
  refine MetFree.of_bodySF (plainFor_of_name pn_java_lang_String) hisR ?_
  intro p e s m args below meth c s₁ Bd hml0 hP hK
  obtain ⟨rfl, hZ, hh⟩ := hP
  have hx := Bd.exec
  have hby := Bd.bytes
  have hml : c.maxLocals = 1 := hml0
  have hown : s.vm.findClass "java/lang/String" = some m.cls := findClass_of_methodNamed Bd.named
  have hnm := (name_of_methodNamed Bd.named Bd.method).1
  have X0 : Stand p l e ({ frames := 0, cells := 0, slots := 0, locals := 0 } : Room) s m #[(.ref a1)] below meth c s₁ [] 0 0 := Stand.of_body Bd
  have e0 : s₁.heap = h0 := by rw [← hh, Bd.state]; rfl
  have N0 := Fr.nil n0
  refine Goes.out (l := l) (c := c) (R := ({ frames := 0, cells := 0, slots := 0, locals := 0 } : Room)) (Q := Q_rm_isl0 Z a1 cs h0 n0) Bd.notSynchronized ?_
  refine Goes.cast (g2 := mkF m 0 #[rv a1] []) (by first | (simp [entryFrame, mkF, argsToLocals, Value.category]; done) | rfl) ?_
  have K0 : Keep h0 h0 [] := Keep.refl h0 _
  have hws : ∀ x ∈ ([] : List Addr), n0 ≤ x := all0
  obtain ⟨T157, X157, e157, st157⟩ := getS2 X0 hx hZ hown (host := "") (Or.inl (tw hw 16 rfl)) Via.refl e0 (S_String_COMPACT_STRINGS_old.ext (Old.keep O0 K0 hws).2) (g := (mkF m 0 #[rv a1] [])) rfl (hb hby d10_0)
  refine Goes.step (T2 := T157) (g2 := (mkF m 3 #[rv a1] [(.int cs)])) st157 ?_
  refine Goes.step (T2 := T157) (g2 := (mkF m 6 #[rv a1] [])) (fun _ hr => XS.ifNo X157.here hx rfl (hb hby d10_3) rfl ((if0 _ _).trans (feq (hcs : ¬ (cs = (0 : Int32)))).1) hr) ?_
  refine Goes.step (T2 := T157) (g2 := (mkF m 7 #[rv a1] [(.ref a1)])) (fun _ hr => XS.aloadN X157.here hx rfl (hb hby d10_6) rfl rfl hr) ?_
  obtain ⟨T158, X158, e158, st158⟩ := getF X157 hx hZ hown (host := "") (Or.inl (tw hw 28 rfl)) Via.refl e157 F_a1_coder (g := (mkF m 7 #[rv a1] [(.ref a1)])) rfl rfl (hb hby d10_7)
  refine Goes.step (T2 := T158) (g2 := (mkF m 10 #[rv a1] [(.int (0 : Int32))])) st158 ?_
  refine Goes.step (T2 := T158) (g2 := (mkF m 13 #[rv a1] [])) (fun _ hr => XS.ifNo X158.here hx rfl (hb hby d10_10) rfl ((if0 _ _).trans (teq (by decide : (0 : Int32) = (0 : Int32))).2) hr) ?_
  refine Goes.step (T2 := T158) (g2 := (mkF m 14 #[rv a1] [(.int (1 : Int32))])) (fun _ hr => XS.iconst X158.here hx rfl (hb hby d10_13) hr) ?_
  refine Goes.step (T2 := T158) (g2 := (mkF m 18 #[rv a1] [(.int (1 : Int32))])) (fun _ hr => XS.goto X158.here hx rfl (pc0 := 14) (pc' := 18) rfl (hb hby d10_14) (by decide) (by decide) hr) ?_
  exact Goes.ret (v := some (.int (1 : Int32))) X158 (by decide) (by decide) (fun h => by rw [Bd.returns] at h; cases h) ⟨rfl, N0, e158⟩ (fun fs hr => retN X158 hx (t := .boolean) Bd.returns (by simp) (hb hby d10_18) hr)
theorem d10_17 : decode jdk_42_method_154_code 17 = .ok (.iconst 0, 1) := by decide +kernel
def Q_rm_isl1 (Z : State) (a1 : Addr) (cs : Int32) (h0 : Heap) (n0 : Nat) (v : Option Value) (h : Heap) (L : List Loc) : Prop := v = some (.int (0 : Int32)) ∧ Fr n0 L ∧ h = h0
set_option maxRecDepth 65536 in
set_option maxHeartbeats 40000000 in
theorem rm_isl1 (l : Launch) (Z : State) (a0 : Array Value) (hw : ∀ d ∈ tables_1, d.before a0 Z = true) (ws : List Jvm.Cond) (a1 : Addr) (cs : Int32) (h0 : Heap) (n0 : Nat) (Z0 : n0 ≤ h0.size) (O0 : Old Z n0 h0) (F_a1_coder : Fld Z h0 a1 "java/lang/String" "coder" "B" (.int (1 : Int32))) (S_String_COMPACT_STRINGS_old : Sta Z Z.heap "java/lang/String" "COMPACT_STRINGS" "Z" (.int cs)) (hcs : ¬ (cs = (0 : Int32))) :
    MetFree l Y10 (head1 (Jvm.Cond.code Y10 jdk_42_method_154_code 1 (some .boolean) :: ws) ({ frames := 0, cells := 0, slots := 0, locals := 0 } : Room)) (fun a U => a = #[(.ref a1)] ∧ Z.Warmed39 U.vm ∧ U.heap = h0) (fun _ _ _ _ _ => True) (fun _ U o U' => ∃ v L, o = .returned v ∧ Q_rm_isl1 Z a1 cs h0 n0 v U'.heap L ∧ FrameEnd U o U' L ({ frames := 0, cells := 0, slots := 0, locals := 0 } : Room).cells ({ frames := 0, cells := 0, slots := 0, locals := 0 } : Room).slots) := by
  refine MetFree.of_bodySF (plainFor_of_name pn_java_lang_String) hisR ?_
  intro p e s m args below meth c s₁ Bd hml0 hP hK
  obtain ⟨rfl, hZ, hh⟩ := hP
  have hx := Bd.exec
  have hby := Bd.bytes
  have hml : c.maxLocals = 1 := hml0
  have hown : s.vm.findClass "java/lang/String" = some m.cls := findClass_of_methodNamed Bd.named
  have hnm := (name_of_methodNamed Bd.named Bd.method).1
  have X0 : Stand p l e ({ frames := 0, cells := 0, slots := 0, locals := 0 } : Room) s m #[(.ref a1)] below meth c s₁ [] 0 0 := Stand.of_body Bd
  have e0 : s₁.heap = h0 := by rw [← hh, Bd.state]; rfl
  have N0 := Fr.nil n0
  refine Goes.out (l := l) (c := c) (R := ({ frames := 0, cells := 0, slots := 0, locals := 0 } : Room)) (Q := Q_rm_isl1 Z a1 cs h0 n0) Bd.notSynchronized ?_
  refine Goes.cast (g2 := mkF m 0 #[rv a1] []) (by first | (simp [entryFrame, mkF, argsToLocals, Value.category]; done) | rfl) ?_
  have K0 : Keep h0 h0 [] := Keep.refl h0 _
  have hws : ∀ x ∈ ([] : List Addr), n0 ≤ x := all0
  obtain ⟨T159, X159, e159, st159⟩ := getS2 X0 hx hZ hown (host := "") (Or.inl (tw hw 16 rfl)) Via.refl e0 (S_String_COMPACT_STRINGS_old.ext (Old.keep O0 K0 hws).2) (g := (mkF m 0 #[rv a1] [])) rfl (hb hby d10_0)
  refine Goes.step (T2 := T159) (g2 := (mkF m 3 #[rv a1] [(.int cs)])) st159 ?_
  refine Goes.step (T2 := T159) (g2 := (mkF m 6 #[rv a1] [])) (fun _ hr => XS.ifNo X159.here hx rfl (hb hby d10_3) rfl ((if0 _ _).trans (feq (hcs : ¬ (cs = (0 : Int32)))).1) hr) ?_
  refine Goes.step (T2 := T159) (g2 := (mkF m 7 #[rv a1] [(.ref a1)])) (fun _ hr => XS.aloadN X159.here hx rfl (hb hby d10_6) rfl rfl hr) ?_
  obtain ⟨T160, X160, e160, st160⟩ := getF X159 hx hZ hown (host := "") (Or.inl (tw hw 28 rfl)) Via.refl e159 F_a1_coder (g := (mkF m 7 #[rv a1] [(.ref a1)])) rfl rfl (hb hby d10_7)
  refine Goes.step (T2 := T160) (g2 := (mkF m 10 #[rv a1] [(.int (1 : Int32))])) st160 ?_
  refine Goes.step (T2 := T160) (g2 := (mkF m 17 #[rv a1] [])) (fun _ hr => XS.ifYes X160.here hx rfl (pc0 := 10) (pc' := 17) rfl (hb hby d10_10) rfl ((if0 _ _).trans (feq (by decide : ¬ ((1 : Int32) = (0 : Int32)))).2) (by decide) (by decide) hr) ?_
  refine Goes.step (T2 := T160) (g2 := (mkF m 18 #[rv a1] [(.int (0 : Int32))])) (fun _ hr => XS.iconst X160.here hx rfl (hb hby d10_17) hr) ?_
  exact Goes.ret (v := some (.int (0 : Int32))) X160 (by decide) (by decide) (fun h => by rw [Bd.returns] at h; cases h) ⟨rfl, N0, e160⟩ (fun fs hr => retN X160 hx (t := .boolean) Bd.returns (by simp) (hb hby d10_18) hr)
theorem d11_0 : decode jdk_41_method_11_code 0 = .ok (.iload_n 0, 1) := by decide +kernel
theorem d11_1 : decode jdk_41_method_11_code 1 = .ok (.ifCond .lt 8, 3) := by decide +kernel
theorem d11_4 : decode jdk_41_method_11_code 4 = .ok (.iload_n 0, 1) := by decide +kernel
theorem d11_5 : decode jdk_41_method_11_code 5 = .ok (.iload_n 1, 1) := by decide +kernel
theorem d11_6 : decode jdk_41_method_11_code 6 = .ok (.if_icmp .lt 10, 3) := by decide +kernel
theorem d11_16 : decode jdk_41_method_11_code 16 = .ok (.iload_n 0, 1) := by decide +kernel
theorem d11_17 : decode jdk_41_method_11_code 17 = .ok (.ireturn, 1) := by decide +kernel
theorem pn_jdk_internal_util_Preconditions : plainName "jdk/internal/util/Preconditions" = true := by first | (simp [plainName, overriddenIn]; done) | decide +kernel
def Q_rm_pci0N (Z : State)  (h0 : Heap) (n0 : Nat) (v : Option Value) (h : Heap) (L : List Loc) : Prop := v = some (.int (0 : Int32)) ∧ Fr n0 L ∧ h = h0
set_option maxRecDepth 65536 in
set_option maxHeartbeats 40000000 in
theorem rm_pci0N (l : Launch) (Z : State) (a0 : Array Value) (hw : ∀ d ∈ tables_1, d.before a0 Z = true) (ws : List Jvm.Cond)  (h0 : Heap) (n0 : Nat) (Z0 : n0 ≤ h0.size) (O0 : Old Z n0 h0) :
    MetFree l Y11 (head1 (Jvm.Cond.code Y11 jdk_41_method_11_code 3 (some .int) :: ws) ({ frames := 0, cells := 0, slots := 0, locals := 0 } : Room)) (fun a U => a = #[(.int (0 : Int32)), (.int (4 : Int32)), .null] ∧ Z.Warmed39 U.vm ∧ U.heap = h0) (fun _ _ _ _ _ => True) (fun _ U o U' => ∃ v L, o = .returned v ∧ Q_rm_pci0N Z  h0 n0 v U'.heap L ∧ FrameEnd U o U' L ({ frames := 0, cells := 0, slots := 0, locals := 0 } : Room).cells ({ frames := 0, cells := 0, slots := 0, locals := 0 } : Room).slots) := by
  refine MetFree.of_bodySF (plainFor_of_name pn_jdk_internal_util_Preconditions) hisR ?_
  intro p e s m args below meth c s₁ Bd hml0 hP hK
  obtain ⟨rfl, hZ, hh⟩ := hP
  have hx := Bd.exec
  have hby := Bd.bytes
  have hml : c.maxLocals = 3 := hml0
  have hown : s.vm.findClass "jdk/internal/util/Preconditions" = some m.cls := findClass_of_methodNamed Bd.named
  have hnm := (name_of_methodNamed Bd.named Bd.method).1
  have X0 : Stand p l e ({ frames := 0, cells := 0, slots := 0, locals := 0 } : Room) s m #[(.int (0 : Int32)), (.int (4 : Int32)), .null] below meth c s₁ [] 0 0 := Stand.of_body Bd
  have e0 : s₁.heap = h0 := by rw [← hh, Bd.state]; rfl
  have N0 := Fr.nil n0
  refine Goes.out (l := l) (c := c) (R := ({ frames := 0, cells := 0, slots := 0, locals := 0 } : Room)) (Q := Q_rm_pci0N Z  h0 n0) Bd.notSynchronized ?_
  refine Goes.cast (g2 := mkF m 0 #[iv 0, iv 4, .val .null] []) (by first | (simp [entryFrame, mkF, argsToLocals, Value.category]; done) | rfl) ?_
  have K0 : Keep h0 h0 [] := Keep.refl h0 _
  have hws : ∀ x ∈ ([] : List Addr), n0 ≤ x := all0
  refine Goes.step (T2 := s₁) (g2 := (mkF m 1 #[iv 0, iv 4, .val .null] [(.int (0 : Int32))])) (fun _ hr => XS.iloadN X0.here hx rfl (hb hby d11_0) rfl  hr) ?_
  refine Goes.step (T2 := s₁) (g2 := (mkF m 4 #[iv 0, iv 4, .val .null] [])) (fun _ hr => XS.ifNo X0.here hx rfl (hb hby d11_1) rfl ((if0 _ _).trans (flt (by decide : ¬ ((0 : Int32) < (0 : Int32)))).1) hr) ?_
  refine Goes.step (T2 := s₁) (g2 := (mkF m 5 #[iv 0, iv 4, .val .null] [(.int (0 : Int32))])) (fun _ hr => XS.iloadN X0.here hx rfl (hb hby d11_4) rfl  hr) ?_
  refine Goes.step (T2 := s₁) (g2 := (mkF m 6 #[iv 0, iv 4, .val .null] [(.int (4 : Int32)), (.int (0 : Int32))])) (fun _ hr => XS.iloadN X0.here hx rfl (hb hby d11_5) rfl  hr) ?_
  refine Goes.step (T2 := s₁) (g2 := (mkF m 16 #[iv 0, iv 4, .val .null] [])) (fun _ hr => XS.icmpYes X0.here hx rfl (pc0 := 6) (pc' := 16) rfl (hb hby d11_6) rfl (tlt (by decide : (0 : Int32) < (4 : Int32))).1 (by decide) (by decide) hr) ?_
  refine Goes.step (T2 := s₁) (g2 := (mkF m 17 #[iv 0, iv 4, .val .null] [(.int (0 : Int32))])) (fun _ hr => XS.iloadN X0.here hx rfl (hb hby d11_16) rfl  hr) ?_
  exact Goes.ret (v := some (.int (0 : Int32))) X0 (by decide) (by decide) (fun h => by rw [Bd.returns] at h; cases h) ⟨rfl, N0, e0⟩ (fun fs hr => retOut X0 hx Bd.returns rfl (Or.inl ⟨rfl, Or.inl rfl, _, rfl⟩) (hb hby d11_17) hr)
def Q_rm_pci0R (Z : State) (a1 : Addr) (h0 : Heap) (n0 : Nat) (v : Option Value) (h : Heap) (L : List Loc) : Prop := v = some (.int (0 : Int32)) ∧ Fr n0 L ∧ h = h0
set_option maxRecDepth 65536 in
set_option maxHeartbeats 40000000 in
theorem rm_pci0R (l : Launch) (Z : State) (a0 : Array Value) (hw : ∀ d ∈ tables_1, d.before a0 Z = true) (ws : List Jvm.Cond) (a1 : Addr) (h0 : Heap) (n0 : Nat) (Z0 : n0 ≤ h0.size) (O0 : Old Z n0 h0) :
    MetFree l Y11 (head1 (Jvm.Cond.code Y11 jdk_41_method_11_code 3 (some .int) :: ws) ({ frames := 0, cells := 0, slots := 0, locals := 0 } : Room)) (fun a U => a = #[(.int (0 : Int32)), (.int (4 : Int32)), (.ref a1)] ∧ Z.Warmed39 U.vm ∧ U.heap = h0) (fun _ _ _ _ _ => True) (fun _ U o U' => ∃ v L, o = .returned v ∧ Q_rm_pci0R Z a1 h0 n0 v U'.heap L ∧ FrameEnd U o U' L ({ frames := 0, cells := 0, slots := 0, locals := 0 } : Room).cells ({ frames := 0, cells := 0, slots := 0, locals := 0 } : Room).slots) := by
  refine MetFree.of_bodySF (plainFor_of_name pn_jdk_internal_util_Preconditions) hisR ?_
  intro p e s m args below meth c s₁ Bd hml0 hP hK
  obtain ⟨rfl, hZ, hh⟩ := hP
  have hx := Bd.exec
  have hby := Bd.bytes
  have hml : c.maxLocals = 3 := hml0
  have hown : s.vm.findClass "jdk/internal/util/Preconditions" = some m.cls := findClass_of_methodNamed Bd.named
  have hnm := (name_of_methodNamed Bd.named Bd.method).1
  have X0 : Stand p l e ({ frames := 0, cells := 0, slots := 0, locals := 0 } : Room) s m #[(.int (0 : Int32)), (.int (4 : Int32)), (.ref a1)] below meth c s₁ [] 0 0 := Stand.of_body Bd
  have e0 : s₁.heap = h0 := by rw [← hh, Bd.state]; rfl
  have N0 := Fr.nil n0
  refine Goes.out (l := l) (c := c) (R := ({ frames := 0, cells := 0, slots := 0, locals := 0 } : Room)) (Q := Q_rm_pci0R Z a1 h0 n0) Bd.notSynchronized ?_
  refine Goes.cast (g2 := mkF m 0 #[iv 0, iv 4, rv a1] []) (by first | (simp [entryFrame, mkF, argsToLocals, Value.category]; done) | rfl) ?_
  have K0 : Keep h0 h0 [] := Keep.refl h0 _
  have hws : ∀ x ∈ ([] : List Addr), n0 ≤ x := all0
  refine Goes.step (T2 := s₁) (g2 := (mkF m 1 #[iv 0, iv 4, rv a1] [(.int (0 : Int32))])) (fun _ hr => XS.iloadN X0.here hx rfl (hb hby d11_0) rfl  hr) ?_
  refine Goes.step (T2 := s₁) (g2 := (mkF m 4 #[iv 0, iv 4, rv a1] [])) (fun _ hr => XS.ifNo X0.here hx rfl (hb hby d11_1) rfl ((if0 _ _).trans (flt (by decide : ¬ ((0 : Int32) < (0 : Int32)))).1) hr) ?_
  refine Goes.step (T2 := s₁) (g2 := (mkF m 5 #[iv 0, iv 4, rv a1] [(.int (0 : Int32))])) (fun _ hr => XS.iloadN X0.here hx rfl (hb hby d11_4) rfl  hr) ?_
  refine Goes.step (T2 := s₁) (g2 := (mkF m 6 #[iv 0, iv 4, rv a1] [(.int (4 : Int32)), (.int (0 : Int32))])) (fun _ hr => XS.iloadN X0.here hx rfl (hb hby d11_5) rfl  hr) ?_
  refine Goes.step (T2 := s₁) (g2 := (mkF m 16 #[iv 0, iv 4, rv a1] [])) (fun _ hr => XS.icmpYes X0.here hx rfl (pc0 := 6) (pc' := 16) rfl (hb hby d11_6) rfl (tlt (by decide : (0 : Int32) < (4 : Int32))).1 (by decide) (by decide) hr) ?_
  refine Goes.step (T2 := s₁) (g2 := (mkF m 17 #[iv 0, iv 4, rv a1] [(.int (0 : Int32))])) (fun _ hr => XS.iloadN X0.here hx rfl (hb hby d11_16) rfl  hr) ?_
  exact Goes.ret (v := some (.int (0 : Int32))) X0 (by decide) (by decide) (fun h => by rw [Bd.returns] at h; cases h) ⟨rfl, N0, e0⟩ (fun fs hr => retOut X0 hx Bd.returns rfl (Or.inl ⟨rfl, Or.inl rfl, _, rfl⟩) (hb hby d11_17) hr)
theorem d12_0 : decode jdk_42_method_155_code 0 = .ok (.iload_n 0, 1) := by decide +kernel
theorem d12_1 : decode jdk_42_method_155_code 1 = .ok (.iload_n 1, 1) := by decide +kernel
theorem d12_2 : decode jdk_42_method_155_code 2 = .ok (.getstatic 1053, 3) := by decide +kernel
theorem d12_5 : decode jdk_42_method_155_code 5 = .ok (.invokestatic 1059, 3) := by decide +kernel
theorem d12_8 : decode jdk_42_method_155_code 8 = .ok (.pop, 1) := by decide +kernel
theorem d12_9 : decode jdk_42_method_155_code 9 = .ok (.return_, 1) := by decide +kernel
def Q_rm_ci0 (Z : State) (vf : Value) (h0 : Heap) (n0 : Nat) (v : Option Value) (h : Heap) (L : List Loc) : Prop := v = none ∧ Fr n0 L ∧ h = h0
set_option maxRecDepth 65536 in
set_option maxHeartbeats 40000000 in
theorem rm_ci0 (l : Launch) (Z : State) (a0 : Array Value) (hw : ∀ d ∈ tables_1, d.before a0 Z = true) (ws : List Jvm.Cond) (vf : Value) (h0 : Heap) (n0 : Nat) (Z0 : n0 ≤ h0.size) (O0 : Old Z n0 h0) (S_Preconditions_SIOOBE_FORMATTER_old : Sta Z Z.heap "jdk/internal/util/Preconditions" "SIOOBE_FORMATTER" "Ljava/util/function/BiFunction;" vf) (hvf : vf.isRef = true) :
    MetFree l Y12 (head1 (Jvm.Cond.code Y12 jdk_42_method_155_code 2 none :: ws) ({ frames := 1, cells := 0, slots := 0, locals := 14 } : Room)) (fun a U => a = #[(.int (0 : Int32)), (.int (4 : Int32))] ∧ Z.Warmed39 U.vm ∧ U.heap = h0) (fun _ _ _ _ _ => True) (fun _ U o U' => ∃ v L, o = .returned v ∧ Q_rm_ci0 Z vf h0 n0 v U'.heap L ∧ FrameEnd U o U' L ({ frames := 1, cells := 0, slots := 0, locals := 14 } : Room).cells ({ frames := 1, cells := 0, slots := 0, locals := 14 } : Room).slots) := by
  refine MetFree.of_bodySF (plainFor_of_name pn_java_lang_String) hisR ?_
  intro p e s m args below meth c s₁ Bd hml0 hP hK
  obtain ⟨rfl, hZ, hh⟩ := hP
  have hx := Bd.exec
  have hby := Bd.bytes
  have hml : c.maxLocals = 2 := hml0
  have hown : s.vm.findClass "java/lang/String" = some m.cls := findClass_of_methodNamed Bd.named
  have hnm := (name_of_methodNamed Bd.named Bd.method).1
  have X0 : Stand p l e ({ frames := 1, cells := 0, slots := 0, locals := 14 } : Room) s m #[(.int (0 : Int32)), (.int (4 : Int32))] below meth c s₁ [] 0 0 := Stand.of_body Bd
  have e0 : s₁.heap = h0 := by rw [← hh, Bd.state]; rfl
  have N0 := Fr.nil n0
  refine Goes.out (l := l) (c := c) (R := ({ frames := 1, cells := 0, slots := 0, locals := 14 } : Room)) (Q := Q_rm_ci0 Z vf h0 n0) Bd.notSynchronized ?_
  refine Goes.cast (g2 := mkF m 0 #[iv 0, iv 4] []) (by first | (simp [entryFrame, mkF, argsToLocals, Value.category]; done) | rfl) ?_
  have K0 : Keep h0 h0 [] := Keep.refl h0 _
  have hws : ∀ x ∈ ([] : List Addr), n0 ≤ x := all0
  rcases ref_cases hvf with rfl | ⟨vfa, rfl⟩
  · refine Goes.step (T2 := s₁) (g2 := (mkF m 1 #[iv 0, iv 4] [(.int (0 : Int32))])) (fun _ hr => XS.iloadN X0.here hx rfl (hb hby d12_0) rfl  hr) ?_
    refine Goes.step (T2 := s₁) (g2 := (mkF m 2 #[iv 0, iv 4] [(.int (4 : Int32)), (.int (0 : Int32))])) (fun _ hr => XS.iloadN X0.here hx rfl (hb hby d12_1) rfl  hr) ?_
    obtain ⟨T161, X161, e161, st161⟩ := getS2 X0 hx hZ hown (host := "") (Or.inl (tw hw 76 rfl)) Via.refl e0 (S_Preconditions_SIOOBE_FORMATTER_old.ext (Old.keep O0 K0 hws).2) (g := (mkF m 2 #[iv 0, iv 4] [(.int (4 : Int32)), (.int (0 : Int32))])) rfl (hb hby d12_2)
    refine Goes.step (T2 := T161) (g2 := (mkF m 5 #[iv 0, iv 4] [.null, (.int (4 : Int32)), (.int (0 : Int32))])) st161 ?_
    have Zs162 : n0 ≤ h0.size := Nat.le_trans Z0 K0.1
    obtain ⟨_, _, ⟨T163, L163, k163, n163⟩, -, X163, ⟨Lc163, hQ163, l163, y163, z163⟩, st163⟩ := Jvm.LawKit.callS X161 hx (y := Y11) hown (mvT hZ (tw hw 78 rfl)) (mvT hZ (tw hw 79 rfl)) (mvT hZ (tw hw 77 rfl)) (mvT hZ (tw hw 80 rfl)) (by decide) (backOf (W := 0) (rm_pci0N l Z a0 hw []  h0 n0 Zs162 (Old.keep O0 K0 hws)) hZ (tw hw 80 rfl) (tw hw 77 rfl) (by decide) (by decide)) (g := (mkF m 5 #[iv 0, iv 4] [.null, (.int (4 : Int32)), (.int (0 : Int32))])) rfl (by rw [hml]; rfl) (argsL := [(.int (0 : Int32)), (.int (4 : Int32)), .null]) (rest := []) (lenOf pd_8 rfl) rfl (by show 2 * 0 + _ ≤ _; exact Nat.le_of_eq rfl) (hb hby d12_5) (fun _ _ => ⟨rfl, e161, (by decide : 0 + 0 ≤ _), (by decide : 0 + 0 ≤ _)⟩)
    dsimp only [Pt.U, Pt.locs, Pt.cells, Pt.slots] at X163 l163 y163 z163 st163 hQ163
    subst l163 y163 z163
    obtain ⟨rfl, N163q, e163⟩ := hQ163
    have N163 := Fr.app N0 N163q
    refine Goes.step (T2 := T163) (g2 := (mkF m 8 #[iv 0, iv 4] [(.int (0 : Int32))])) st163 ?_
    refine Goes.step (T2 := T163) (g2 := (mkF m 9 #[iv 0, iv 4] [])) (fun _ hr => Jvm.Free.XT.pop X163.here hx rfl (hb hby d12_8) rfl rfl hr) ?_
    exact Goes.ret (v := none) X163 (by decide) (by decide) (fun _ => rfl) ⟨rfl, N163, e163⟩ (fun fs hr => X163.returnOut hx Bd.returns (hb hby d12_9) hr)
  · refine Goes.step (T2 := s₁) (g2 := (mkF m 1 #[iv 0, iv 4] [(.int (0 : Int32))])) (fun _ hr => XS.iloadN X0.here hx rfl (hb hby d12_0) rfl  hr) ?_
    refine Goes.step (T2 := s₁) (g2 := (mkF m 2 #[iv 0, iv 4] [(.int (4 : Int32)), (.int (0 : Int32))])) (fun _ hr => XS.iloadN X0.here hx rfl (hb hby d12_1) rfl  hr) ?_
    obtain ⟨T164, X164, e164, st164⟩ := getS2 X0 hx hZ hown (host := "") (Or.inl (tw hw 76 rfl)) Via.refl e0 (S_Preconditions_SIOOBE_FORMATTER_old.ext (Old.keep O0 K0 hws).2) (g := (mkF m 2 #[iv 0, iv 4] [(.int (4 : Int32)), (.int (0 : Int32))])) rfl (hb hby d12_2)
    refine Goes.step (T2 := T164) (g2 := (mkF m 5 #[iv 0, iv 4] [(.ref vfa), (.int (4 : Int32)), (.int (0 : Int32))])) st164 ?_
    have Zs165 : n0 ≤ h0.size := Nat.le_trans Z0 K0.1
    obtain ⟨_, _, ⟨T166, L166, k166, n166⟩, -, X166, ⟨Lc166, hQ166, l166, y166, z166⟩, st166⟩ := Jvm.LawKit.callS X164 hx (y := Y11) hown (mvT hZ (tw hw 78 rfl)) (mvT hZ (tw hw 79 rfl)) (mvT hZ (tw hw 77 rfl)) (mvT hZ (tw hw 80 rfl)) (by decide) (backOf (W := 0) (rm_pci0R l Z a0 hw [] vfa h0 n0 Zs165 (Old.keep O0 K0 hws)) hZ (tw hw 80 rfl) (tw hw 77 rfl) (by decide) (by decide)) (g := (mkF m 5 #[iv 0, iv 4] [(.ref vfa), (.int (4 : Int32)), (.int (0 : Int32))])) rfl (by rw [hml]; rfl) (argsL := [(.int (0 : Int32)), (.int (4 : Int32)), (.ref vfa)]) (rest := []) (lenOf pd_8 rfl) rfl (by show 2 * 0 + _ ≤ _; exact Nat.le_of_eq rfl) (hb hby d12_5) (fun _ _ => ⟨rfl, e164, (by decide : 0 + 0 ≤ _), (by decide : 0 + 0 ≤ _)⟩)
    dsimp only [Pt.U, Pt.locs, Pt.cells, Pt.slots] at X166 l166 y166 z166 st166 hQ166
    subst l166 y166 z166
    obtain ⟨rfl, N166q, e166⟩ := hQ166
    have N166 := Fr.app N0 N166q
    refine Goes.step (T2 := T166) (g2 := (mkF m 8 #[iv 0, iv 4] [(.int (0 : Int32))])) st166 ?_
    refine Goes.step (T2 := T166) (g2 := (mkF m 9 #[iv 0, iv 4] [])) (fun _ hr => Jvm.Free.XT.pop X166.here hx rfl (hb hby d12_8) rfl rfl hr) ?_
    exact Goes.ret (v := none) X166 (by decide) (by decide) (fun _ => rfl) ⟨rfl, N166, e166⟩ (fun fs hr => X166.returnOut hx Bd.returns (hb hby d12_9) hr)
def Q_rm_pci1N (Z : State)  (h0 : Heap) (n0 : Nat) (v : Option Value) (h : Heap) (L : List Loc) : Prop := v = some (.int (1 : Int32)) ∧ Fr n0 L ∧ h = h0
set_option maxRecDepth 65536 in
set_option maxHeartbeats 40000000 in
theorem rm_pci1N (l : Launch) (Z : State) (a0 : Array Value) (hw : ∀ d ∈ tables_1, d.before a0 Z = true) (ws : List Jvm.Cond)  (h0 : Heap) (n0 : Nat) (Z0 : n0 ≤ h0.size) (O0 : Old Z n0 h0) :
    MetFree l Y11 (head1 (Jvm.Cond.code Y11 jdk_41_method_11_code 3 (some .int) :: ws) ({ frames := 0, cells := 0, slots := 0, locals := 0 } : Room)) (fun a U => a = #[(.int (1 : Int32)), (.int (4 : Int32)), .null] ∧ Z.Warmed39 U.vm ∧ U.heap = h0) (fun _ _ _ _ _ => True) (fun _ U o U' => ∃ v L, o = .returned v ∧ Q_rm_pci1N Z  h0 n0 v U'.heap L ∧ FrameEnd U o U' L ({ frames := 0, cells := 0, slots := 0, locals := 0 } : Room).cells ({ frames := 0, cells := 0, slots := 0, locals := 0 } : Room).slots) := by
  refine MetFree.of_bodySF (plainFor_of_name pn_jdk_internal_util_Preconditions) hisR ?_
  intro p e s m args below meth c s₁ Bd hml0 hP hK
  obtain ⟨rfl, hZ, hh⟩ := hP
  have hx := Bd.exec
  have hby := Bd.bytes
  have hml : c.maxLocals = 3 := hml0
  have hown : s.vm.findClass "jdk/internal/util/Preconditions" = some m.cls := findClass_of_methodNamed Bd.named
  have hnm := (name_of_methodNamed Bd.named Bd.method).1
  have X0 : Stand p l e ({ frames := 0, cells := 0, slots := 0, locals := 0 } : Room) s m #[(.int (1 : Int32)), (.int (4 : Int32)), .null] below meth c s₁ [] 0 0 := Stand.of_body Bd
  have e0 : s₁.heap = h0 := by rw [← hh, Bd.state]; rfl
  have N0 := Fr.nil n0
  refine Goes.out (l := l) (c := c) (R := ({ frames := 0, cells := 0, slots := 0, locals := 0 } : Room)) (Q := Q_rm_pci1N Z  h0 n0) Bd.notSynchronized ?_
  refine Goes.cast (g2 := mkF m 0 #[iv 1, iv 4, .val .null] []) (by first | (simp [entryFrame, mkF, argsToLocals, Value.category]; done) | rfl) ?_
  have K0 : Keep h0 h0 [] := Keep.refl h0 _
  have hws : ∀ x ∈ ([] : List Addr), n0 ≤ x := all0
  refine Goes.step (T2 := s₁) (g2 := (mkF m 1 #[iv 1, iv 4, .val .null] [(.int (1 : Int32))])) (fun _ hr => XS.iloadN X0.here hx rfl (hb hby d11_0) rfl  hr) ?_
  refine Goes.step (T2 := s₁) (g2 := (mkF m 4 #[iv 1, iv 4, .val .null] [])) (fun _ hr => XS.ifNo X0.here hx rfl (hb hby d11_1) rfl ((if0 _ _).trans (flt (by decide : ¬ ((1 : Int32) < (0 : Int32)))).1) hr) ?_
  refine Goes.step (T2 := s₁) (g2 := (mkF m 5 #[iv 1, iv 4, .val .null] [(.int (1 : Int32))])) (fun _ hr => XS.iloadN X0.here hx rfl (hb hby d11_4) rfl  hr) ?_
  refine Goes.step (T2 := s₁) (g2 := (mkF m 6 #[iv 1, iv 4, .val .null] [(.int (4 : Int32)), (.int (1 : Int32))])) (fun _ hr => XS.iloadN X0.here hx rfl (hb hby d11_5) rfl  hr) ?_
  refine Goes.step (T2 := s₁) (g2 := (mkF m 16 #[iv 1, iv 4, .val .null] [])) (fun _ hr => XS.icmpYes X0.here hx rfl (pc0 := 6) (pc' := 16) rfl (hb hby d11_6) rfl (tlt (by decide : (1 : Int32) < (4 : Int32))).1 (by decide) (by decide) hr) ?_
  refine Goes.step (T2 := s₁) (g2 := (mkF m 17 #[iv 1, iv 4, .val .null] [(.int (1 : Int32))])) (fun _ hr => XS.iloadN X0.here hx rfl (hb hby d11_16) rfl  hr) ?_
  exact Goes.ret (v := some (.int (1 : Int32))) X0 (by decide) (by decide) (fun h => by rw [Bd.returns] at h; cases h) ⟨rfl, N0, e0⟩ (fun fs hr => retOut X0 hx Bd.returns rfl (Or.inl ⟨rfl, Or.inl rfl, _, rfl⟩) (hb hby d11_17) hr)
def Q_rm_pci1R (Z : State) (a1 : Addr) (h0 : Heap) (n0 : Nat) (v : Option Value) (h : Heap) (L : List Loc) : Prop := v = some (.int (1 : Int32)) ∧ Fr n0 L ∧ h = h0
set_option maxRecDepth 65536 in
set_option maxHeartbeats 40000000 in
theorem rm_pci1R (l : Launch) (Z : State) (a0 : Array Value) (hw : ∀ d ∈ tables_1, d.before a0 Z = true) (ws : List Jvm.Cond) (a1 : Addr) (h0 : Heap) (n0 : Nat) (Z0 : n0 ≤ h0.size) (O0 : Old Z n0 h0) :
    MetFree l Y11 (head1 (Jvm.Cond.code Y11 jdk_41_method_11_code 3 (some .int) :: ws) ({ frames := 0, cells := 0, slots := 0, locals := 0 } : Room)) (fun a U => a = #[(.int (1 : Int32)), (.int (4 : Int32)), (.ref a1)] ∧ Z.Warmed39 U.vm ∧ U.heap = h0) (fun _ _ _ _ _ => True) (fun _ U o U' => ∃ v L, o = .returned v ∧ Q_rm_pci1R Z a1 h0 n0 v U'.heap L ∧ FrameEnd U o U' L ({ frames := 0, cells := 0, slots := 0, locals := 0 } : Room).cells ({ frames := 0, cells := 0, slots := 0, locals := 0 } : Room).slots) := by
  refine MetFree.of_bodySF (plainFor_of_name pn_jdk_internal_util_Preconditions) hisR ?_
  intro p e s m args below meth c s₁ Bd hml0 hP hK
  obtain ⟨rfl, hZ, hh⟩ := hP
  have hx := Bd.exec
  have hby := Bd.bytes
  have hml : c.maxLocals = 3 := hml0
  have hown : s.vm.findClass "jdk/internal/util/Preconditions" = some m.cls := findClass_of_methodNamed Bd.named
  have hnm := (name_of_methodNamed Bd.named Bd.method).1
  have X0 : Stand p l e ({ frames := 0, cells := 0, slots := 0, locals := 0 } : Room) s m #[(.int (1 : Int32)), (.int (4 : Int32)), (.ref a1)] below meth c s₁ [] 0 0 := Stand.of_body Bd
  have e0 : s₁.heap = h0 := by rw [← hh, Bd.state]; rfl
  have N0 := Fr.nil n0
  refine Goes.out (l := l) (c := c) (R := ({ frames := 0, cells := 0, slots := 0, locals := 0 } : Room)) (Q := Q_rm_pci1R Z a1 h0 n0) Bd.notSynchronized ?_
  refine Goes.cast (g2 := mkF m 0 #[iv 1, iv 4, rv a1] []) (by first | (simp [entryFrame, mkF, argsToLocals, Value.category]; done) | rfl) ?_
  have K0 : Keep h0 h0 [] := Keep.refl h0 _
  have hws : ∀ x ∈ ([] : List Addr), n0 ≤ x := all0
  refine Goes.step (T2 := s₁) (g2 := (mkF m 1 #[iv 1, iv 4, rv a1] [(.int (1 : Int32))])) (fun _ hr => XS.iloadN X0.here hx rfl (hb hby d11_0) rfl  hr) ?_
  refine Goes.step (T2 := s₁) (g2 := (mkF m 4 #[iv 1, iv 4, rv a1] [])) (fun _ hr => XS.ifNo X0.here hx rfl (hb hby d11_1) rfl ((if0 _ _).trans (flt (by decide : ¬ ((1 : Int32) < (0 : Int32)))).1) hr) ?_
  refine Goes.step (T2 := s₁) (g2 := (mkF m 5 #[iv 1, iv 4, rv a1] [(.int (1 : Int32))])) (fun _ hr => XS.iloadN X0.here hx rfl (hb hby d11_4) rfl  hr) ?_
  refine Goes.step (T2 := s₁) (g2 := (mkF m 6 #[iv 1, iv 4, rv a1] [(.int (4 : Int32)), (.int (1 : Int32))])) (fun _ hr => XS.iloadN X0.here hx rfl (hb hby d11_5) rfl  hr) ?_
  refine Goes.step (T2 := s₁) (g2 := (mkF m 16 #[iv 1, iv 4, rv a1] [])) (fun _ hr => XS.icmpYes X0.here hx rfl (pc0 := 6) (pc' := 16) rfl (hb hby d11_6) rfl (tlt (by decide : (1 : Int32) < (4 : Int32))).1 (by decide) (by decide) hr) ?_
  refine Goes.step (T2 := s₁) (g2 := (mkF m 17 #[iv 1, iv 4, rv a1] [(.int (1 : Int32))])) (fun _ hr => XS.iloadN X0.here hx rfl (hb hby d11_16) rfl  hr) ?_
  exact Goes.ret (v := some (.int (1 : Int32))) X0 (by decide) (by decide) (fun h => by rw [Bd.returns] at h; cases h) ⟨rfl, N0, e0⟩ (fun fs hr => retOut X0 hx Bd.returns rfl (Or.inl ⟨rfl, Or.inl rfl, _, rfl⟩) (hb hby d11_17) hr)
def Q_rm_ci1 (Z : State) (vf : Value) (h0 : Heap) (n0 : Nat) (v : Option Value) (h : Heap) (L : List Loc) : Prop := v = none ∧ Fr n0 L ∧ h = h0
set_option maxRecDepth 65536 in
set_option maxHeartbeats 40000000 in
theorem rm_ci1 (l : Launch) (Z : State) (a0 : Array Value) (hw : ∀ d ∈ tables_1, d.before a0 Z = true) (ws : List Jvm.Cond) (vf : Value) (h0 : Heap) (n0 : Nat) (Z0 : n0 ≤ h0.size) (O0 : Old Z n0 h0) (S_Preconditions_SIOOBE_FORMATTER_old : Sta Z Z.heap "jdk/internal/util/Preconditions" "SIOOBE_FORMATTER" "Ljava/util/function/BiFunction;" vf) (hvf : vf.isRef = true) :
    MetFree l Y12 (head1 (Jvm.Cond.code Y12 jdk_42_method_155_code 2 none :: ws) ({ frames := 1, cells := 0, slots := 0, locals := 14 } : Room)) (fun a U => a = #[(.int (1 : Int32)), (.int (4 : Int32))] ∧ Z.Warmed39 U.vm ∧ U.heap = h0) (fun _ _ _ _ _ => True) (fun _ U o U' => ∃ v L, o = .returned v ∧ Q_rm_ci1 Z vf h0 n0 v U'.heap L ∧ FrameEnd U o U' L ({ frames := 1, cells := 0, slots := 0, locals := 14 } : Room).cells ({ frames := 1, cells := 0, slots := 0, locals := 14 } : Room).slots) := by
  refine MetFree.of_bodySF (plainFor_of_name pn_java_lang_String) hisR ?_
  intro p e s m args below meth c s₁ Bd hml0 hP hK
  obtain ⟨rfl, hZ, hh⟩ := hP
  have hx := Bd.exec
  have hby := Bd.bytes
  have hml : c.maxLocals = 2 := hml0
  have hown : s.vm.findClass "java/lang/String" = some m.cls := findClass_of_methodNamed Bd.named
  have hnm := (name_of_methodNamed Bd.named Bd.method).1
  have X0 : Stand p l e ({ frames := 1, cells := 0, slots := 0, locals := 14 } : Room) s m #[(.int (1 : Int32)), (.int (4 : Int32))] below meth c s₁ [] 0 0 := Stand.of_body Bd
  have e0 : s₁.heap = h0 := by rw [← hh, Bd.state]; rfl
  have N0 := Fr.nil n0
  refine Goes.out (l := l) (c := c) (R := ({ frames := 1, cells := 0, slots := 0, locals := 14 } : Room)) (Q := Q_rm_ci1 Z vf h0 n0) Bd.notSynchronized ?_
  refine Goes.cast (g2 := mkF m 0 #[iv 1, iv 4] []) (by first | (simp [entryFrame, mkF, argsToLocals, Value.category]; done) | rfl) ?_
  have K0 : Keep h0 h0 [] := Keep.refl h0 _
  have hws : ∀ x ∈ ([] : List Addr), n0 ≤ x := all0
  rcases ref_cases hvf with rfl | ⟨vfa, rfl⟩
  · refine Goes.step (T2 := s₁) (g2 := (mkF m 1 #[iv 1, iv 4] [(.int (1 : Int32))])) (fun _ hr => XS.iloadN X0.here hx rfl (hb hby d12_0) rfl  hr) ?_
    refine Goes.step (T2 := s₁) (g2 := (mkF m 2 #[iv 1, iv 4] [(.int (4 : Int32)), (.int (1 : Int32))])) (fun _ hr => XS.iloadN X0.here hx rfl (hb hby d12_1) rfl  hr) ?_
    obtain ⟨T167, X167, e167, st167⟩ := getS2 X0 hx hZ hown (host := "") (Or.inl (tw hw 76 rfl)) Via.refl e0 (S_Preconditions_SIOOBE_FORMATTER_old.ext (Old.keep O0 K0 hws).2) (g := (mkF m 2 #[iv 1, iv 4] [(.int (4 : Int32)), (.int (1 : Int32))])) rfl (hb hby d12_2)
    refine Goes.step (T2 := T167) (g2 := (mkF m 5 #[iv 1, iv 4] [.null, (.int (4 : Int32)), (.int (1 : Int32))])) st167 ?_
    have Zs168 : n0 ≤ h0.size := Nat.le_trans Z0 K0.1
    obtain ⟨_, _, ⟨T169, L169, k169, n169⟩, -, X169, ⟨Lc169, hQ169, l169, y169, z169⟩, st169⟩ := Jvm.LawKit.callS X167 hx (y := Y11) hown (mvT hZ (tw hw 78 rfl)) (mvT hZ (tw hw 79 rfl)) (mvT hZ (tw hw 77 rfl)) (mvT hZ (tw hw 80 rfl)) (by decide) (backOf (W := 0) (rm_pci1N l Z a0 hw []  h0 n0 Zs168 (Old.keep O0 K0 hws)) hZ (tw hw 80 rfl) (tw hw 77 rfl) (by decide) (by decide)) (g := (mkF m 5 #[iv 1, iv 4] [.null, (.int (4 : Int32)), (.int (1 : Int32))])) rfl (by rw [hml]; rfl) (argsL := [(.int (1 : Int32)), (.int (4 : Int32)), .null]) (rest := []) (lenOf pd_8 rfl) rfl (by show 2 * 0 + _ ≤ _; exact Nat.le_of_eq rfl) (hb hby d12_5) (fun _ _ => ⟨rfl, e167, (by decide : 0 + 0 ≤ _), (by decide : 0 + 0 ≤ _)⟩)
    dsimp only [Pt.U, Pt.locs, Pt.cells, Pt.slots] at X169 l169 y169 z169 st169 hQ169
    subst l169 y169 z169
    obtain ⟨rfl, N169q, e169⟩ := hQ169
    have N169 := Fr.app N0 N169q
    refine Goes.step (T2 := T169) (g2 := (mkF m 8 #[iv 1, iv 4] [(.int (1 : Int32))])) st169 ?_
    refine Goes.step (T2 := T169) (g2 := (mkF m 9 #[iv 1, iv 4] [])) (fun _ hr => Jvm.Free.XT.pop X169.here hx rfl (hb hby d12_8) rfl rfl hr) ?_
    exact Goes.ret (v := none) X169 (by decide) (by decide) (fun _ => rfl) ⟨rfl, N169, e169⟩ (fun fs hr => X169.returnOut hx Bd.returns (hb hby d12_9) hr)
  · refine Goes.step (T2 := s₁) (g2 := (mkF m 1 #[iv 1, iv 4] [(.int (1 : Int32))])) (fun _ hr => XS.iloadN X0.here hx rfl (hb hby d12_0) rfl  hr) ?_
    refine Goes.step (T2 := s₁) (g2 := (mkF m 2 #[iv 1, iv 4] [(.int (4 : Int32)), (.int (1 : Int32))])) (fun _ hr => XS.iloadN X0.here hx rfl (hb hby d12_1) rfl  hr) ?_
    obtain ⟨T170, X170, e170, st170⟩ := getS2 X0 hx hZ hown (host := "") (Or.inl (tw hw 76 rfl)) Via.refl e0 (S_Preconditions_SIOOBE_FORMATTER_old.ext (Old.keep O0 K0 hws).2) (g := (mkF m 2 #[iv 1, iv 4] [(.int (4 : Int32)), (.int (1 : Int32))])) rfl (hb hby d12_2)
    refine Goes.step (T2 := T170) (g2 := (mkF m 5 #[iv 1, iv 4] [(.ref vfa), (.int (4 : Int32)), (.int (1 : Int32))])) st170 ?_
    have Zs171 : n0 ≤ h0.size := Nat.le_trans Z0 K0.1
    obtain ⟨_, _, ⟨T172, L172, k172, n172⟩, -, X172, ⟨Lc172, hQ172, l172, y172, z172⟩, st172⟩ := Jvm.LawKit.callS X170 hx (y := Y11) hown (mvT hZ (tw hw 78 rfl)) (mvT hZ (tw hw 79 rfl)) (mvT hZ (tw hw 77 rfl)) (mvT hZ (tw hw 80 rfl)) (by decide) (backOf (W := 0) (rm_pci1R l Z a0 hw [] vfa h0 n0 Zs171 (Old.keep O0 K0 hws)) hZ (tw hw 80 rfl) (tw hw 77 rfl) (by decide) (by decide)) (g := (mkF m 5 #[iv 1, iv 4] [(.ref vfa), (.int (4 : Int32)), (.int (1 : Int32))])) rfl (by rw [hml]; rfl) (argsL := [(.int (1 : Int32)), (.int (4 : Int32)), (.ref vfa)]) (rest := []) (lenOf pd_8 rfl) rfl (by show 2 * 0 + _ ≤ _; exact Nat.le_of_eq rfl) (hb hby d12_5) (fun _ _ => ⟨rfl, e170, (by decide : 0 + 0 ≤ _), (by decide : 0 + 0 ≤ _)⟩)
    dsimp only [Pt.U, Pt.locs, Pt.cells, Pt.slots] at X172 l172 y172 z172 st172 hQ172
    subst l172 y172 z172
    obtain ⟨rfl, N172q, e172⟩ := hQ172
    have N172 := Fr.app N0 N172q
    refine Goes.step (T2 := T172) (g2 := (mkF m 8 #[iv 1, iv 4] [(.int (1 : Int32))])) st172 ?_
    refine Goes.step (T2 := T172) (g2 := (mkF m 9 #[iv 1, iv 4] [])) (fun _ hr => Jvm.Free.XT.pop X172.here hx rfl (hb hby d12_8) rfl rfl hr) ?_
    exact Goes.ret (v := none) X172 (by decide) (by decide) (fun _ => rfl) ⟨rfl, N172, e172⟩ (fun fs hr => X172.returnOut hx Bd.returns (hb hby d12_9) hr)
def Q_rm_pci2N (Z : State)  (h0 : Heap) (n0 : Nat) (v : Option Value) (h : Heap) (L : List Loc) : Prop := v = some (.int (2 : Int32)) ∧ Fr n0 L ∧ h = h0
set_option maxRecDepth 65536 in
set_option maxHeartbeats 40000000 in
theorem rm_pci2N (l : Launch) (Z : State) (a0 : Array Value) (hw : ∀ d ∈ tables_1, d.before a0 Z = true) (ws : List Jvm.Cond)  (h0 : Heap) (n0 : Nat) (Z0 : n0 ≤ h0.size) (O0 : Old Z n0 h0) :
    MetFree l Y11 (head1 (Jvm.Cond.code Y11 jdk_41_method_11_code 3 (some .int) :: ws) ({ frames := 0, cells := 0, slots := 0, locals := 0 } : Room)) (fun a U => a = #[(.int (2 : Int32)), (.int (4 : Int32)), .null] ∧ Z.Warmed39 U.vm ∧ U.heap = h0) (fun _ _ _ _ _ => True) (fun _ U o U' => ∃ v L, o = .returned v ∧ Q_rm_pci2N Z  h0 n0 v U'.heap L ∧ FrameEnd U o U' L ({ frames := 0, cells := 0, slots := 0, locals := 0 } : Room).cells ({ frames := 0, cells := 0, slots := 0, locals := 0 } : Room).slots) := by
  refine MetFree.of_bodySF (plainFor_of_name pn_jdk_internal_util_Preconditions) hisR ?_
  intro p e s m args below meth c s₁ Bd hml0 hP hK
  obtain ⟨rfl, hZ, hh⟩ := hP
  have hx := Bd.exec
  have hby := Bd.bytes
  have hml : c.maxLocals = 3 := hml0
  have hown : s.vm.findClass "jdk/internal/util/Preconditions" = some m.cls := findClass_of_methodNamed Bd.named
  have hnm := (name_of_methodNamed Bd.named Bd.method).1
  have X0 : Stand p l e ({ frames := 0, cells := 0, slots := 0, locals := 0 } : Room) s m #[(.int (2 : Int32)), (.int (4 : Int32)), .null] below meth c s₁ [] 0 0 := Stand.of_body Bd
  have e0 : s₁.heap = h0 := by rw [← hh, Bd.state]; rfl
  have N0 := Fr.nil n0
  refine Goes.out (l := l) (c := c) (R := ({ frames := 0, cells := 0, slots := 0, locals := 0 } : Room)) (Q := Q_rm_pci2N Z  h0 n0) Bd.notSynchronized ?_
  refine Goes.cast (g2 := mkF m 0 #[iv 2, iv 4, .val .null] []) (by first | (simp [entryFrame, mkF, argsToLocals, Value.category]; done) | rfl) ?_
  have K0 : Keep h0 h0 [] := Keep.refl h0 _
  have hws : ∀ x ∈ ([] : List Addr), n0 ≤ x := all0
  refine Goes.step (T2 := s₁) (g2 := (mkF m 1 #[iv 2, iv 4, .val .null] [(.int (2 : Int32))])) (fun _ hr => XS.iloadN X0.here hx rfl (hb hby d11_0) rfl  hr) ?_
  refine Goes.step (T2 := s₁) (g2 := (mkF m 4 #[iv 2, iv 4, .val .null] [])) (fun _ hr => XS.ifNo X0.here hx rfl (hb hby d11_1) rfl ((if0 _ _).trans (flt (by decide : ¬ ((2 : Int32) < (0 : Int32)))).1) hr) ?_
  refine Goes.step (T2 := s₁) (g2 := (mkF m 5 #[iv 2, iv 4, .val .null] [(.int (2 : Int32))])) (fun _ hr => XS.iloadN X0.here hx rfl (hb hby d11_4) rfl  hr) ?_
  refine Goes.step (T2 := s₁) (g2 := (mkF m 6 #[iv 2, iv 4, .val .null] [(.int (4 : Int32)), (.int (2 : Int32))])) (fun _ hr => XS.iloadN X0.here hx rfl (hb hby d11_5) rfl  hr) ?_
  refine Goes.step (T2 := s₁) (g2 := (mkF m 16 #[iv 2, iv 4, .val .null] [])) (fun _ hr => XS.icmpYes X0.here hx rfl (pc0 := 6) (pc' := 16) rfl (hb hby d11_6) rfl (tlt (by decide : (2 : Int32) < (4 : Int32))).1 (by decide) (by decide) hr) ?_
  refine Goes.step (T2 := s₁) (g2 := (mkF m 17 #[iv 2, iv 4, .val .null] [(.int (2 : Int32))])) (fun _ hr => XS.iloadN X0.here hx rfl (hb hby d11_16) rfl  hr) ?_
  exact Goes.ret (v := some (.int (2 : Int32))) X0 (by decide) (by decide) (fun h => by rw [Bd.returns] at h; cases h) ⟨rfl, N0, e0⟩ (fun fs hr => retOut X0 hx Bd.returns rfl (Or.inl ⟨rfl, Or.inl rfl, _, rfl⟩) (hb hby d11_17) hr)
def Q_rm_pci2R (Z : State) (a1 : Addr) (h0 : Heap) (n0 : Nat) (v : Option Value) (h : Heap) (L : List Loc) : Prop := v = some (.int (2 : Int32)) ∧ Fr n0 L ∧ h = h0
set_option maxRecDepth 65536 in
set_option maxHeartbeats 40000000 in
theorem rm_pci2R (l : Launch) (Z : State) (a0 : Array Value) (hw : ∀ d ∈ tables_1, d.before a0 Z = true) (ws : List Jvm.Cond) (a1 : Addr) (h0 : Heap) (n0 : Nat) (Z0 : n0 ≤ h0.size) (O0 : Old Z n0 h0) :
    MetFree l Y11 (head1 (Jvm.Cond.code Y11 jdk_41_method_11_code 3 (some .int) :: ws) ({ frames := 0, cells := 0, slots := 0, locals := 0 } : Room)) (fun a U => a = #[(.int (2 : Int32)), (.int (4 : Int32)), (.ref a1)] ∧ Z.Warmed39 U.vm ∧ U.heap = h0) (fun _ _ _ _ _ => True) (fun _ U o U' => ∃ v L, o = .returned v ∧ Q_rm_pci2R Z a1 h0 n0 v U'.heap L ∧ FrameEnd U o U' L ({ frames := 0, cells := 0, slots := 0, locals := 0 } : Room).cells ({ frames := 0, cells := 0, slots := 0, locals := 0 } : Room).slots) := by
  refine MetFree.of_bodySF (plainFor_of_name pn_jdk_internal_util_Preconditions) hisR ?_
  intro p e s m args below meth c s₁ Bd hml0 hP hK
  obtain ⟨rfl, hZ, hh⟩ := hP
  have hx := Bd.exec
  have hby := Bd.bytes
  have hml : c.maxLocals = 3 := hml0
  have hown : s.vm.findClass "jdk/internal/util/Preconditions" = some m.cls := findClass_of_methodNamed Bd.named
  have hnm := (name_of_methodNamed Bd.named Bd.method).1
  have X0 : Stand p l e ({ frames := 0, cells := 0, slots := 0, locals := 0 } : Room) s m #[(.int (2 : Int32)), (.int (4 : Int32)), (.ref a1)] below meth c s₁ [] 0 0 := Stand.of_body Bd
  have e0 : s₁.heap = h0 := by rw [← hh, Bd.state]; rfl
  have N0 := Fr.nil n0
  refine Goes.out (l := l) (c := c) (R := ({ frames := 0, cells := 0, slots := 0, locals := 0 } : Room)) (Q := Q_rm_pci2R Z a1 h0 n0) Bd.notSynchronized ?_
  refine Goes.cast (g2 := mkF m 0 #[iv 2, iv 4, rv a1] []) (by first | (simp [entryFrame, mkF, argsToLocals, Value.category]; done) | rfl) ?_
  have K0 : Keep h0 h0 [] := Keep.refl h0 _
  have hws : ∀ x ∈ ([] : List Addr), n0 ≤ x := all0
  refine Goes.step (T2 := s₁) (g2 := (mkF m 1 #[iv 2, iv 4, rv a1] [(.int (2 : Int32))])) (fun _ hr => XS.iloadN X0.here hx rfl (hb hby d11_0) rfl  hr) ?_
  refine Goes.step (T2 := s₁) (g2 := (mkF m 4 #[iv 2, iv 4, rv a1] [])) (fun _ hr => XS.ifNo X0.here hx rfl (hb hby d11_1) rfl ((if0 _ _).trans (flt (by decide : ¬ ((2 : Int32) < (0 : Int32)))).1) hr) ?_
  refine Goes.step (T2 := s₁) (g2 := (mkF m 5 #[iv 2, iv 4, rv a1] [(.int (2 : Int32))])) (fun _ hr => XS.iloadN X0.here hx rfl (hb hby d11_4) rfl  hr) ?_
  refine Goes.step (T2 := s₁) (g2 := (mkF m 6 #[iv 2, iv 4, rv a1] [(.int (4 : Int32)), (.int (2 : Int32))])) (fun _ hr => XS.iloadN X0.here hx rfl (hb hby d11_5) rfl  hr) ?_
  refine Goes.step (T2 := s₁) (g2 := (mkF m 16 #[iv 2, iv 4, rv a1] [])) (fun _ hr => XS.icmpYes X0.here hx rfl (pc0 := 6) (pc' := 16) rfl (hb hby d11_6) rfl (tlt (by decide : (2 : Int32) < (4 : Int32))).1 (by decide) (by decide) hr) ?_
  refine Goes.step (T2 := s₁) (g2 := (mkF m 17 #[iv 2, iv 4, rv a1] [(.int (2 : Int32))])) (fun _ hr => XS.iloadN X0.here hx rfl (hb hby d11_16) rfl  hr) ?_
  exact Goes.ret (v := some (.int (2 : Int32))) X0 (by decide) (by decide) (fun h => by rw [Bd.returns] at h; cases h) ⟨rfl, N0, e0⟩ (fun fs hr => retOut X0 hx Bd.returns rfl (Or.inl ⟨rfl, Or.inl rfl, _, rfl⟩) (hb hby d11_17) hr)
def Q_rm_ci2 (Z : State) (vf : Value) (h0 : Heap) (n0 : Nat) (v : Option Value) (h : Heap) (L : List Loc) : Prop := v = none ∧ Fr n0 L ∧ h = h0
set_option maxRecDepth 65536 in
set_option maxHeartbeats 40000000 in
theorem rm_ci2 (l : Launch) (Z : State) (a0 : Array Value) (hw : ∀ d ∈ tables_1, d.before a0 Z = true) (ws : List Jvm.Cond) (vf : Value) (h0 : Heap) (n0 : Nat) (Z0 : n0 ≤ h0.size) (O0 : Old Z n0 h0) (S_Preconditions_SIOOBE_FORMATTER_old : Sta Z Z.heap "jdk/internal/util/Preconditions" "SIOOBE_FORMATTER" "Ljava/util/function/BiFunction;" vf) (hvf : vf.isRef = true) :
    MetFree l Y12 (head1 (Jvm.Cond.code Y12 jdk_42_method_155_code 2 none :: ws) ({ frames := 1, cells := 0, slots := 0, locals := 14 } : Room)) (fun a U => a = #[(.int (2 : Int32)), (.int (4 : Int32))] ∧ Z.Warmed39 U.vm ∧ U.heap = h0) (fun _ _ _ _ _ => True) (fun _ U o U' => ∃ v L, o = .returned v ∧ Q_rm_ci2 Z vf h0 n0 v U'.heap L ∧ FrameEnd U o U' L ({ frames := 1, cells := 0, slots := 0, locals := 14 } : Room).cells ({ frames := 1, cells := 0, slots := 0, locals := 14 } : Room).slots) := by
  refine MetFree.of_bodySF (plainFor_of_name pn_java_lang_String) hisR ?_
  intro p e s m args below meth c s₁ Bd hml0 hP hK
  obtain ⟨rfl, hZ, hh⟩ := hP
  have hx := Bd.exec
  have hby := Bd.bytes
  have hml : c.maxLocals = 2 := hml0
  have hown : s.vm.findClass "java/lang/String" = some m.cls := findClass_of_methodNamed Bd.named
  have hnm := (name_of_methodNamed Bd.named Bd.method).1
  have X0 : Stand p l e ({ frames := 1, cells := 0, slots := 0, locals := 14 } : Room) s m #[(.int (2 : Int32)), (.int (4 : Int32))] below meth c s₁ [] 0 0 := Stand.of_body Bd
  have e0 : s₁.heap = h0 := by rw [← hh, Bd.state]; rfl
  have N0 := Fr.nil n0
  refine Goes.out (l := l) (c := c) (R := ({ frames := 1, cells := 0, slots := 0, locals := 14 } : Room)) (Q := Q_rm_ci2 Z vf h0 n0) Bd.notSynchronized ?_
  refine Goes.cast (g2 := mkF m 0 #[iv 2, iv 4] []) (by first | (simp [entryFrame, mkF, argsToLocals, Value.category]; done) | rfl) ?_
  have K0 : Keep h0 h0 [] := Keep.refl h0 _
  have hws : ∀ x ∈ ([] : List Addr), n0 ≤ x := all0
  rcases ref_cases hvf with rfl | ⟨vfa, rfl⟩
  · refine Goes.step (T2 := s₁) (g2 := (mkF m 1 #[iv 2, iv 4] [(.int (2 : Int32))])) (fun _ hr => XS.iloadN X0.here hx rfl (hb hby d12_0) rfl  hr) ?_
    refine Goes.step (T2 := s₁) (g2 := (mkF m 2 #[iv 2, iv 4] [(.int (4 : Int32)), (.int (2 : Int32))])) (fun _ hr => XS.iloadN X0.here hx rfl (hb hby d12_1) rfl  hr) ?_
    obtain ⟨T173, X173, e173, st173⟩ := getS2 X0 hx hZ hown (host := "") (Or.inl (tw hw 76 rfl)) Via.refl e0 (S_Preconditions_SIOOBE_FORMATTER_old.ext (Old.keep O0 K0 hws).2) (g := (mkF m 2 #[iv 2, iv 4] [(.int (4 : Int32)), (.int (2 : Int32))])) rfl (hb hby d12_2)
    refine Goes.step (T2 := T173) (g2 := (mkF m 5 #[iv 2, iv 4] [.null, (.int (4 : Int32)), (.int (2 : Int32))])) st173 ?_
    have Zs174 : n0 ≤ h0.size := Nat.le_trans Z0 K0.1
    obtain ⟨_, _, ⟨T175, L175, k175, n175⟩, -, X175, ⟨Lc175, hQ175, l175, y175, z175⟩, st175⟩ := Jvm.LawKit.callS X173 hx (y := Y11) hown (mvT hZ (tw hw 78 rfl)) (mvT hZ (tw hw 79 rfl)) (mvT hZ (tw hw 77 rfl)) (mvT hZ (tw hw 80 rfl)) (by decide) (backOf (W := 0) (rm_pci2N l Z a0 hw []  h0 n0 Zs174 (Old.keep O0 K0 hws)) hZ (tw hw 80 rfl) (tw hw 77 rfl) (by decide) (by decide)) (g := (mkF m 5 #[iv 2, iv 4] [.null, (.int (4 : Int32)), (.int (2 : Int32))])) rfl (by rw [hml]; rfl) (argsL := [(.int (2 : Int32)), (.int (4 : Int32)), .null]) (rest := []) (lenOf pd_8 rfl) rfl (by show 2 * 0 + _ ≤ _; exact Nat.le_of_eq rfl) (hb hby d12_5) (fun _ _ => ⟨rfl, e173, (by decide : 0 + 0 ≤ _), (by decide : 0 + 0 ≤ _)⟩)
    dsimp only [Pt.U, Pt.locs, Pt.cells, Pt.slots] at X175 l175 y175 z175 st175 hQ175
    subst l175 y175 z175
    obtain ⟨rfl, N175q, e175⟩ := hQ175
    have N175 := Fr.app N0 N175q
    refine Goes.step (T2 := T175) (g2 := (mkF m 8 #[iv 2, iv 4] [(.int (2 : Int32))])) st175 ?_
    refine Goes.step (T2 := T175) (g2 := (mkF m 9 #[iv 2, iv 4] [])) (fun _ hr => Jvm.Free.XT.pop X175.here hx rfl (hb hby d12_8) rfl rfl hr) ?_
    exact Goes.ret (v := none) X175 (by decide) (by decide) (fun _ => rfl) ⟨rfl, N175, e175⟩ (fun fs hr => X175.returnOut hx Bd.returns (hb hby d12_9) hr)
  · refine Goes.step (T2 := s₁) (g2 := (mkF m 1 #[iv 2, iv 4] [(.int (2 : Int32))])) (fun _ hr => XS.iloadN X0.here hx rfl (hb hby d12_0) rfl  hr) ?_
    refine Goes.step (T2 := s₁) (g2 := (mkF m 2 #[iv 2, iv 4] [(.int (4 : Int32)), (.int (2 : Int32))])) (fun _ hr => XS.iloadN X0.here hx rfl (hb hby d12_1) rfl  hr) ?_
    obtain ⟨T176, X176, e176, st176⟩ := getS2 X0 hx hZ hown (host := "") (Or.inl (tw hw 76 rfl)) Via.refl e0 (S_Preconditions_SIOOBE_FORMATTER_old.ext (Old.keep O0 K0 hws).2) (g := (mkF m 2 #[iv 2, iv 4] [(.int (4 : Int32)), (.int (2 : Int32))])) rfl (hb hby d12_2)
    refine Goes.step (T2 := T176) (g2 := (mkF m 5 #[iv 2, iv 4] [(.ref vfa), (.int (4 : Int32)), (.int (2 : Int32))])) st176 ?_
    have Zs177 : n0 ≤ h0.size := Nat.le_trans Z0 K0.1
    obtain ⟨_, _, ⟨T178, L178, k178, n178⟩, -, X178, ⟨Lc178, hQ178, l178, y178, z178⟩, st178⟩ := Jvm.LawKit.callS X176 hx (y := Y11) hown (mvT hZ (tw hw 78 rfl)) (mvT hZ (tw hw 79 rfl)) (mvT hZ (tw hw 77 rfl)) (mvT hZ (tw hw 80 rfl)) (by decide) (backOf (W := 0) (rm_pci2R l Z a0 hw [] vfa h0 n0 Zs177 (Old.keep O0 K0 hws)) hZ (tw hw 80 rfl) (tw hw 77 rfl) (by decide) (by decide)) (g := (mkF m 5 #[iv 2, iv 4] [(.ref vfa), (.int (4 : Int32)), (.int (2 : Int32))])) rfl (by rw [hml]; rfl) (argsL := [(.int (2 : Int32)), (.int (4 : Int32)), (.ref vfa)]) (rest := []) (lenOf pd_8 rfl) rfl (by show 2 * 0 + _ ≤ _; exact Nat.le_of_eq rfl) (hb hby d12_5) (fun _ _ => ⟨rfl, e176, (by decide : 0 + 0 ≤ _), (by decide : 0 + 0 ≤ _)⟩)
    dsimp only [Pt.U, Pt.locs, Pt.cells, Pt.slots] at X178 l178 y178 z178 st178 hQ178
    subst l178 y178 z178
    obtain ⟨rfl, N178q, e178⟩ := hQ178
    have N178 := Fr.app N0 N178q
    refine Goes.step (T2 := T178) (g2 := (mkF m 8 #[iv 2, iv 4] [(.int (2 : Int32))])) st178 ?_
    refine Goes.step (T2 := T178) (g2 := (mkF m 9 #[iv 2, iv 4] [])) (fun _ hr => Jvm.Free.XT.pop X178.here hx rfl (hb hby d12_8) rfl rfl hr) ?_
    exact Goes.ret (v := none) X178 (by decide) (by decide) (fun _ => rfl) ⟨rfl, N178, e178⟩ (fun fs hr => X178.returnOut hx Bd.returns (hb hby d12_9) hr)
def Q_rm_pci3N (Z : State)  (h0 : Heap) (n0 : Nat) (v : Option Value) (h : Heap) (L : List Loc) : Prop := v = some (.int (3 : Int32)) ∧ Fr n0 L ∧ h = h0
set_option maxRecDepth 65536 in
set_option maxHeartbeats 40000000 in
theorem rm_pci3N (l : Launch) (Z : State) (a0 : Array Value) (hw : ∀ d ∈ tables_1, d.before a0 Z = true) (ws : List Jvm.Cond)  (h0 : Heap) (n0 : Nat) (Z0 : n0 ≤ h0.size) (O0 : Old Z n0 h0) :
    MetFree l Y11 (head1 (Jvm.Cond.code Y11 jdk_41_method_11_code 3 (some .int) :: ws) ({ frames := 0, cells := 0, slots := 0, locals := 0 } : Room)) (fun a U => a = #[(.int (3 : Int32)), (.int (4 : Int32)), .null] ∧ Z.Warmed39 U.vm ∧ U.heap = h0) (fun _ _ _ _ _ => True) (fun _ U o U' => ∃ v L, o = .returned v ∧ Q_rm_pci3N Z  h0 n0 v U'.heap L ∧ FrameEnd U o U' L ({ frames := 0, cells := 0, slots := 0, locals := 0 } : Room).cells ({ frames := 0, cells := 0, slots := 0, locals := 0 } : Room).slots) := by
  refine MetFree.of_bodySF (plainFor_of_name pn_jdk_internal_util_Preconditions) hisR ?_
  intro p e s m args below meth c s₁ Bd hml0 hP hK
  obtain ⟨rfl, hZ, hh⟩ := hP
  have hx := Bd.exec
  have hby := Bd.bytes
  have hml : c.maxLocals = 3 := hml0
  have hown : s.vm.findClass "jdk/internal/util/Preconditions" = some m.cls := findClass_of_methodNamed Bd.named
  have hnm := (name_of_methodNamed Bd.named Bd.method).1
  have X0 : Stand p l e ({ frames := 0, cells := 0, slots := 0, locals := 0 } : Room) s m #[(.int (3 : Int32)), (.int (4 : Int32)), .null] below meth c s₁ [] 0 0 := Stand.of_body Bd
  have e0 : s₁.heap = h0 := by rw [← hh, Bd.state]; rfl
  have N0 := Fr.nil n0
  refine Goes.out (l := l) (c := c) (R := ({ frames := 0, cells := 0, slots := 0, locals := 0 } : Room)) (Q := Q_rm_pci3N Z  h0 n0) Bd.notSynchronized ?_
  refine Goes.cast (g2 := mkF m 0 #[iv 3, iv 4, .val .null] []) (by first | (simp [entryFrame, mkF, argsToLocals, Value.category]; done) | rfl) ?_
  have K0 : Keep h0 h0 [] := Keep.refl h0 _
  have hws : ∀ x ∈ ([] : List Addr), n0 ≤ x := all0
  refine Goes.step (T2 := s₁) (g2 := (mkF m 1 #[iv 3, iv 4, .val .null] [(.int (3 : Int32))])) (fun _ hr => XS.iloadN X0.here hx rfl (hb hby d11_0) rfl  hr) ?_
  refine Goes.step (T2 := s₁) (g2 := (mkF m 4 #[iv 3, iv 4, .val .null] [])) (fun _ hr => XS.ifNo X0.here hx rfl (hb hby d11_1) rfl ((if0 _ _).trans (flt (by decide : ¬ ((3 : Int32) < (0 : Int32)))).1) hr) ?_
  refine Goes.step (T2 := s₁) (g2 := (mkF m 5 #[iv 3, iv 4, .val .null] [(.int (3 : Int32))])) (fun _ hr => XS.iloadN X0.here hx rfl (hb hby d11_4) rfl  hr) ?_
  refine Goes.step (T2 := s₁) (g2 := (mkF m 6 #[iv 3, iv 4, .val .null] [(.int (4 : Int32)), (.int (3 : Int32))])) (fun _ hr => XS.iloadN X0.here hx rfl (hb hby d11_5) rfl  hr) ?_
  refine Goes.step (T2 := s₁) (g2 := (mkF m 16 #[iv 3, iv 4, .val .null] [])) (fun _ hr => XS.icmpYes X0.here hx rfl (pc0 := 6) (pc' := 16) rfl (hb hby d11_6) rfl (tlt (by decide : (3 : Int32) < (4 : Int32))).1 (by decide) (by decide) hr) ?_
  refine Goes.step (T2 := s₁) (g2 := (mkF m 17 #[iv 3, iv 4, .val .null] [(.int (3 : Int32))])) (fun _ hr => XS.iloadN X0.here hx rfl (hb hby d11_16) rfl  hr) ?_
  exact Goes.ret (v := some (.int (3 : Int32))) X0 (by decide) (by decide) (fun h => by rw [Bd.returns] at h; cases h) ⟨rfl, N0, e0⟩ (fun fs hr => retOut X0 hx Bd.returns rfl (Or.inl ⟨rfl, Or.inl rfl, _, rfl⟩) (hb hby d11_17) hr)
def Q_rm_pci3R (Z : State) (a1 : Addr) (h0 : Heap) (n0 : Nat) (v : Option Value) (h : Heap) (L : List Loc) : Prop := v = some (.int (3 : Int32)) ∧ Fr n0 L ∧ h = h0
set_option maxRecDepth 65536 in
set_option maxHeartbeats 40000000 in
theorem rm_pci3R (l : Launch) (Z : State) (a0 : Array Value) (hw : ∀ d ∈ tables_1, d.before a0 Z = true) (ws : List Jvm.Cond) (a1 : Addr) (h0 : Heap) (n0 : Nat) (Z0 : n0 ≤ h0.size) (O0 : Old Z n0 h0) :
    MetFree l Y11 (head1 (Jvm.Cond.code Y11 jdk_41_method_11_code 3 (some .int) :: ws) ({ frames := 0, cells := 0, slots := 0, locals := 0 } : Room)) (fun a U => a = #[(.int (3 : Int32)), (.int (4 : Int32)), (.ref a1)] ∧ Z.Warmed39 U.vm ∧ U.heap = h0) (fun _ _ _ _ _ => True) (fun _ U o U' => ∃ v L, o = .returned v ∧ Q_rm_pci3R Z a1 h0 n0 v U'.heap L ∧ FrameEnd U o U' L ({ frames := 0, cells := 0, slots := 0, locals := 0 } : Room).cells ({ frames := 0, cells := 0, slots := 0, locals := 0 } : Room).slots) := by
  refine MetFree.of_bodySF (plainFor_of_name pn_jdk_internal_util_Preconditions) hisR ?_
  intro p e s m args below meth c s₁ Bd hml0 hP hK
  obtain ⟨rfl, hZ, hh⟩ := hP
  have hx := Bd.exec
  have hby := Bd.bytes
  have hml : c.maxLocals = 3 := hml0
  have hown : s.vm.findClass "jdk/internal/util/Preconditions" = some m.cls := findClass_of_methodNamed Bd.named
  have hnm := (name_of_methodNamed Bd.named Bd.method).1
  have X0 : Stand p l e ({ frames := 0, cells := 0, slots := 0, locals := 0 } : Room) s m #[(.int (3 : Int32)), (.int (4 : Int32)), (.ref a1)] below meth c s₁ [] 0 0 := Stand.of_body Bd
  have e0 : s₁.heap = h0 := by rw [← hh, Bd.state]; rfl
  have N0 := Fr.nil n0
  refine Goes.out (l := l) (c := c) (R := ({ frames := 0, cells := 0, slots := 0, locals := 0 } : Room)) (Q := Q_rm_pci3R Z a1 h0 n0) Bd.notSynchronized ?_
  refine Goes.cast (g2 := mkF m 0 #[iv 3, iv 4, rv a1] []) (by first | (simp [entryFrame, mkF, argsToLocals, Value.category]; done) | rfl) ?_
  have K0 : Keep h0 h0 [] := Keep.refl h0 _
  have hws : ∀ x ∈ ([] : List Addr), n0 ≤ x := all0
  refine Goes.step (T2 := s₁) (g2 := (mkF m 1 #[iv 3, iv 4, rv a1] [(.int (3 : Int32))])) (fun _ hr => XS.iloadN X0.here hx rfl (hb hby d11_0) rfl  hr) ?_
  refine Goes.step (T2 := s₁) (g2 := (mkF m 4 #[iv 3, iv 4, rv a1] [])) (fun _ hr => XS.ifNo X0.here hx rfl (hb hby d11_1) rfl ((if0 _ _).trans (flt (by decide : ¬ ((3 : Int32) < (0 : Int32)))).1) hr) ?_
  refine Goes.step (T2 := s₁) (g2 := (mkF m 5 #[iv 3, iv 4, rv a1] [(.int (3 : Int32))])) (fun _ hr => XS.iloadN X0.here hx rfl (hb hby d11_4) rfl  hr) ?_
  refine Goes.step (T2 := s₁) (g2 := (mkF m 6 #[iv 3, iv 4, rv a1] [(.int (4 : Int32)), (.int (3 : Int32))])) (fun _ hr => XS.iloadN X0.here hx rfl (hb hby d11_5) rfl  hr) ?_
  refine Goes.step (T2 := s₁) (g2 := (mkF m 16 #[iv 3, iv 4, rv a1] [])) (fun _ hr => XS.icmpYes X0.here hx rfl (pc0 := 6) (pc' := 16) rfl (hb hby d11_6) rfl (tlt (by decide : (3 : Int32) < (4 : Int32))).1 (by decide) (by decide) hr) ?_
  refine Goes.step (T2 := s₁) (g2 := (mkF m 17 #[iv 3, iv 4, rv a1] [(.int (3 : Int32))])) (fun _ hr => XS.iloadN X0.here hx rfl (hb hby d11_16) rfl  hr) ?_
  exact Goes.ret (v := some (.int (3 : Int32))) X0 (by decide) (by decide) (fun h => by rw [Bd.returns] at h; cases h) ⟨rfl, N0, e0⟩ (fun fs hr => retOut X0 hx Bd.returns rfl (Or.inl ⟨rfl, Or.inl rfl, _, rfl⟩) (hb hby d11_17) hr)
def Q_rm_ci3 (Z : State) (vf : Value) (h0 : Heap) (n0 : Nat) (v : Option Value) (h : Heap) (L : List Loc) : Prop := v = none ∧ Fr n0 L ∧ h = h0
set_option maxRecDepth 65536 in
set_option maxHeartbeats 40000000 in
theorem rm_ci3 (l : Launch) (Z : State) (a0 : Array Value) (hw : ∀ d ∈ tables_1, d.before a0 Z = true) (ws : List Jvm.Cond) (vf : Value) (h0 : Heap) (n0 : Nat) (Z0 : n0 ≤ h0.size) (O0 : Old Z n0 h0) (S_Preconditions_SIOOBE_FORMATTER_old : Sta Z Z.heap "jdk/internal/util/Preconditions" "SIOOBE_FORMATTER" "Ljava/util/function/BiFunction;" vf) (hvf : vf.isRef = true) :
    MetFree l Y12 (head1 (Jvm.Cond.code Y12 jdk_42_method_155_code 2 none :: ws) ({ frames := 1, cells := 0, slots := 0, locals := 14 } : Room)) (fun a U => a = #[(.int (3 : Int32)), (.int (4 : Int32))] ∧ Z.Warmed39 U.vm ∧ U.heap = h0) (fun _ _ _ _ _ => True) (fun _ U o U' => ∃ v L, o = .returned v ∧ Q_rm_ci3 Z vf h0 n0 v U'.heap L ∧ FrameEnd U o U' L ({ frames := 1, cells := 0, slots := 0, locals := 14 } : Room).cells ({ frames := 1, cells := 0, slots := 0, locals := 14 } : Room).slots) := by
  refine MetFree.of_bodySF (plainFor_of_name pn_java_lang_String) hisR ?_
  intro p e s m args below meth c s₁ Bd hml0 hP hK
  obtain ⟨rfl, hZ, hh⟩ := hP
  have hx := Bd.exec
  have hby := Bd.bytes
  have hml : c.maxLocals = 2 := hml0
  have hown : s.vm.findClass "java/lang/String" = some m.cls := findClass_of_methodNamed Bd.named
  have hnm := (name_of_methodNamed Bd.named Bd.method).1
  have X0 : Stand p l e ({ frames := 1, cells := 0, slots := 0, locals := 14 } : Room) s m #[(.int (3 : Int32)), (.int (4 : Int32))] below meth c s₁ [] 0 0 := Stand.of_body Bd
  have e0 : s₁.heap = h0 := by rw [← hh, Bd.state]; rfl
  have N0 := Fr.nil n0
  refine Goes.out (l := l) (c := c) (R := ({ frames := 1, cells := 0, slots := 0, locals := 14 } : Room)) (Q := Q_rm_ci3 Z vf h0 n0) Bd.notSynchronized ?_
  refine Goes.cast (g2 := mkF m 0 #[iv 3, iv 4] []) (by first | (simp [entryFrame, mkF, argsToLocals, Value.category]; done) | rfl) ?_
  have K0 : Keep h0 h0 [] := Keep.refl h0 _
  have hws : ∀ x ∈ ([] : List Addr), n0 ≤ x := all0
  rcases ref_cases hvf with rfl | ⟨vfa, rfl⟩
  · refine Goes.step (T2 := s₁) (g2 := (mkF m 1 #[iv 3, iv 4] [(.int (3 : Int32))])) (fun _ hr => XS.iloadN X0.here hx rfl (hb hby d12_0) rfl  hr) ?_
    refine Goes.step (T2 := s₁) (g2 := (mkF m 2 #[iv 3, iv 4] [(.int (4 : Int32)), (.int (3 : Int32))])) (fun _ hr => XS.iloadN X0.here hx rfl (hb hby d12_1) rfl  hr) ?_
    obtain ⟨T179, X179, e179, st179⟩ := getS2 X0 hx hZ hown (host := "") (Or.inl (tw hw 76 rfl)) Via.refl e0 (S_Preconditions_SIOOBE_FORMATTER_old.ext (Old.keep O0 K0 hws).2) (g := (mkF m 2 #[iv 3, iv 4] [(.int (4 : Int32)), (.int (3 : Int32))])) rfl (hb hby d12_2)
    refine Goes.step (T2 := T179) (g2 := (mkF m 5 #[iv 3, iv 4] [.null, (.int (4 : Int32)), (.int (3 : Int32))])) st179 ?_
    have Zs180 : n0 ≤ h0.size := Nat.le_trans Z0 K0.1
    obtain ⟨_, _, ⟨T181, L181, k181, n181⟩, -, X181, ⟨Lc181, hQ181, l181, y181, z181⟩, st181⟩ := Jvm.LawKit.callS X179 hx (y := Y11) hown (mvT hZ (tw hw 78 rfl)) (mvT hZ (tw hw 79 rfl)) (mvT hZ (tw hw 77 rfl)) (mvT hZ (tw hw 80 rfl)) (by decide) (backOf (W := 0) (rm_pci3N l Z a0 hw []  h0 n0 Zs180 (Old.keep O0 K0 hws)) hZ (tw hw 80 rfl) (tw hw 77 rfl) (by decide) (by decide)) (g := (mkF m 5 #[iv 3, iv 4] [.null, (.int (4 : Int32)), (.int (3 : Int32))])) rfl (by rw [hml]; rfl) (argsL := [(.int (3 : Int32)), (.int (4 : Int32)), .null]) (rest := []) (lenOf pd_8 rfl) rfl (by show 2 * 0 + _ ≤ _; exact Nat.le_of_eq rfl) (hb hby d12_5) (fun _ _ => ⟨rfl, e179, (by decide : 0 + 0 ≤ _), (by decide : 0 + 0 ≤ _)⟩)
    dsimp only [Pt.U, Pt.locs, Pt.cells, Pt.slots] at X181 l181 y181 z181 st181 hQ181
    subst l181 y181 z181
    obtain ⟨rfl, N181q, e181⟩ := hQ181
    have N181 := Fr.app N0 N181q
    refine Goes.step (T2 := T181) (g2 := (mkF m 8 #[iv 3, iv 4] [(.int (3 : Int32))])) st181 ?_
    refine Goes.step (T2 := T181) (g2 := (mkF m 9 #[iv 3, iv 4] [])) (fun _ hr => Jvm.Free.XT.pop X181.here hx rfl (hb hby d12_8) rfl rfl hr) ?_
    exact Goes.ret (v := none) X181 (by decide) (by decide) (fun _ => rfl) ⟨rfl, N181, e181⟩ (fun fs hr => X181.returnOut hx Bd.returns (hb hby d12_9) hr)
  · refine Goes.step (T2 := s₁) (g2 := (mkF m 1 #[iv 3, iv 4] [(.int (3 : Int32))])) (fun _ hr => XS.iloadN X0.here hx rfl (hb hby d12_0) rfl  hr) ?_
    refine Goes.step (T2 := s₁) (g2 := (mkF m 2 #[iv 3, iv 4] [(.int (4 : Int32)), (.int (3 : Int32))])) (fun _ hr => XS.iloadN X0.here hx rfl (hb hby d12_1) rfl  hr) ?_
    obtain ⟨T182, X182, e182, st182⟩ := getS2 X0 hx hZ hown (host := "") (Or.inl (tw hw 76 rfl)) Via.refl e0 (S_Preconditions_SIOOBE_FORMATTER_old.ext (Old.keep O0 K0 hws).2) (g := (mkF m 2 #[iv 3, iv 4] [(.int (4 : Int32)), (.int (3 : Int32))])) rfl (hb hby d12_2)
    refine Goes.step (T2 := T182) (g2 := (mkF m 5 #[iv 3, iv 4] [(.ref vfa), (.int (4 : Int32)), (.int (3 : Int32))])) st182 ?_
    have Zs183 : n0 ≤ h0.size := Nat.le_trans Z0 K0.1
    obtain ⟨_, _, ⟨T184, L184, k184, n184⟩, -, X184, ⟨Lc184, hQ184, l184, y184, z184⟩, st184⟩ := Jvm.LawKit.callS X182 hx (y := Y11) hown (mvT hZ (tw hw 78 rfl)) (mvT hZ (tw hw 79 rfl)) (mvT hZ (tw hw 77 rfl)) (mvT hZ (tw hw 80 rfl)) (by decide) (backOf (W := 0) (rm_pci3R l Z a0 hw [] vfa h0 n0 Zs183 (Old.keep O0 K0 hws)) hZ (tw hw 80 rfl) (tw hw 77 rfl) (by decide) (by decide)) (g := (mkF m 5 #[iv 3, iv 4] [(.ref vfa), (.int (4 : Int32)), (.int (3 : Int32))])) rfl (by rw [hml]; rfl) (argsL := [(.int (3 : Int32)), (.int (4 : Int32)), (.ref vfa)]) (rest := []) (lenOf pd_8 rfl) rfl (by show 2 * 0 + _ ≤ _; exact Nat.le_of_eq rfl) (hb hby d12_5) (fun _ _ => ⟨rfl, e182, (by decide : 0 + 0 ≤ _), (by decide : 0 + 0 ≤ _)⟩)
    dsimp only [Pt.U, Pt.locs, Pt.cells, Pt.slots] at X184 l184 y184 z184 st184 hQ184
    subst l184 y184 z184
    obtain ⟨rfl, N184q, e184⟩ := hQ184
    have N184 := Fr.app N0 N184q
    refine Goes.step (T2 := T184) (g2 := (mkF m 8 #[iv 3, iv 4] [(.int (3 : Int32))])) st184 ?_
    refine Goes.step (T2 := T184) (g2 := (mkF m 9 #[iv 3, iv 4] [])) (fun _ hr => Jvm.Free.XT.pop X184.here hx rfl (hb hby d12_8) rfl rfl hr) ?_
    exact Goes.ret (v := none) X184 (by decide) (by decide) (fun _ => rfl) ⟨rfl, N184, e184⟩ (fun fs hr => X184.returnOut hx Bd.returns (hb hby d12_9) hr)
theorem d13_0 : decode jdk_52_method_6_code 0 = .ok (.aload_n 0, 1) := by decide +kernel
theorem d13_1 : decode jdk_52_method_6_code 1 = .ok (.arraylength, 1) := by decide +kernel
theorem d13_2 : decode jdk_52_method_6_code 2 = .ok (.iconst 1, 1) := by decide +kernel
theorem d13_3 : decode jdk_52_method_6_code 3 = .ok (.ishr, 1) := by decide +kernel
theorem d13_4 : decode jdk_52_method_6_code 4 = .ok (.ireturn, 1) := by decide +kernel
def Q_rm_len16 (Z : State) (a2 : Addr) (k2 : ClassId) (c0 : Int32) (c1 : Int32) (c2 : Int32) (c3 : Int32) (h0 : Heap) (n0 : Nat) (v : Option Value) (h : Heap) (L : List Loc) : Prop := v = some (.int (4 : Int32)) ∧ Fr n0 L ∧ h = h0
set_option maxRecDepth 65536 in
set_option maxHeartbeats 40000000 in
theorem rm_len16 (l : Launch) (Z : State) (a0 : Array Value) (hw : ∀ d ∈ tables_1, d.before a0 Z = true) (ws : List Jvm.Cond) (a2 : Addr) (k2 : ClassId) (c0 : Int32) (c1 : Int32) (c2 : Int32) (c3 : Int32) (h0 : Heap) (n0 : Nat) (Z0 : n0 ≤ h0.size) (O0 : Old Z n0 h0) (V_a2 : Arv Z h0 a2 k2 .byte (8 : Int32) [(.int (bLo c0)), (.int (bHi c0)), (.int (bLo c1)), (.int (bHi c1)), (.int (bLo c2)), (.int (bHi c2)), (.int (bLo c3)), (.int (bHi c3))] (.int (0 : Int32))) :
    MetFree l Y13 (head1 (Jvm.Cond.code Y13 jdk_52_method_6_code 1 (some .int) :: ws) ({ frames := 0, cells := 0, slots := 0, locals := 0 } : Room)) (fun a U => a = #[(.ref a2)] ∧ Z.Warmed39 U.vm ∧ U.heap = h0) (fun _ _ _ _ _ => True) (fun _ U o U' => ∃ v L, o = .returned v ∧ Q_rm_len16 Z a2 k2 c0 c1 c2 c3 h0 n0 v U'.heap L ∧ FrameEnd U o U' L ({ frames := 0, cells := 0, slots := 0, locals := 0 } : Room).cells ({ frames := 0, cells := 0, slots := 0, locals := 0 } : Room).slots) := by
  refine MetFree.of_bodySF (plainFor_of_name pn_java_lang_StringUTF16) hisR ?_
  intro p e s m args below meth c s₁ Bd hml0 hP hK
  obtain ⟨rfl, hZ, hh⟩ := hP
  have hx := Bd.exec
  have hby := Bd.bytes
  have hml : c.maxLocals = 1 := hml0
  have hown : s.vm.findClass "java/lang/StringUTF16" = some m.cls := findClass_of_methodNamed Bd.named
  have hnm := (name_of_methodNamed Bd.named Bd.method).1
  have X0 : Stand p l e ({ frames := 0, cells := 0, slots := 0, locals := 0 } : Room) s m #[(.ref a2)] below meth c s₁ [] 0 0 := Stand.of_body Bd
  have e0 : s₁.heap = h0 := by rw [← hh, Bd.state]; rfl
  have N0 := Fr.nil n0
  refine Goes.out (l := l) (c := c) (R := ({ frames := 0, cells := 0, slots := 0, locals := 0 } : Room)) (Q := Q_rm_len16 Z a2 k2 c0 c1 c2 c3 h0 n0) Bd.notSynchronized ?_
  refine Goes.cast (g2 := mkF m 0 #[rv a2] []) (by first | (simp [entryFrame, mkF, argsToLocals, Value.category]; done) | rfl) ?_
  have K0 : Keep h0 h0 [] := Keep.refl h0 _
  have hws : ∀ x ∈ ([] : List Addr), n0 ≤ x := all0
  refine Goes.step (T2 := s₁) (g2 := (mkF m 1 #[rv a2] [(.ref a2)])) (fun _ hr => XS.aloadN X0.here hx rfl (hb hby d13_0) rfl rfl hr) ?_
  obtain ⟨cl185, Ar185, -, S185, Nn185, -, -⟩ := id V_a2
  refine Goes.step (T2 := s₁) (g2 := (mkF m 2 #[rv a2] [(.int (8 : Int32))])) (fun t hr => X0.arraylength hx (own_at e0 Ar185.1) (State.isArrayOf_alike hZ.alike Ar185.2.1) (g := (mkF m 1 #[rv a2] [(.ref a2)])) rfl rfl (hb hby d13_1) t (by rw [len_of S185 Nn185]; exact hr)) ?_
  refine Goes.step (T2 := s₁) (g2 := (mkF m 3 #[rv a2] [(.int (1 : Int32)), (.int (8 : Int32))])) (fun _ hr => XS.iconst X0.here hx rfl (hb hby d13_2) hr) ?_
  refine Goes.step (T2 := s₁) (g2 := (mkF m 4 #[rv a2] [(.int (4 : Int32))])) (fun _ hr => Jvm.Free.XT.ishr X0.here hx rfl (hb hby d13_3) rfl hr) ?_
  exact Goes.ret (v := some (.int (4 : Int32))) X0 (by decide) (by decide) (fun h => by rw [Bd.returns] at h; cases h) ⟨rfl, N0, e0⟩ (fun fs hr => retOut X0 hx Bd.returns rfl (Or.inl ⟨rfl, Or.inl rfl, _, rfl⟩) (hb hby d13_4) hr)
theorem d14_0 : decode jdk_43_method_2_code 0 = .ok (.iload_n 1, 1) := by decide +kernel
theorem d14_1 : decode jdk_43_method_2_code 1 = .ok (.aload_n 0, 1) := by decide +kernel
theorem d14_2 : decode jdk_43_method_2_code 2 = .ok (.arraylength, 1) := by decide +kernel
theorem d14_3 : decode jdk_43_method_2_code 3 = .ok (.invokestatic 9, 3) := by decide +kernel
theorem d14_6 : decode jdk_43_method_2_code 6 = .ok (.aload_n 0, 1) := by decide +kernel
theorem d14_7 : decode jdk_43_method_2_code 7 = .ok (.iload_n 1, 1) := by decide +kernel
theorem d14_8 : decode jdk_43_method_2_code 8 = .ok (.baload, 1) := by decide +kernel
theorem d14_9 : decode jdk_43_method_2_code 9 = .ok (.sipush 255, 3) := by decide +kernel
theorem d14_12 : decode jdk_43_method_2_code 12 = .ok (.iand, 1) := by decide +kernel
theorem d14_13 : decode jdk_43_method_2_code 13 = .ok (.i2c, 1) := by decide +kernel
theorem d14_14 : decode jdk_43_method_2_code 14 = .ok (.ireturn, 1) := by decide +kernel
theorem pn_java_lang_StringLatin1 : plainName "java/lang/StringLatin1" = true := by first | (simp [plainName, overriddenIn]; done) | decide +kernel
def Q_rm_l1_0 (Z : State) (a2 : Addr) (k2 : ClassId) (c0 : Int32) (c1 : Int32) (c2 : Int32) (c3 : Int32) (vf : Value) (h0 : Heap) (n0 : Nat) (v : Option Value) (h : Heap) (L : List Loc) : Prop := v = some (.int c0) ∧ Fr n0 L ∧ h = h0
set_option maxRecDepth 65536 in
set_option maxHeartbeats 40000000 in
theorem rm_l1_0 (l : Launch) (Z : State) (a0 : Array Value) (hw : ∀ d ∈ tables_1, d.before a0 Z = true) (ws : List Jvm.Cond) (a2 : Addr) (k2 : ClassId) (c0 : Int32) (c1 : Int32) (c2 : Int32) (c3 : Int32) (vf : Value) (h0 : Heap) (n0 : Nat) (Z0 : n0 ≤ h0.size) (O0 : Old Z n0 h0) (V_a2 : Arv Z h0 a2 k2 .byte (4 : Int32) [(.int (bL1 c0)), (.int (bL1 c1)), (.int (bL1 c2)), (.int (bL1 c3))] (.int (0 : Int32))) (S_Preconditions_SIOOBE_FORMATTER_old : Sta Z Z.heap "jdk/internal/util/Preconditions" "SIOOBE_FORMATTER" "Ljava/util/function/BiFunction;" vf) (hvf : vf.isRef = true) (hb0 : B16 c0) (hlow0 : ¬ ((255 : Int32) < c0)) :
    MetFree l Y14 (head1 (Jvm.Cond.code Y14 jdk_43_method_2_code 2 (some .char) :: ws) ({ frames := 2, cells := 0, slots := 0, locals := 27 } : Room)) (fun a U => a = #[(.ref a2), (.int (0 : Int32))] ∧ Z.Warmed39 U.vm ∧ U.heap = h0) (fun _ _ _ _ _ => True) (fun _ U o U' => ∃ v L, o = .returned v ∧ Q_rm_l1_0 Z a2 k2 c0 c1 c2 c3 vf h0 n0 v U'.heap L ∧ FrameEnd U o U' L ({ frames := 2, cells := 0, slots := 0, locals := 27 } : Room).cells ({ frames := 2, cells := 0, slots := 0, locals := 27 } : Room).slots) := by
  refine MetFree.of_bodySF (plainFor_of_name pn_java_lang_StringLatin1) hisR ?_
  intro p e s m args below meth c s₁ Bd hml0 hP hK
  obtain ⟨rfl, hZ, hh⟩ := hP
  have hx := Bd.exec
  have hby := Bd.bytes
  have hml : c.maxLocals = 2 := hml0
  have hown : s.vm.findClass "java/lang/StringLatin1" = some m.cls := findClass_of_methodNamed Bd.named
  have hnm := (name_of_methodNamed Bd.named Bd.method).1
  have X0 : Stand p l e ({ frames := 2, cells := 0, slots := 0, locals := 27 } : Room) s m #[(.ref a2), (.int (0 : Int32))] below meth c s₁ [] 0 0 := Stand.of_body Bd
  have e0 : s₁.heap = h0 := by rw [← hh, Bd.state]; rfl
  have N0 := Fr.nil n0
  refine Goes.out (l := l) (c := c) (R := ({ frames := 2, cells := 0, slots := 0, locals := 27 } : Room)) (Q := Q_rm_l1_0 Z a2 k2 c0 c1 c2 c3 vf h0 n0) Bd.notSynchronized ?_
  refine Goes.cast (g2 := mkF m 0 #[rv a2, iv 0] []) (by first | (simp [entryFrame, mkF, argsToLocals, Value.category]; done) | rfl) ?_
  have K0 : Keep h0 h0 [] := Keep.refl h0 _
  have hws : ∀ x ∈ ([] : List Addr), n0 ≤ x := all0
  refine Goes.step (T2 := s₁) (g2 := (mkF m 1 #[rv a2, iv 0] [(.int (0 : Int32))])) (fun _ hr => XS.iloadN X0.here hx rfl (hb hby d14_0) rfl  hr) ?_
  refine Goes.step (T2 := s₁) (g2 := (mkF m 2 #[rv a2, iv 0] [(.ref a2), (.int (0 : Int32))])) (fun _ hr => XS.aloadN X0.here hx rfl (hb hby d14_1) rfl rfl hr) ?_
  obtain ⟨cl186, Ar186, -, S186, Nn186, -, -⟩ := id V_a2
  refine Goes.step (T2 := s₁) (g2 := (mkF m 3 #[rv a2, iv 0] [(.int (4 : Int32)), (.int (0 : Int32))])) (fun t hr => X0.arraylength hx (own_at e0 Ar186.1) (State.isArrayOf_alike hZ.alike Ar186.2.1) (g := (mkF m 2 #[rv a2, iv 0] [(.ref a2), (.int (0 : Int32))])) rfl rfl (hb hby d14_2) t (by rw [len_of S186 Nn186]; exact hr)) ?_
  have Zs187 : n0 ≤ h0.size := Nat.le_trans Z0 K0.1
  obtain ⟨_, _, ⟨T188, L188, k188, n188⟩, -, X188, ⟨Lc188, hQ188, l188, y188, z188⟩, st188⟩ := Jvm.LawKit.callS X0 hx (y := Y12) hown (mvT hZ (tw hw 73 rfl)) (mvT hZ (tw hw 74 rfl)) (mvT hZ (tw hw 5 rfl)) (mvT hZ (tw hw 75 rfl)) (by decide) (backOf (W := 0) (rm_ci0 l Z a0 hw [] vf h0 n0 Zs187 (Old.keep O0 K0 hws) S_Preconditions_SIOOBE_FORMATTER_old hvf) hZ (tw hw 75 rfl) (tw hw 5 rfl) (by decide) (by decide)) (g := (mkF m 3 #[rv a2, iv 0] [(.int (4 : Int32)), (.int (0 : Int32))])) rfl (by rw [hml]; rfl) (argsL := [(.int (0 : Int32)), (.int (4 : Int32))]) (rest := []) (lenOf pd_9 rfl) rfl (by show 2 * 0 + _ ≤ _; exact Nat.le_of_eq rfl) (hb hby d14_3) (fun _ _ => ⟨rfl, e0, (by decide : 0 + 0 ≤ _), (by decide : 0 + 0 ≤ _)⟩)
  dsimp only [Pt.U, Pt.locs, Pt.cells, Pt.slots] at X188 l188 y188 z188 st188 hQ188
  subst l188 y188 z188
  obtain ⟨rfl, N188q, e188⟩ := hQ188
  have N188 := Fr.app N0 N188q
  refine Goes.step (T2 := T188) (g2 := (mkF m 6 #[rv a2, iv 0] [])) st188 ?_
  refine Goes.step (T2 := T188) (g2 := (mkF m 7 #[rv a2, iv 0] [(.ref a2)])) (fun _ hr => XS.aloadN X188.here hx rfl (hb hby d14_6) rfl rfl hr) ?_
  refine Goes.step (T2 := T188) (g2 := (mkF m 8 #[rv a2, iv 0] [(.int (0 : Int32)), (.ref a2)])) (fun _ hr => XS.iloadN X188.here hx rfl (hb hby d14_7) rfl  hr) ?_
  obtain ⟨cl189, Ar189, q189, S189, Nn189, H189, G189⟩ := id V_a2
  have hin189 : ¬ ((0 : Int32) < 0 ∨ cl189.slots.size ≤ ((0 : Int32)).toNatClampNeg) := inb_of S189 ⟨by decide, by decide⟩
  refine Goes.step (T2 := T188) (g2 := (mkF m 9 #[rv a2, iv 0] [(.int (bL1 c0))])) (X188.baloadBytes hx (j := (0 : Int32)) (v := (.int (bL1 c0))) (own_at e188 Ar189.1) (State.isArrayOf_alike hZ.alike Ar189.2.1) Ar189.2.2 hin189 (H189.at hin189 rfl) (g := (mkF m 8 #[rv a2, iv 0] [(.int (0 : Int32)), (.ref a2)])) rfl rfl (hb hby d14_8)) ?_
  refine Goes.step (T2 := T188) (g2 := (mkF m 12 #[rv a2, iv 0] [(.int (255 : Int32)), (.int (bL1 c0))])) (fun _ hr => XS.sipush X188.here hx rfl (hb hby d14_9) hr) ?_
  refine Goes.step (T2 := T188) (g2 := (mkF m 13 #[rv a2, iv 0] [(.int ((bL1 c0) &&& (255 : Int32)))])) (fun _ hr => XS.iand X188.here hx rfl (hb hby d14_12) rfl hr) ?_
  refine Goes.step (T2 := T188) (g2 := (mkF m 14 #[rv a2, iv 0] [(.int (((bL1 c0) &&& (255 : Int32)).toUInt32.toUInt16.toUInt32.toInt32))])) (fun _ hr => Jvm.Free.XT.i2c X188.here hx rfl (hb hby d14_13) rfl hr) ?_
  rw [own_gl hb0 hlow0]
  exact Goes.ret (v := some (.int c0)) X188 (by decide) (by decide) (fun h => by rw [Bd.returns] at h; cases h) ⟨rfl, N188, e188⟩ (fun fs hr => retOut X188 hx Bd.returns (own_nw hb0) (Or.inl ⟨rfl, Or.inr (Or.inr (Or.inr (Or.inl rfl))), _, rfl⟩) (hb hby d14_14) hr)
theorem d15_0 : decode jdk_52_method_91_code 0 = .ok (.iload_n 0, 1) := by decide +kernel
theorem d15_1 : decode jdk_52_method_91_code 1 = .ok (.aload_n 1, 1) := by decide +kernel
theorem d15_2 : decode jdk_52_method_91_code 2 = .ok (.invokestatic 48, 3) := by decide +kernel
theorem d15_5 : decode jdk_52_method_91_code 5 = .ok (.invokestatic 414, 3) := by decide +kernel
theorem d15_8 : decode jdk_52_method_91_code 8 = .ok (.return_, 1) := by decide +kernel
def Q_rm_uci0 (Z : State) (a2 : Addr) (k2 : ClassId) (c0 : Int32) (c1 : Int32) (c2 : Int32) (c3 : Int32) (vf : Value) (h0 : Heap) (n0 : Nat) (v : Option Value) (h : Heap) (L : List Loc) : Prop := v = none ∧ Fr n0 L ∧ h = h0
set_option maxRecDepth 65536 in
set_option maxHeartbeats 40000000 in
theorem rm_uci0 (l : Launch) (Z : State) (a0 : Array Value) (hw : ∀ d ∈ tables_1, d.before a0 Z = true) (ws : List Jvm.Cond) (a2 : Addr) (k2 : ClassId) (c0 : Int32) (c1 : Int32) (c2 : Int32) (c3 : Int32) (vf : Value) (h0 : Heap) (n0 : Nat) (Z0 : n0 ≤ h0.size) (O0 : Old Z n0 h0) (V_a2 : Arv Z h0 a2 k2 .byte (8 : Int32) [(.int (bLo c0)), (.int (bHi c0)), (.int (bLo c1)), (.int (bHi c1)), (.int (bLo c2)), (.int (bHi c2)), (.int (bLo c3)), (.int (bHi c3))] (.int (0 : Int32))) (S_Preconditions_SIOOBE_FORMATTER_old : Sta Z Z.heap "jdk/internal/util/Preconditions" "SIOOBE_FORMATTER" "Ljava/util/function/BiFunction;" vf) (hvf : vf.isRef = true) :
    MetFree l Y15 (head1 (Jvm.Cond.code Y15 jdk_52_method_91_code 2 none :: ws) ({ frames := 2, cells := 0, slots := 0, locals := 27 } : Room)) (fun a U => a = #[(.int (0 : Int32)), (.ref a2)] ∧ Z.Warmed39 U.vm ∧ U.heap = h0) (fun _ _ _ _ _ => True) (fun _ U o U' => ∃ v L, o = .returned v ∧ Q_rm_uci0 Z a2 k2 c0 c1 c2 c3 vf h0 n0 v U'.heap L ∧ FrameEnd U o U' L ({ frames := 2, cells := 0, slots := 0, locals := 27 } : Room).cells ({ frames := 2, cells := 0, slots := 0, locals := 27 } : Room).slots) := by
  refine MetFree.of_bodySF (plainFor_of_name pn_java_lang_StringUTF16) hisR ?_
  intro p e s m args below meth c s₁ Bd hml0 hP hK
  obtain ⟨rfl, hZ, hh⟩ := hP
  have hx := Bd.exec
  have hby := Bd.bytes
  have hml : c.maxLocals = 2 := hml0
  have hown : s.vm.findClass "java/lang/StringUTF16" = some m.cls := findClass_of_methodNamed Bd.named
  have hnm := (name_of_methodNamed Bd.named Bd.method).1
  have X0 : Stand p l e ({ frames := 2, cells := 0, slots := 0, locals := 27 } : Room) s m #[(.int (0 : Int32)), (.ref a2)] below meth c s₁ [] 0 0 := Stand.of_body Bd
  have e0 : s₁.heap = h0 := by rw [← hh, Bd.state]; rfl
  have N0 := Fr.nil n0
  refine Goes.out (l := l) (c := c) (R := ({ frames := 2, cells := 0, slots := 0, locals := 27 } : Room)) (Q := Q_rm_uci0 Z a2 k2 c0 c1 c2 c3 vf h0 n0) Bd.notSynchronized ?_
  refine Goes.cast (g2 := mkF m 0 #[iv 0, rv a2] []) (by first | (simp [entryFrame, mkF, argsToLocals, Value.category]; done) | rfl) ?_
  have K0 : Keep h0 h0 [] := Keep.refl h0 _
  have hws : ∀ x ∈ ([] : List Addr), n0 ≤ x := all0
  refine Goes.step (T2 := s₁) (g2 := (mkF m 1 #[iv 0, rv a2] [(.int (0 : Int32))])) (fun _ hr => XS.iloadN X0.here hx rfl (hb hby d15_0) rfl  hr) ?_
  refine Goes.step (T2 := s₁) (g2 := (mkF m 2 #[iv 0, rv a2] [(.ref a2), (.int (0 : Int32))])) (fun _ hr => XS.aloadN X0.here hx rfl (hb hby d15_1) rfl rfl hr) ?_
  have Zs190 : n0 ≤ h0.size := Nat.le_trans Z0 K0.1
  obtain ⟨_, _, ⟨T191, L191, k191, n191⟩, -, X191, ⟨Lc191, hQ191, l191, y191, z191⟩, st191⟩ := Jvm.LawKit.callS X0 hx (y := Y13) hown (mvT hZ (tw hw 87 rfl)) (mvT hZ (tw hw 88 rfl)) (mvT hZ (tw hw 19 rfl)) (mvT hZ (tw hw 89 rfl)) (by decide) (backOf (W := 1) (rm_len16 l Z a0 hw [] a2 k2 c0 c1 c2 c3 h0 n0 Zs190 (Old.keep O0 K0 hws) V_a2) hZ (tw hw 89 rfl) (tw hw 19 rfl) (by decide) (by decide)) (g := (mkF m 2 #[iv 0, rv a2] [(.ref a2), (.int (0 : Int32))])) rfl (by rw [hml]; rfl) (argsL := [(.ref a2)]) (rest := [(.int (0 : Int32))]) (lenOf pd_10 rfl) rfl (by show 2 * 0 + _ ≤ _; exact Nat.le_of_eq rfl) (hb hby d15_2) (fun _ _ => ⟨rfl, e0, (by decide : 0 + 0 ≤ _), (by decide : 0 + 0 ≤ _)⟩)
  dsimp only [Pt.U, Pt.locs, Pt.cells, Pt.slots] at X191 l191 y191 z191 st191 hQ191
  subst l191 y191 z191
  obtain ⟨rfl, N191q, e191⟩ := hQ191
  have N191 := Fr.app N0 N191q
  refine Goes.step (T2 := T191) (g2 := (mkF m 5 #[iv 0, rv a2] [(.int (4 : Int32)), (.int (0 : Int32))])) st191 ?_
  have Zs192 : n0 ≤ h0.size := Nat.le_trans Z0 K0.1
  obtain ⟨_, _, ⟨T193, L193, k193, n193⟩, -, X193, ⟨Lc193, hQ193, l193, y193, z193⟩, st193⟩ := Jvm.LawKit.callS X191 hx (y := Y12) hown (mvT hZ (tw hw 90 rfl)) (mvT hZ (tw hw 74 rfl)) (mvT hZ (tw hw 5 rfl)) (mvT hZ (tw hw 75 rfl)) (by decide) (backOf (W := 0) (rm_ci0 l Z a0 hw [] vf h0 n0 Zs192 (Old.keep O0 K0 hws) S_Preconditions_SIOOBE_FORMATTER_old hvf) hZ (tw hw 75 rfl) (tw hw 5 rfl) (by decide) (by decide)) (g := (mkF m 5 #[iv 0, rv a2] [(.int (4 : Int32)), (.int (0 : Int32))])) rfl (by rw [hml]; rfl) (argsL := [(.int (0 : Int32)), (.int (4 : Int32))]) (rest := []) (lenOf pd_9 rfl) rfl (by show 2 * 0 + _ ≤ _; exact Nat.le_of_eq rfl) (hb hby d15_5) (fun _ _ => ⟨rfl, e191, (by decide : 0 + 0 ≤ _), (by decide : 0 + 0 ≤ _)⟩)
  dsimp only [Pt.U, Pt.locs, Pt.cells, Pt.slots] at X193 l193 y193 z193 st193 hQ193
  subst l193 y193 z193
  obtain ⟨rfl, N193q, e193⟩ := hQ193
  have N193 := Fr.app N191 N193q
  refine Goes.step (T2 := T193) (g2 := (mkF m 8 #[iv 0, rv a2] [])) st193 ?_
  exact Goes.ret (v := none) X193 (by decide) (by decide) (fun _ => rfl) ⟨rfl, N193, e193⟩ (fun fs hr => X193.returnOut hx Bd.returns (hb hby d15_8) hr)
theorem d16_0 : decode jdk_52_method_83_code 0 = .ok (.iload_n 1, 1) := by decide +kernel
theorem d16_1 : decode jdk_52_method_83_code 1 = .ok (.aload_n 0, 1) := by decide +kernel
theorem d16_2 : decode jdk_52_method_83_code 2 = .ok (.invokestatic 67, 3) := by decide +kernel
theorem d16_5 : decode jdk_52_method_83_code 5 = .ok (.aload_n 0, 1) := by decide +kernel
theorem d16_6 : decode jdk_52_method_83_code 6 = .ok (.iload_n 1, 1) := by decide +kernel
theorem d16_7 : decode jdk_52_method_83_code 7 = .ok (.invokestatic 71, 3) := by decide +kernel
theorem d16_10 : decode jdk_52_method_83_code 10 = .ok (.ireturn, 1) := by decide +kernel
def Q_rm_u16_0 (Z : State) (a2 : Addr) (k2 : ClassId) (c0 : Int32) (c1 : Int32) (c2 : Int32) (c3 : Int32) (vf : Value) (h0 : Heap) (n0 : Nat) (v : Option Value) (h : Heap) (L : List Loc) : Prop := v = some (.int c0) ∧ Fr n0 L ∧ h = h0
set_option maxRecDepth 65536 in
set_option maxHeartbeats 40000000 in
theorem rm_u16_0 (l : Launch) (Z : State) (a0 : Array Value) (hw : ∀ d ∈ tables_1, d.before a0 Z = true) (ws : List Jvm.Cond) (a2 : Addr) (k2 : ClassId) (c0 : Int32) (c1 : Int32) (c2 : Int32) (c3 : Int32) (vf : Value) (h0 : Heap) (n0 : Nat) (Z0 : n0 ≤ h0.size) (O0 : Old Z n0 h0) (V_a2 : Arv Z h0 a2 k2 .byte (8 : Int32) [(.int (bLo c0)), (.int (bHi c0)), (.int (bLo c1)), (.int (bHi c1)), (.int (bLo c2)), (.int (bHi c2)), (.int (bLo c3)), (.int (bHi c3))] (.int (0 : Int32))) (S_Preconditions_SIOOBE_FORMATTER_old : Sta Z Z.heap "jdk/internal/util/Preconditions" "SIOOBE_FORMATTER" "Ljava/util/function/BiFunction;" vf) (S_StringUTF16__assertionsDisabled_old : Sta Z Z.heap "java/lang/StringUTF16" "$assertionsDisabled" "Z" (.int (1 : Int32))) (S_StringUTF16_HI_BYTE_SHIFT_old : Sta Z Z.heap "java/lang/StringUTF16" "HI_BYTE_SHIFT" "I" (.int (0 : Int32))) (S_StringUTF16_LO_BYTE_SHIFT_old : Sta Z Z.heap "java/lang/StringUTF16" "LO_BYTE_SHIFT" "I" (.int (8 : Int32))) (hvf : vf.isRef = true) (hb0 : B16 c0) :
    MetFree l Y16 (head1 (Jvm.Cond.code Y16 jdk_52_method_83_code 2 (some .char) :: ws) ({ frames := 3, cells := 0, slots := 0, locals := 40 } : Room)) (fun a U => a = #[(.ref a2), (.int (0 : Int32))] ∧ Z.Warmed39 U.vm ∧ U.heap = h0) (fun _ _ _ _ _ => True) (fun _ U o U' => ∃ v L, o = .returned v ∧ Q_rm_u16_0 Z a2 k2 c0 c1 c2 c3 vf h0 n0 v U'.heap L ∧ FrameEnd U o U' L ({ frames := 3, cells := 0, slots := 0, locals := 40 } : Room).cells ({ frames := 3, cells := 0, slots := 0, locals := 40 } : Room).slots) := by
  refine MetFree.of_bodySF (plainFor_of_name pn_java_lang_StringUTF16) hisR ?_
  intro p e s m args below meth c s₁ Bd hml0 hP hK
  obtain ⟨rfl, hZ, hh⟩ := hP
  have hx := Bd.exec
  have hby := Bd.bytes
  have hml : c.maxLocals = 2 := hml0
  have hown : s.vm.findClass "java/lang/StringUTF16" = some m.cls := findClass_of_methodNamed Bd.named
  have hnm := (name_of_methodNamed Bd.named Bd.method).1
  have X0 : Stand p l e ({ frames := 3, cells := 0, slots := 0, locals := 40 } : Room) s m #[(.ref a2), (.int (0 : Int32))] below meth c s₁ [] 0 0 := Stand.of_body Bd
  have e0 : s₁.heap = h0 := by rw [← hh, Bd.state]; rfl
  have N0 := Fr.nil n0
  refine Goes.out (l := l) (c := c) (R := ({ frames := 3, cells := 0, slots := 0, locals := 40 } : Room)) (Q := Q_rm_u16_0 Z a2 k2 c0 c1 c2 c3 vf h0 n0) Bd.notSynchronized ?_
  refine Goes.cast (g2 := mkF m 0 #[rv a2, iv 0] []) (by first | (simp [entryFrame, mkF, argsToLocals, Value.category]; done) | rfl) ?_
  have K0 : Keep h0 h0 [] := Keep.refl h0 _
  have hws : ∀ x ∈ ([] : List Addr), n0 ≤ x := all0
  refine Goes.step (T2 := s₁) (g2 := (mkF m 1 #[rv a2, iv 0] [(.int (0 : Int32))])) (fun _ hr => XS.iloadN X0.here hx rfl (hb hby d16_0) rfl  hr) ?_
  refine Goes.step (T2 := s₁) (g2 := (mkF m 2 #[rv a2, iv 0] [(.ref a2), (.int (0 : Int32))])) (fun _ hr => XS.aloadN X0.here hx rfl (hb hby d16_1) rfl rfl hr) ?_
  have Zs194 : n0 ≤ h0.size := Nat.le_trans Z0 K0.1
  obtain ⟨_, _, ⟨T195, L195, k195, n195⟩, -, X195, ⟨Lc195, hQ195, l195, y195, z195⟩, st195⟩ := Jvm.LawKit.callS X0 hx (y := Y15) hown (mvT hZ (tw hw 84 rfl)) (mvT hZ (tw hw 85 rfl)) (mvT hZ (tw hw 19 rfl)) (mvT hZ (tw hw 86 rfl)) (by decide) (backOf (W := 0) (rm_uci0 l Z a0 hw [] a2 k2 c0 c1 c2 c3 vf h0 n0 Zs194 (Old.keep O0 K0 hws) V_a2 S_Preconditions_SIOOBE_FORMATTER_old hvf) hZ (tw hw 86 rfl) (tw hw 19 rfl) (by decide) (by decide)) (g := (mkF m 2 #[rv a2, iv 0] [(.ref a2), (.int (0 : Int32))])) rfl (by rw [hml]; rfl) (argsL := [(.int (0 : Int32)), (.ref a2)]) (rest := []) (lenOf pd_11 rfl) rfl (by show 2 * 0 + _ ≤ _; exact Nat.le_of_eq rfl) (hb hby d16_2) (fun _ _ => ⟨rfl, e0, (by decide : 0 + 0 ≤ _), (by decide : 0 + 0 ≤ _)⟩)
  dsimp only [Pt.U, Pt.locs, Pt.cells, Pt.slots] at X195 l195 y195 z195 st195 hQ195
  subst l195 y195 z195
  obtain ⟨rfl, N195q, e195⟩ := hQ195
  have N195 := Fr.app N0 N195q
  refine Goes.step (T2 := T195) (g2 := (mkF m 5 #[rv a2, iv 0] [])) st195 ?_
  refine Goes.step (T2 := T195) (g2 := (mkF m 6 #[rv a2, iv 0] [(.ref a2)])) (fun _ hr => XS.aloadN X195.here hx rfl (hb hby d16_5) rfl rfl hr) ?_
  refine Goes.step (T2 := T195) (g2 := (mkF m 7 #[rv a2, iv 0] [(.int (0 : Int32)), (.ref a2)])) (fun _ hr => XS.iloadN X195.here hx rfl (hb hby d16_6) rfl  hr) ?_
  have Zs196 : n0 ≤ h0.size := Nat.le_trans Z0 K0.1
  obtain ⟨_, _, ⟨T197, L197, k197, n197⟩, -, X197, ⟨Lc197, hQ197, l197, y197, z197⟩, st197⟩ := Jvm.LawKit.callS X195 hx (y := Y5) hown (mvT hZ (tw hw 56 rfl)) (mvT hZ (tw hw 57 rfl)) (mvT hZ (tw hw 19 rfl)) (mvT hZ (tw hw 58 rfl)) (by decide) (backOf (W := 0) (rm_get0 l Z a0 hw [] a2 k2 c0 c1 c2 c3 h0 n0 Zs196 (Old.keep O0 K0 hws) V_a2 S_StringUTF16__assertionsDisabled_old S_StringUTF16_HI_BYTE_SHIFT_old S_StringUTF16_LO_BYTE_SHIFT_old hb0) hZ (tw hw 58 rfl) (tw hw 19 rfl) (by decide) (by decide)) (g := (mkF m 7 #[rv a2, iv 0] [(.int (0 : Int32)), (.ref a2)])) rfl (by rw [hml]; rfl) (argsL := [(.ref a2), (.int (0 : Int32))]) (rest := []) (lenOf pd_5 rfl) rfl (by show 2 * 0 + _ ≤ _; exact Nat.le_of_eq rfl) (hb hby d16_7) (fun _ _ => ⟨rfl, e195, (by decide : 0 + 0 ≤ _), (by decide : 0 + 0 ≤ _)⟩)
  dsimp only [Pt.U, Pt.locs, Pt.cells, Pt.slots] at X197 l197 y197 z197 st197 hQ197
  subst l197 y197 z197
  obtain ⟨rfl, N197q, e197⟩ := hQ197
  have N197 := Fr.app N195 N197q
  refine Goes.step (T2 := T197) (g2 := (mkF m 10 #[rv a2, iv 0] [(.int c0)])) st197 ?_
  exact Goes.ret (v := some (.int c0)) X197 (by decide) (by decide) (fun h => by rw [Bd.returns] at h; cases h) ⟨rfl, N197, e197⟩ (fun fs hr => retOut X197 hx Bd.returns (own_nw hb0) (Or.inl ⟨rfl, Or.inr (Or.inr (Or.inr (Or.inl rfl))), _, rfl⟩) (hb hby d16_10) hr)
def Q_rm_l1_1 (Z : State) (a2 : Addr) (k2 : ClassId) (c0 : Int32) (c1 : Int32) (c2 : Int32) (c3 : Int32) (vf : Value) (h0 : Heap) (n0 : Nat) (v : Option Value) (h : Heap) (L : List Loc) : Prop := v = some (.int c1) ∧ Fr n0 L ∧ h = h0
set_option maxRecDepth 65536 in
set_option maxHeartbeats 40000000 in
theorem rm_l1_1 (l : Launch) (Z : State) (a0 : Array Value) (hw : ∀ d ∈ tables_1, d.before a0 Z = true) (ws : List Jvm.Cond) (a2 : Addr) (k2 : ClassId) (c0 : Int32) (c1 : Int32) (c2 : Int32) (c3 : Int32) (vf : Value) (h0 : Heap) (n0 : Nat) (Z0 : n0 ≤ h0.size) (O0 : Old Z n0 h0) (V_a2 : Arv Z h0 a2 k2 .byte (4 : Int32) [(.int (bL1 c0)), (.int (bL1 c1)), (.int (bL1 c2)), (.int (bL1 c3))] (.int (0 : Int32))) (S_Preconditions_SIOOBE_FORMATTER_old : Sta Z Z.heap "jdk/internal/util/Preconditions" "SIOOBE_FORMATTER" "Ljava/util/function/BiFunction;" vf) (hvf : vf.isRef = true) (hb1 : B16 c1) (hlow1 : ¬ ((255 : Int32) < c1)) :
    MetFree l Y14 (head1 (Jvm.Cond.code Y14 jdk_43_method_2_code 2 (some .char) :: ws) ({ frames := 2, cells := 0, slots := 0, locals := 27 } : Room)) (fun a U => a = #[(.ref a2), (.int (1 : Int32))] ∧ Z.Warmed39 U.vm ∧ U.heap = h0) (fun _ _ _ _ _ => True) (fun _ U o U' => ∃ v L, o = .returned v ∧ Q_rm_l1_1 Z a2 k2 c0 c1 c2 c3 vf h0 n0 v U'.heap L ∧ FrameEnd U o U' L ({ frames := 2, cells := 0, slots := 0, locals := 27 } : Room).cells ({ frames := 2, cells := 0, slots := 0, locals := 27 } : Room).slots) := by
  refine MetFree.of_bodySF (plainFor_of_name pn_java_lang_StringLatin1) hisR ?_
  intro p e s m args below meth c s₁ Bd hml0 hP hK
  obtain ⟨rfl, hZ, hh⟩ := hP
  have hx := Bd.exec
  have hby := Bd.bytes
  have hml : c.maxLocals = 2 := hml0
  have hown : s.vm.findClass "java/lang/StringLatin1" = some m.cls := findClass_of_methodNamed Bd.named
  have hnm := (name_of_methodNamed Bd.named Bd.method).1
  have X0 : Stand p l e ({ frames := 2, cells := 0, slots := 0, locals := 27 } : Room) s m #[(.ref a2), (.int (1 : Int32))] below meth c s₁ [] 0 0 := Stand.of_body Bd
  have e0 : s₁.heap = h0 := by rw [← hh, Bd.state]; rfl
  have N0 := Fr.nil n0
  refine Goes.out (l := l) (c := c) (R := ({ frames := 2, cells := 0, slots := 0, locals := 27 } : Room)) (Q := Q_rm_l1_1 Z a2 k2 c0 c1 c2 c3 vf h0 n0) Bd.notSynchronized ?_
  refine Goes.cast (g2 := mkF m 0 #[rv a2, iv 1] []) (by first | (simp [entryFrame, mkF, argsToLocals, Value.category]; done) | rfl) ?_
  have K0 : Keep h0 h0 [] := Keep.refl h0 _
  have hws : ∀ x ∈ ([] : List Addr), n0 ≤ x := all0
  refine Goes.step (T2 := s₁) (g2 := (mkF m 1 #[rv a2, iv 1] [(.int (1 : Int32))])) (fun _ hr => XS.iloadN X0.here hx rfl (hb hby d14_0) rfl  hr) ?_
  refine Goes.step (T2 := s₁) (g2 := (mkF m 2 #[rv a2, iv 1] [(.ref a2), (.int (1 : Int32))])) (fun _ hr => XS.aloadN X0.here hx rfl (hb hby d14_1) rfl rfl hr) ?_
  obtain ⟨cl198, Ar198, -, S198, Nn198, -, -⟩ := id V_a2
  refine Goes.step (T2 := s₁) (g2 := (mkF m 3 #[rv a2, iv 1] [(.int (4 : Int32)), (.int (1 : Int32))])) (fun t hr => X0.arraylength hx (own_at e0 Ar198.1) (State.isArrayOf_alike hZ.alike Ar198.2.1) (g := (mkF m 2 #[rv a2, iv 1] [(.ref a2), (.int (1 : Int32))])) rfl rfl (hb hby d14_2) t (by rw [len_of S198 Nn198]; exact hr)) ?_
  have Zs199 : n0 ≤ h0.size := Nat.le_trans Z0 K0.1
  obtain ⟨_, _, ⟨T200, L200, k200, n200⟩, -, X200, ⟨Lc200, hQ200, l200, y200, z200⟩, st200⟩ := Jvm.LawKit.callS X0 hx (y := Y12) hown (mvT hZ (tw hw 73 rfl)) (mvT hZ (tw hw 74 rfl)) (mvT hZ (tw hw 5 rfl)) (mvT hZ (tw hw 75 rfl)) (by decide) (backOf (W := 0) (rm_ci1 l Z a0 hw [] vf h0 n0 Zs199 (Old.keep O0 K0 hws) S_Preconditions_SIOOBE_FORMATTER_old hvf) hZ (tw hw 75 rfl) (tw hw 5 rfl) (by decide) (by decide)) (g := (mkF m 3 #[rv a2, iv 1] [(.int (4 : Int32)), (.int (1 : Int32))])) rfl (by rw [hml]; rfl) (argsL := [(.int (1 : Int32)), (.int (4 : Int32))]) (rest := []) (lenOf pd_9 rfl) rfl (by show 2 * 0 + _ ≤ _; exact Nat.le_of_eq rfl) (hb hby d14_3) (fun _ _ => ⟨rfl, e0, (by decide : 0 + 0 ≤ _), (by decide : 0 + 0 ≤ _)⟩)
  dsimp only [Pt.U, Pt.locs, Pt.cells, Pt.slots] at X200 l200 y200 z200 st200 hQ200
  subst l200 y200 z200
  obtain ⟨rfl, N200q, e200⟩ := hQ200
  have N200 := Fr.app N0 N200q
  refine Goes.step (T2 := T200) (g2 := (mkF m 6 #[rv a2, iv 1] [])) st200 ?_
  refine Goes.step (T2 := T200) (g2 := (mkF m 7 #[rv a2, iv 1] [(.ref a2)])) (fun _ hr => XS.aloadN X200.here hx rfl (hb hby d14_6) rfl rfl hr) ?_
  refine Goes.step (T2 := T200) (g2 := (mkF m 8 #[rv a2, iv 1] [(.int (1 : Int32)), (.ref a2)])) (fun _ hr => XS.iloadN X200.here hx rfl (hb hby d14_7) rfl  hr) ?_
  obtain ⟨cl201, Ar201, q201, S201, Nn201, H201, G201⟩ := id V_a2
  have hin201 : ¬ ((1 : Int32) < 0 ∨ cl201.slots.size ≤ ((1 : Int32)).toNatClampNeg) := inb_of S201 ⟨by decide, by decide⟩
  refine Goes.step (T2 := T200) (g2 := (mkF m 9 #[rv a2, iv 1] [(.int (bL1 c1))])) (X200.baloadBytes hx (j := (1 : Int32)) (v := (.int (bL1 c1))) (own_at e200 Ar201.1) (State.isArrayOf_alike hZ.alike Ar201.2.1) Ar201.2.2 hin201 (H201.at hin201 rfl) (g := (mkF m 8 #[rv a2, iv 1] [(.int (1 : Int32)), (.ref a2)])) rfl rfl (hb hby d14_8)) ?_
  refine Goes.step (T2 := T200) (g2 := (mkF m 12 #[rv a2, iv 1] [(.int (255 : Int32)), (.int (bL1 c1))])) (fun _ hr => XS.sipush X200.here hx rfl (hb hby d14_9) hr) ?_
  refine Goes.step (T2 := T200) (g2 := (mkF m 13 #[rv a2, iv 1] [(.int ((bL1 c1) &&& (255 : Int32)))])) (fun _ hr => XS.iand X200.here hx rfl (hb hby d14_12) rfl hr) ?_
  refine Goes.step (T2 := T200) (g2 := (mkF m 14 #[rv a2, iv 1] [(.int (((bL1 c1) &&& (255 : Int32)).toUInt32.toUInt16.toUInt32.toInt32))])) (fun _ hr => Jvm.Free.XT.i2c X200.here hx rfl (hb hby d14_13) rfl hr) ?_
  rw [own_gl hb1 hlow1]
  exact Goes.ret (v := some (.int c1)) X200 (by decide) (by decide) (fun h => by rw [Bd.returns] at h; cases h) ⟨rfl, N200, e200⟩ (fun fs hr => retOut X200 hx Bd.returns (own_nw hb1) (Or.inl ⟨rfl, Or.inr (Or.inr (Or.inr (Or.inl rfl))), _, rfl⟩) (hb hby d14_14) hr)
def Q_rm_uci1 (Z : State) (a2 : Addr) (k2 : ClassId) (c0 : Int32) (c1 : Int32) (c2 : Int32) (c3 : Int32) (vf : Value) (h0 : Heap) (n0 : Nat) (v : Option Value) (h : Heap) (L : List Loc) : Prop := v = none ∧ Fr n0 L ∧ h = h0
set_option maxRecDepth 65536 in
set_option maxHeartbeats 40000000 in
theorem rm_uci1 (l : Launch) (Z : State) (a0 : Array Value) (hw : ∀ d ∈ tables_1, d.before a0 Z = true) (ws : List Jvm.Cond) (a2 : Addr) (k2 : ClassId) (c0 : Int32) (c1 : Int32) (c2 : Int32) (c3 : Int32) (vf : Value) (h0 : Heap) (n0 : Nat) (Z0 : n0 ≤ h0.size) (O0 : Old Z n0 h0) (V_a2 : Arv Z h0 a2 k2 .byte (8 : Int32) [(.int (bLo c0)), (.int (bHi c0)), (.int (bLo c1)), (.int (bHi c1)), (.int (bLo c2)), (.int (bHi c2)), (.int (bLo c3)), (.int (bHi c3))] (.int (0 : Int32))) (S_Preconditions_SIOOBE_FORMATTER_old : Sta Z Z.heap "jdk/internal/util/Preconditions" "SIOOBE_FORMATTER" "Ljava/util/function/BiFunction;" vf) (hvf : vf.isRef = true) :
    MetFree l Y15 (head1 (Jvm.Cond.code Y15 jdk_52_method_91_code 2 none :: ws) ({ frames := 2, cells := 0, slots := 0, locals := 27 } : Room)) (fun a U => a = #[(.int (1 : Int32)), (.ref a2)] ∧ Z.Warmed39 U.vm ∧ U.heap = h0) (fun _ _ _ _ _ => True) (fun _ U o U' => ∃ v L, o = .returned v ∧ Q_rm_uci1 Z a2 k2 c0 c1 c2 c3 vf h0 n0 v U'.heap L ∧ FrameEnd U o U' L ({ frames := 2, cells := 0, slots := 0, locals := 27 } : Room).cells ({ frames := 2, cells := 0, slots := 0, locals := 27 } : Room).slots) := by
  refine MetFree.of_bodySF (plainFor_of_name pn_java_lang_StringUTF16) hisR ?_
  intro p e s m args below meth c s₁ Bd hml0 hP hK
  obtain ⟨rfl, hZ, hh⟩ := hP
  have hx := Bd.exec
  have hby := Bd.bytes
  have hml : c.maxLocals = 2 := hml0
  have hown : s.vm.findClass "java/lang/StringUTF16" = some m.cls := findClass_of_methodNamed Bd.named
  have hnm := (name_of_methodNamed Bd.named Bd.method).1
  have X0 : Stand p l e ({ frames := 2, cells := 0, slots := 0, locals := 27 } : Room) s m #[(.int (1 : Int32)), (.ref a2)] below meth c s₁ [] 0 0 := Stand.of_body Bd
  have e0 : s₁.heap = h0 := by rw [← hh, Bd.state]; rfl
  have N0 := Fr.nil n0
  refine Goes.out (l := l) (c := c) (R := ({ frames := 2, cells := 0, slots := 0, locals := 27 } : Room)) (Q := Q_rm_uci1 Z a2 k2 c0 c1 c2 c3 vf h0 n0) Bd.notSynchronized ?_
  refine Goes.cast (g2 := mkF m 0 #[iv 1, rv a2] []) (by first | (simp [entryFrame, mkF, argsToLocals, Value.category]; done) | rfl) ?_
  have K0 : Keep h0 h0 [] := Keep.refl h0 _
  have hws : ∀ x ∈ ([] : List Addr), n0 ≤ x := all0
  refine Goes.step (T2 := s₁) (g2 := (mkF m 1 #[iv 1, rv a2] [(.int (1 : Int32))])) (fun _ hr => XS.iloadN X0.here hx rfl (hb hby d15_0) rfl  hr) ?_
  refine Goes.step (T2 := s₁) (g2 := (mkF m 2 #[iv 1, rv a2] [(.ref a2), (.int (1 : Int32))])) (fun _ hr => XS.aloadN X0.here hx rfl (hb hby d15_1) rfl rfl hr) ?_
  have Zs202 : n0 ≤ h0.size := Nat.le_trans Z0 K0.1
  obtain ⟨_, _, ⟨T203, L203, k203, n203⟩, -, X203, ⟨Lc203, hQ203, l203, y203, z203⟩, st203⟩ := Jvm.LawKit.callS X0 hx (y := Y13) hown (mvT hZ (tw hw 87 rfl)) (mvT hZ (tw hw 88 rfl)) (mvT hZ (tw hw 19 rfl)) (mvT hZ (tw hw 89 rfl)) (by decide) (backOf (W := 1) (rm_len16 l Z a0 hw [] a2 k2 c0 c1 c2 c3 h0 n0 Zs202 (Old.keep O0 K0 hws) V_a2) hZ (tw hw 89 rfl) (tw hw 19 rfl) (by decide) (by decide)) (g := (mkF m 2 #[iv 1, rv a2] [(.ref a2), (.int (1 : Int32))])) rfl (by rw [hml]; rfl) (argsL := [(.ref a2)]) (rest := [(.int (1 : Int32))]) (lenOf pd_10 rfl) rfl (by show 2 * 0 + _ ≤ _; exact Nat.le_of_eq rfl) (hb hby d15_2) (fun _ _ => ⟨rfl, e0, (by decide : 0 + 0 ≤ _), (by decide : 0 + 0 ≤ _)⟩)
  dsimp only [Pt.U, Pt.locs, Pt.cells, Pt.slots] at X203 l203 y203 z203 st203 hQ203
  subst l203 y203 z203
  obtain ⟨rfl, N203q, e203⟩ := hQ203
  have N203 := Fr.app N0 N203q
  refine Goes.step (T2 := T203) (g2 := (mkF m 5 #[iv 1, rv a2] [(.int (4 : Int32)), (.int (1 : Int32))])) st203 ?_
  have Zs204 : n0 ≤ h0.size := Nat.le_trans Z0 K0.1
  obtain ⟨_, _, ⟨T205, L205, k205, n205⟩, -, X205, ⟨Lc205, hQ205, l205, y205, z205⟩, st205⟩ := Jvm.LawKit.callS X203 hx (y := Y12) hown (mvT hZ (tw hw 90 rfl)) (mvT hZ (tw hw 74 rfl)) (mvT hZ (tw hw 5 rfl)) (mvT hZ (tw hw 75 rfl)) (by decide) (backOf (W := 0) (rm_ci1 l Z a0 hw [] vf h0 n0 Zs204 (Old.keep O0 K0 hws) S_Preconditions_SIOOBE_FORMATTER_old hvf) hZ (tw hw 75 rfl) (tw hw 5 rfl) (by decide) (by decide)) (g := (mkF m 5 #[iv 1, rv a2] [(.int (4 : Int32)), (.int (1 : Int32))])) rfl (by rw [hml]; rfl) (argsL := [(.int (1 : Int32)), (.int (4 : Int32))]) (rest := []) (lenOf pd_9 rfl) rfl (by show 2 * 0 + _ ≤ _; exact Nat.le_of_eq rfl) (hb hby d15_5) (fun _ _ => ⟨rfl, e203, (by decide : 0 + 0 ≤ _), (by decide : 0 + 0 ≤ _)⟩)
  dsimp only [Pt.U, Pt.locs, Pt.cells, Pt.slots] at X205 l205 y205 z205 st205 hQ205
  subst l205 y205 z205
  obtain ⟨rfl, N205q, e205⟩ := hQ205
  have N205 := Fr.app N203 N205q
  refine Goes.step (T2 := T205) (g2 := (mkF m 8 #[iv 1, rv a2] [])) st205 ?_
  exact Goes.ret (v := none) X205 (by decide) (by decide) (fun _ => rfl) ⟨rfl, N205, e205⟩ (fun fs hr => X205.returnOut hx Bd.returns (hb hby d15_8) hr)
def Q_rm_u16_1 (Z : State) (a2 : Addr) (k2 : ClassId) (c0 : Int32) (c1 : Int32) (c2 : Int32) (c3 : Int32) (vf : Value) (h0 : Heap) (n0 : Nat) (v : Option Value) (h : Heap) (L : List Loc) : Prop := v = some (.int c1) ∧ Fr n0 L ∧ h = h0
set_option maxRecDepth 65536 in
set_option maxHeartbeats 40000000 in
theorem rm_u16_1 (l : Launch) (Z : State) (a0 : Array Value) (hw : ∀ d ∈ tables_1, d.before a0 Z = true) (ws : List Jvm.Cond) (a2 : Addr) (k2 : ClassId) (c0 : Int32) (c1 : Int32) (c2 : Int32) (c3 : Int32) (vf : Value) (h0 : Heap) (n0 : Nat) (Z0 : n0 ≤ h0.size) (O0 : Old Z n0 h0) (V_a2 : Arv Z h0 a2 k2 .byte (8 : Int32) [(.int (bLo c0)), (.int (bHi c0)), (.int (bLo c1)), (.int (bHi c1)), (.int (bLo c2)), (.int (bHi c2)), (.int (bLo c3)), (.int (bHi c3))] (.int (0 : Int32))) (S_Preconditions_SIOOBE_FORMATTER_old : Sta Z Z.heap "jdk/internal/util/Preconditions" "SIOOBE_FORMATTER" "Ljava/util/function/BiFunction;" vf) (S_StringUTF16__assertionsDisabled_old : Sta Z Z.heap "java/lang/StringUTF16" "$assertionsDisabled" "Z" (.int (1 : Int32))) (S_StringUTF16_HI_BYTE_SHIFT_old : Sta Z Z.heap "java/lang/StringUTF16" "HI_BYTE_SHIFT" "I" (.int (0 : Int32))) (S_StringUTF16_LO_BYTE_SHIFT_old : Sta Z Z.heap "java/lang/StringUTF16" "LO_BYTE_SHIFT" "I" (.int (8 : Int32))) (hvf : vf.isRef = true) (hb1 : B16 c1) :
    MetFree l Y16 (head1 (Jvm.Cond.code Y16 jdk_52_method_83_code 2 (some .char) :: ws) ({ frames := 3, cells := 0, slots := 0, locals := 40 } : Room)) (fun a U => a = #[(.ref a2), (.int (1 : Int32))] ∧ Z.Warmed39 U.vm ∧ U.heap = h0) (fun _ _ _ _ _ => True) (fun _ U o U' => ∃ v L, o = .returned v ∧ Q_rm_u16_1 Z a2 k2 c0 c1 c2 c3 vf h0 n0 v U'.heap L ∧ FrameEnd U o U' L ({ frames := 3, cells := 0, slots := 0, locals := 40 } : Room).cells ({ frames := 3, cells := 0, slots := 0, locals := 40 } : Room).slots) := by
  refine MetFree.of_bodySF (plainFor_of_name pn_java_lang_StringUTF16) hisR ?_
  intro p e s m args below meth c s₁ Bd hml0 hP hK
  obtain ⟨rfl, hZ, hh⟩ := hP
  have hx := Bd.exec
  have hby := Bd.bytes
  have hml : c.maxLocals = 2 := hml0
  have hown : s.vm.findClass "java/lang/StringUTF16" = some m.cls := findClass_of_methodNamed Bd.named
  have hnm := (name_of_methodNamed Bd.named Bd.method).1
  have X0 : Stand p l e ({ frames := 3, cells := 0, slots := 0, locals := 40 } : Room) s m #[(.ref a2), (.int (1 : Int32))] below meth c s₁ [] 0 0 := Stand.of_body Bd
  have e0 : s₁.heap = h0 := by rw [← hh, Bd.state]; rfl
  have N0 := Fr.nil n0
  refine Goes.out (l := l) (c := c) (R := ({ frames := 3, cells := 0, slots := 0, locals := 40 } : Room)) (Q := Q_rm_u16_1 Z a2 k2 c0 c1 c2 c3 vf h0 n0) Bd.notSynchronized ?_
  refine Goes.cast (g2 := mkF m 0 #[rv a2, iv 1] []) (by first | (simp [entryFrame, mkF, argsToLocals, Value.category]; done) | rfl) ?_
  have K0 : Keep h0 h0 [] := Keep.refl h0 _
  have hws : ∀ x ∈ ([] : List Addr), n0 ≤ x := all0
  refine Goes.step (T2 := s₁) (g2 := (mkF m 1 #[rv a2, iv 1] [(.int (1 : Int32))])) (fun _ hr => XS.iloadN X0.here hx rfl (hb hby d16_0) rfl  hr) ?_
  refine Goes.step (T2 := s₁) (g2 := (mkF m 2 #[rv a2, iv 1] [(.ref a2), (.int (1 : Int32))])) (fun _ hr => XS.aloadN X0.here hx rfl (hb hby d16_1) rfl rfl hr) ?_
  have Zs206 : n0 ≤ h0.size := Nat.le_trans Z0 K0.1
  obtain ⟨_, _, ⟨T207, L207, k207, n207⟩, -, X207, ⟨Lc207, hQ207, l207, y207, z207⟩, st207⟩ := Jvm.LawKit.callS X0 hx (y := Y15) hown (mvT hZ (tw hw 84 rfl)) (mvT hZ (tw hw 85 rfl)) (mvT hZ (tw hw 19 rfl)) (mvT hZ (tw hw 86 rfl)) (by decide) (backOf (W := 0) (rm_uci1 l Z a0 hw [] a2 k2 c0 c1 c2 c3 vf h0 n0 Zs206 (Old.keep O0 K0 hws) V_a2 S_Preconditions_SIOOBE_FORMATTER_old hvf) hZ (tw hw 86 rfl) (tw hw 19 rfl) (by decide) (by decide)) (g := (mkF m 2 #[rv a2, iv 1] [(.ref a2), (.int (1 : Int32))])) rfl (by rw [hml]; rfl) (argsL := [(.int (1 : Int32)), (.ref a2)]) (rest := []) (lenOf pd_11 rfl) rfl (by show 2 * 0 + _ ≤ _; exact Nat.le_of_eq rfl) (hb hby d16_2) (fun _ _ => ⟨rfl, e0, (by decide : 0 + 0 ≤ _), (by decide : 0 + 0 ≤ _)⟩)
  dsimp only [Pt.U, Pt.locs, Pt.cells, Pt.slots] at X207 l207 y207 z207 st207 hQ207
  subst l207 y207 z207
  obtain ⟨rfl, N207q, e207⟩ := hQ207
  have N207 := Fr.app N0 N207q
  refine Goes.step (T2 := T207) (g2 := (mkF m 5 #[rv a2, iv 1] [])) st207 ?_
  refine Goes.step (T2 := T207) (g2 := (mkF m 6 #[rv a2, iv 1] [(.ref a2)])) (fun _ hr => XS.aloadN X207.here hx rfl (hb hby d16_5) rfl rfl hr) ?_
  refine Goes.step (T2 := T207) (g2 := (mkF m 7 #[rv a2, iv 1] [(.int (1 : Int32)), (.ref a2)])) (fun _ hr => XS.iloadN X207.here hx rfl (hb hby d16_6) rfl  hr) ?_
  have Zs208 : n0 ≤ h0.size := Nat.le_trans Z0 K0.1
  obtain ⟨_, _, ⟨T209, L209, k209, n209⟩, -, X209, ⟨Lc209, hQ209, l209, y209, z209⟩, st209⟩ := Jvm.LawKit.callS X207 hx (y := Y5) hown (mvT hZ (tw hw 56 rfl)) (mvT hZ (tw hw 57 rfl)) (mvT hZ (tw hw 19 rfl)) (mvT hZ (tw hw 58 rfl)) (by decide) (backOf (W := 0) (rm_get1 l Z a0 hw [] a2 k2 c0 c1 c2 c3 h0 n0 Zs208 (Old.keep O0 K0 hws) V_a2 S_StringUTF16__assertionsDisabled_old S_StringUTF16_HI_BYTE_SHIFT_old S_StringUTF16_LO_BYTE_SHIFT_old hb1) hZ (tw hw 58 rfl) (tw hw 19 rfl) (by decide) (by decide)) (g := (mkF m 7 #[rv a2, iv 1] [(.int (1 : Int32)), (.ref a2)])) rfl (by rw [hml]; rfl) (argsL := [(.ref a2), (.int (1 : Int32))]) (rest := []) (lenOf pd_5 rfl) rfl (by show 2 * 0 + _ ≤ _; exact Nat.le_of_eq rfl) (hb hby d16_7) (fun _ _ => ⟨rfl, e207, (by decide : 0 + 0 ≤ _), (by decide : 0 + 0 ≤ _)⟩)
  dsimp only [Pt.U, Pt.locs, Pt.cells, Pt.slots] at X209 l209 y209 z209 st209 hQ209
  subst l209 y209 z209
  obtain ⟨rfl, N209q, e209⟩ := hQ209
  have N209 := Fr.app N207 N209q
  refine Goes.step (T2 := T209) (g2 := (mkF m 10 #[rv a2, iv 1] [(.int c1)])) st209 ?_
  exact Goes.ret (v := some (.int c1)) X209 (by decide) (by decide) (fun h => by rw [Bd.returns] at h; cases h) ⟨rfl, N209, e209⟩ (fun fs hr => retOut X209 hx Bd.returns (own_nw hb1) (Or.inl ⟨rfl, Or.inr (Or.inr (Or.inr (Or.inl rfl))), _, rfl⟩) (hb hby d16_10) hr)
def Q_rm_l1_2 (Z : State) (a2 : Addr) (k2 : ClassId) (c0 : Int32) (c1 : Int32) (c2 : Int32) (c3 : Int32) (vf : Value) (h0 : Heap) (n0 : Nat) (v : Option Value) (h : Heap) (L : List Loc) : Prop := v = some (.int c2) ∧ Fr n0 L ∧ h = h0
set_option maxRecDepth 65536 in
set_option maxHeartbeats 40000000 in
theorem rm_l1_2 (l : Launch) (Z : State) (a0 : Array Value) (hw : ∀ d ∈ tables_1, d.before a0 Z = true) (ws : List Jvm.Cond) (a2 : Addr) (k2 : ClassId) (c0 : Int32) (c1 : Int32) (c2 : Int32) (c3 : Int32) (vf : Value) (h0 : Heap) (n0 : Nat) (Z0 : n0 ≤ h0.size) (O0 : Old Z n0 h0) (V_a2 : Arv Z h0 a2 k2 .byte (4 : Int32) [(.int (bL1 c0)), (.int (bL1 c1)), (.int (bL1 c2)), (.int (bL1 c3))] (.int (0 : Int32))) (S_Preconditions_SIOOBE_FORMATTER_old : Sta Z Z.heap "jdk/internal/util/Preconditions" "SIOOBE_FORMATTER" "Ljava/util/function/BiFunction;" vf) (hvf : vf.isRef = true) (hb2 : B16 c2) (hlow2 : ¬ ((255 : Int32) < c2)) :
    MetFree l Y14 (head1 (Jvm.Cond.code Y14 jdk_43_method_2_code 2 (some .char) :: ws) ({ frames := 2, cells := 0, slots := 0, locals := 27 } : Room)) (fun a U => a = #[(.ref a2), (.int (2 : Int32))] ∧ Z.Warmed39 U.vm ∧ U.heap = h0) (fun _ _ _ _ _ => True) (fun _ U o U' => ∃ v L, o = .returned v ∧ Q_rm_l1_2 Z a2 k2 c0 c1 c2 c3 vf h0 n0 v U'.heap L ∧ FrameEnd U o U' L ({ frames := 2, cells := 0, slots := 0, locals := 27 } : Room).cells ({ frames := 2, cells := 0, slots := 0, locals := 27 } : Room).slots) := by
  refine MetFree.of_bodySF (plainFor_of_name pn_java_lang_StringLatin1) hisR ?_
  intro p e s m args below meth c s₁ Bd hml0 hP hK
  obtain ⟨rfl, hZ, hh⟩ := hP
  have hx := Bd.exec
  have hby := Bd.bytes
  have hml : c.maxLocals = 2 := hml0
  have hown : s.vm.findClass "java/lang/StringLatin1" = some m.cls := findClass_of_methodNamed Bd.named
  have hnm := (name_of_methodNamed Bd.named Bd.method).1
  have X0 : Stand p l e ({ frames := 2, cells := 0, slots := 0, locals := 27 } : Room) s m #[(.ref a2), (.int (2 : Int32))] below meth c s₁ [] 0 0 := Stand.of_body Bd
  have e0 : s₁.heap = h0 := by rw [← hh, Bd.state]; rfl
  have N0 := Fr.nil n0
  refine Goes.out (l := l) (c := c) (R := ({ frames := 2, cells := 0, slots := 0, locals := 27 } : Room)) (Q := Q_rm_l1_2 Z a2 k2 c0 c1 c2 c3 vf h0 n0) Bd.notSynchronized ?_
  refine Goes.cast (g2 := mkF m 0 #[rv a2, iv 2] []) (by first | (simp [entryFrame, mkF, argsToLocals, Value.category]; done) | rfl) ?_
  have K0 : Keep h0 h0 [] := Keep.refl h0 _
  have hws : ∀ x ∈ ([] : List Addr), n0 ≤ x := all0
  refine Goes.step (T2 := s₁) (g2 := (mkF m 1 #[rv a2, iv 2] [(.int (2 : Int32))])) (fun _ hr => XS.iloadN X0.here hx rfl (hb hby d14_0) rfl  hr) ?_
  refine Goes.step (T2 := s₁) (g2 := (mkF m 2 #[rv a2, iv 2] [(.ref a2), (.int (2 : Int32))])) (fun _ hr => XS.aloadN X0.here hx rfl (hb hby d14_1) rfl rfl hr) ?_
  obtain ⟨cl210, Ar210, -, S210, Nn210, -, -⟩ := id V_a2
  refine Goes.step (T2 := s₁) (g2 := (mkF m 3 #[rv a2, iv 2] [(.int (4 : Int32)), (.int (2 : Int32))])) (fun t hr => X0.arraylength hx (own_at e0 Ar210.1) (State.isArrayOf_alike hZ.alike Ar210.2.1) (g := (mkF m 2 #[rv a2, iv 2] [(.ref a2), (.int (2 : Int32))])) rfl rfl (hb hby d14_2) t (by rw [len_of S210 Nn210]; exact hr)) ?_
  have Zs211 : n0 ≤ h0.size := Nat.le_trans Z0 K0.1
  obtain ⟨_, _, ⟨T212, L212, k212, n212⟩, -, X212, ⟨Lc212, hQ212, l212, y212, z212⟩, st212⟩ := Jvm.LawKit.callS X0 hx (y := Y12) hown (mvT hZ (tw hw 73 rfl)) (mvT hZ (tw hw 74 rfl)) (mvT hZ (tw hw 5 rfl)) (mvT hZ (tw hw 75 rfl)) (by decide) (backOf (W := 0) (rm_ci2 l Z a0 hw [] vf h0 n0 Zs211 (Old.keep O0 K0 hws) S_Preconditions_SIOOBE_FORMATTER_old hvf) hZ (tw hw 75 rfl) (tw hw 5 rfl) (by decide) (by decide)) (g := (mkF m 3 #[rv a2, iv 2] [(.int (4 : Int32)), (.int (2 : Int32))])) rfl (by rw [hml]; rfl) (argsL := [(.int (2 : Int32)), (.int (4 : Int32))]) (rest := []) (lenOf pd_9 rfl) rfl (by show 2 * 0 + _ ≤ _; exact Nat.le_of_eq rfl) (hb hby d14_3) (fun _ _ => ⟨rfl, e0, (by decide : 0 + 0 ≤ _), (by decide : 0 + 0 ≤ _)⟩)
  dsimp only [Pt.U, Pt.locs, Pt.cells, Pt.slots] at X212 l212 y212 z212 st212 hQ212
  subst l212 y212 z212
  obtain ⟨rfl, N212q, e212⟩ := hQ212
  have N212 := Fr.app N0 N212q
  refine Goes.step (T2 := T212) (g2 := (mkF m 6 #[rv a2, iv 2] [])) st212 ?_
  refine Goes.step (T2 := T212) (g2 := (mkF m 7 #[rv a2, iv 2] [(.ref a2)])) (fun _ hr => XS.aloadN X212.here hx rfl (hb hby d14_6) rfl rfl hr) ?_
  refine Goes.step (T2 := T212) (g2 := (mkF m 8 #[rv a2, iv 2] [(.int (2 : Int32)), (.ref a2)])) (fun _ hr => XS.iloadN X212.here hx rfl (hb hby d14_7) rfl  hr) ?_
  obtain ⟨cl213, Ar213, q213, S213, Nn213, H213, G213⟩ := id V_a2
  have hin213 : ¬ ((2 : Int32) < 0 ∨ cl213.slots.size ≤ ((2 : Int32)).toNatClampNeg) := inb_of S213 ⟨by decide, by decide⟩
  refine Goes.step (T2 := T212) (g2 := (mkF m 9 #[rv a2, iv 2] [(.int (bL1 c2))])) (X212.baloadBytes hx (j := (2 : Int32)) (v := (.int (bL1 c2))) (own_at e212 Ar213.1) (State.isArrayOf_alike hZ.alike Ar213.2.1) Ar213.2.2 hin213 (H213.at hin213 rfl) (g := (mkF m 8 #[rv a2, iv 2] [(.int (2 : Int32)), (.ref a2)])) rfl rfl (hb hby d14_8)) ?_
  refine Goes.step (T2 := T212) (g2 := (mkF m 12 #[rv a2, iv 2] [(.int (255 : Int32)), (.int (bL1 c2))])) (fun _ hr => XS.sipush X212.here hx rfl (hb hby d14_9) hr) ?_
  refine Goes.step (T2 := T212) (g2 := (mkF m 13 #[rv a2, iv 2] [(.int ((bL1 c2) &&& (255 : Int32)))])) (fun _ hr => XS.iand X212.here hx rfl (hb hby d14_12) rfl hr) ?_
  refine Goes.step (T2 := T212) (g2 := (mkF m 14 #[rv a2, iv 2] [(.int (((bL1 c2) &&& (255 : Int32)).toUInt32.toUInt16.toUInt32.toInt32))])) (fun _ hr => Jvm.Free.XT.i2c X212.here hx rfl (hb hby d14_13) rfl hr) ?_
  rw [own_gl hb2 hlow2]
  exact Goes.ret (v := some (.int c2)) X212 (by decide) (by decide) (fun h => by rw [Bd.returns] at h; cases h) ⟨rfl, N212, e212⟩ (fun fs hr => retOut X212 hx Bd.returns (own_nw hb2) (Or.inl ⟨rfl, Or.inr (Or.inr (Or.inr (Or.inl rfl))), _, rfl⟩) (hb hby d14_14) hr)
def Q_rm_uci2 (Z : State) (a2 : Addr) (k2 : ClassId) (c0 : Int32) (c1 : Int32) (c2 : Int32) (c3 : Int32) (vf : Value) (h0 : Heap) (n0 : Nat) (v : Option Value) (h : Heap) (L : List Loc) : Prop := v = none ∧ Fr n0 L ∧ h = h0
set_option maxRecDepth 65536 in
set_option maxHeartbeats 40000000 in
theorem rm_uci2 (l : Launch) (Z : State) (a0 : Array Value) (hw : ∀ d ∈ tables_1, d.before a0 Z = true) (ws : List Jvm.Cond) (a2 : Addr) (k2 : ClassId) (c0 : Int32) (c1 : Int32) (c2 : Int32) (c3 : Int32) (vf : Value) (h0 : Heap) (n0 : Nat) (Z0 : n0 ≤ h0.size) (O0 : Old Z n0 h0) (V_a2 : Arv Z h0 a2 k2 .byte (8 : Int32) [(.int (bLo c0)), (.int (bHi c0)), (.int (bLo c1)), (.int (bHi c1)), (.int (bLo c2)), (.int (bHi c2)), (.int (bLo c3)), (.int (bHi c3))] (.int (0 : Int32))) (S_Preconditions_SIOOBE_FORMATTER_old : Sta Z Z.heap "jdk/internal/util/Preconditions" "SIOOBE_FORMATTER" "Ljava/util/function/BiFunction;" vf) (hvf : vf.isRef = true) :
    MetFree l Y15 (head1 (Jvm.Cond.code Y15 jdk_52_method_91_code 2 none :: ws) ({ frames := 2, cells := 0, slots := 0, locals := 27 } : Room)) (fun a U => a = #[(.int (2 : Int32)), (.ref a2)] ∧ Z.Warmed39 U.vm ∧ U.heap = h0) (fun _ _ _ _ _ => True) (fun _ U o U' => ∃ v L, o = .returned v ∧ Q_rm_uci2 Z a2 k2 c0 c1 c2 c3 vf h0 n0 v U'.heap L ∧ FrameEnd U o U' L ({ frames := 2, cells := 0, slots := 0, locals := 27 } : Room).cells ({ frames := 2, cells := 0, slots := 0, locals := 27 } : Room).slots) := by
  refine MetFree.of_bodySF (plainFor_of_name pn_java_lang_StringUTF16) hisR ?_
  intro p e s m args below meth c s₁ Bd hml0 hP hK
  obtain ⟨rfl, hZ, hh⟩ := hP
  have hx := Bd.exec
  have hby := Bd.bytes
  have hml : c.maxLocals = 2 := hml0
  have hown : s.vm.findClass "java/lang/StringUTF16" = some m.cls := findClass_of_methodNamed Bd.named
  have hnm := (name_of_methodNamed Bd.named Bd.method).1
  have X0 : Stand p l e ({ frames := 2, cells := 0, slots := 0, locals := 27 } : Room) s m #[(.int (2 : Int32)), (.ref a2)] below meth c s₁ [] 0 0 := Stand.of_body Bd
  have e0 : s₁.heap = h0 := by rw [← hh, Bd.state]; rfl
  have N0 := Fr.nil n0
  refine Goes.out (l := l) (c := c) (R := ({ frames := 2, cells := 0, slots := 0, locals := 27 } : Room)) (Q := Q_rm_uci2 Z a2 k2 c0 c1 c2 c3 vf h0 n0) Bd.notSynchronized ?_
  refine Goes.cast (g2 := mkF m 0 #[iv 2, rv a2] []) (by first | (simp [entryFrame, mkF, argsToLocals, Value.category]; done) | rfl) ?_
  have K0 : Keep h0 h0 [] := Keep.refl h0 _
  have hws : ∀ x ∈ ([] : List Addr), n0 ≤ x := all0
  refine Goes.step (T2 := s₁) (g2 := (mkF m 1 #[iv 2, rv a2] [(.int (2 : Int32))])) (fun _ hr => XS.iloadN X0.here hx rfl (hb hby d15_0) rfl  hr) ?_
  refine Goes.step (T2 := s₁) (g2 := (mkF m 2 #[iv 2, rv a2] [(.ref a2), (.int (2 : Int32))])) (fun _ hr => XS.aloadN X0.here hx rfl (hb hby d15_1) rfl rfl hr) ?_
  have Zs214 : n0 ≤ h0.size := Nat.le_trans Z0 K0.1
  obtain ⟨_, _, ⟨T215, L215, k215, n215⟩, -, X215, ⟨Lc215, hQ215, l215, y215, z215⟩, st215⟩ := Jvm.LawKit.callS X0 hx (y := Y13) hown (mvT hZ (tw hw 87 rfl)) (mvT hZ (tw hw 88 rfl)) (mvT hZ (tw hw 19 rfl)) (mvT hZ (tw hw 89 rfl)) (by decide) (backOf (W := 1) (rm_len16 l Z a0 hw [] a2 k2 c0 c1 c2 c3 h0 n0 Zs214 (Old.keep O0 K0 hws) V_a2) hZ (tw hw 89 rfl) (tw hw 19 rfl) (by decide) (by decide)) (g := (mkF m 2 #[iv 2, rv a2] [(.ref a2), (.int (2 : Int32))])) rfl (by rw [hml]; rfl) (argsL := [(.ref a2)]) (rest := [(.int (2 : Int32))]) (lenOf pd_10 rfl) rfl (by show 2 * 0 + _ ≤ _; exact Nat.le_of_eq rfl) (hb hby d15_2) (fun _ _ => ⟨rfl, e0, (by decide : 0 + 0 ≤ _), (by decide : 0 + 0 ≤ _)⟩)
  dsimp only [Pt.U, Pt.locs, Pt.cells, Pt.slots] at X215 l215 y215 z215 st215 hQ215
  subst l215 y215 z215
  obtain ⟨rfl, N215q, e215⟩ := hQ215
  have N215 := Fr.app N0 N215q
  refine Goes.step (T2 := T215) (g2 := (mkF m 5 #[iv 2, rv a2] [(.int (4 : Int32)), (.int (2 : Int32))])) st215 ?_
  have Zs216 : n0 ≤ h0.size := Nat.le_trans Z0 K0.1
  obtain ⟨_, _, ⟨T217, L217, k217, n217⟩, -, X217, ⟨Lc217, hQ217, l217, y217, z217⟩, st217⟩ := Jvm.LawKit.callS X215 hx (y := Y12) hown (mvT hZ (tw hw 90 rfl)) (mvT hZ (tw hw 74 rfl)) (mvT hZ (tw hw 5 rfl)) (mvT hZ (tw hw 75 rfl)) (by decide) (backOf (W := 0) (rm_ci2 l Z a0 hw [] vf h0 n0 Zs216 (Old.keep O0 K0 hws) S_Preconditions_SIOOBE_FORMATTER_old hvf) hZ (tw hw 75 rfl) (tw hw 5 rfl) (by decide) (by decide)) (g := (mkF m 5 #[iv 2, rv a2] [(.int (4 : Int32)), (.int (2 : Int32))])) rfl (by rw [hml]; rfl) (argsL := [(.int (2 : Int32)), (.int (4 : Int32))]) (rest := []) (lenOf pd_9 rfl) rfl (by show 2 * 0 + _ ≤ _; exact Nat.le_of_eq rfl) (hb hby d15_5) (fun _ _ => ⟨rfl, e215, (by decide : 0 + 0 ≤ _), (by decide : 0 + 0 ≤ _)⟩)
  dsimp only [Pt.U, Pt.locs, Pt.cells, Pt.slots] at X217 l217 y217 z217 st217 hQ217
  subst l217 y217 z217
  obtain ⟨rfl, N217q, e217⟩ := hQ217
  have N217 := Fr.app N215 N217q
  refine Goes.step (T2 := T217) (g2 := (mkF m 8 #[iv 2, rv a2] [])) st217 ?_
  exact Goes.ret (v := none) X217 (by decide) (by decide) (fun _ => rfl) ⟨rfl, N217, e217⟩ (fun fs hr => X217.returnOut hx Bd.returns (hb hby d15_8) hr)
def Q_rm_u16_2 (Z : State) (a2 : Addr) (k2 : ClassId) (c0 : Int32) (c1 : Int32) (c2 : Int32) (c3 : Int32) (vf : Value) (h0 : Heap) (n0 : Nat) (v : Option Value) (h : Heap) (L : List Loc) : Prop := v = some (.int c2) ∧ Fr n0 L ∧ h = h0
set_option maxRecDepth 65536 in
set_option maxHeartbeats 40000000 in
theorem rm_u16_2 (l : Launch) (Z : State) (a0 : Array Value) (hw : ∀ d ∈ tables_1, d.before a0 Z = true) (ws : List Jvm.Cond) (a2 : Addr) (k2 : ClassId) (c0 : Int32) (c1 : Int32) (c2 : Int32) (c3 : Int32) (vf : Value) (h0 : Heap) (n0 : Nat) (Z0 : n0 ≤ h0.size) (O0 : Old Z n0 h0) (V_a2 : Arv Z h0 a2 k2 .byte (8 : Int32) [(.int (bLo c0)), (.int (bHi c0)), (.int (bLo c1)), (.int (bHi c1)), (.int (bLo c2)), (.int (bHi c2)), (.int (bLo c3)), (.int (bHi c3))] (.int (0 : Int32))) (S_Preconditions_SIOOBE_FORMATTER_old : Sta Z Z.heap "jdk/internal/util/Preconditions" "SIOOBE_FORMATTER" "Ljava/util/function/BiFunction;" vf) (S_StringUTF16__assertionsDisabled_old : Sta Z Z.heap "java/lang/StringUTF16" "$assertionsDisabled" "Z" (.int (1 : Int32))) (S_StringUTF16_HI_BYTE_SHIFT_old : Sta Z Z.heap "java/lang/StringUTF16" "HI_BYTE_SHIFT" "I" (.int (0 : Int32))) (S_StringUTF16_LO_BYTE_SHIFT_old : Sta Z Z.heap "java/lang/StringUTF16" "LO_BYTE_SHIFT" "I" (.int (8 : Int32))) (hvf : vf.isRef = true) (hb2 : B16 c2) :
    MetFree l Y16 (head1 (Jvm.Cond.code Y16 jdk_52_method_83_code 2 (some .char) :: ws) ({ frames := 3, cells := 0, slots := 0, locals := 40 } : Room)) (fun a U => a = #[(.ref a2), (.int (2 : Int32))] ∧ Z.Warmed39 U.vm ∧ U.heap = h0) (fun _ _ _ _ _ => True) (fun _ U o U' => ∃ v L, o = .returned v ∧ Q_rm_u16_2 Z a2 k2 c0 c1 c2 c3 vf h0 n0 v U'.heap L ∧ FrameEnd U o U' L ({ frames := 3, cells := 0, slots := 0, locals := 40 } : Room).cells ({ frames := 3, cells := 0, slots := 0, locals := 40 } : Room).slots) := by
  refine MetFree.of_bodySF (plainFor_of_name pn_java_lang_StringUTF16) hisR ?_
  intro p e s m args below meth c s₁ Bd hml0 hP hK
  obtain ⟨rfl, hZ, hh⟩ := hP
  have hx := Bd.exec
  have hby := Bd.bytes
  have hml : c.maxLocals = 2 := hml0
  have hown : s.vm.findClass "java/lang/StringUTF16" = some m.cls := findClass_of_methodNamed Bd.named
  have hnm := (name_of_methodNamed Bd.named Bd.method).1
  have X0 : Stand p l e ({ frames := 3, cells := 0, slots := 0, locals := 40 } : Room) s m #[(.ref a2), (.int (2 : Int32))] below meth c s₁ [] 0 0 := Stand.of_body Bd
  have e0 : s₁.heap = h0 := by rw [← hh, Bd.state]; rfl
  have N0 := Fr.nil n0
  refine Goes.out (l := l) (c := c) (R := ({ frames := 3, cells := 0, slots := 0, locals := 40 } : Room)) (Q := Q_rm_u16_2 Z a2 k2 c0 c1 c2 c3 vf h0 n0) Bd.notSynchronized ?_
  refine Goes.cast (g2 := mkF m 0 #[rv a2, iv 2] []) (by first | (simp [entryFrame, mkF, argsToLocals, Value.category]; done) | rfl) ?_
  have K0 : Keep h0 h0 [] := Keep.refl h0 _
  have hws : ∀ x ∈ ([] : List Addr), n0 ≤ x := all0
  refine Goes.step (T2 := s₁) (g2 := (mkF m 1 #[rv a2, iv 2] [(.int (2 : Int32))])) (fun _ hr => XS.iloadN X0.here hx rfl (hb hby d16_0) rfl  hr) ?_
  refine Goes.step (T2 := s₁) (g2 := (mkF m 2 #[rv a2, iv 2] [(.ref a2), (.int (2 : Int32))])) (fun _ hr => XS.aloadN X0.here hx rfl (hb hby d16_1) rfl rfl hr) ?_
  have Zs218 : n0 ≤ h0.size := Nat.le_trans Z0 K0.1
  obtain ⟨_, _, ⟨T219, L219, k219, n219⟩, -, X219, ⟨Lc219, hQ219, l219, y219, z219⟩, st219⟩ := Jvm.LawKit.callS X0 hx (y := Y15) hown (mvT hZ (tw hw 84 rfl)) (mvT hZ (tw hw 85 rfl)) (mvT hZ (tw hw 19 rfl)) (mvT hZ (tw hw 86 rfl)) (by decide) (backOf (W := 0) (rm_uci2 l Z a0 hw [] a2 k2 c0 c1 c2 c3 vf h0 n0 Zs218 (Old.keep O0 K0 hws) V_a2 S_Preconditions_SIOOBE_FORMATTER_old hvf) hZ (tw hw 86 rfl) (tw hw 19 rfl) (by decide) (by decide)) (g := (mkF m 2 #[rv a2, iv 2] [(.ref a2), (.int (2 : Int32))])) rfl (by rw [hml]; rfl) (argsL := [(.int (2 : Int32)), (.ref a2)]) (rest := []) (lenOf pd_11 rfl) rfl (by show 2 * 0 + _ ≤ _; exact Nat.le_of_eq rfl) (hb hby d16_2) (fun _ _ => ⟨rfl, e0, (by decide : 0 + 0 ≤ _), (by decide : 0 + 0 ≤ _)⟩)
  dsimp only [Pt.U, Pt.locs, Pt.cells, Pt.slots] at X219 l219 y219 z219 st219 hQ219
  subst l219 y219 z219
  obtain ⟨rfl, N219q, e219⟩ := hQ219
  have N219 := Fr.app N0 N219q
  refine Goes.step (T2 := T219) (g2 := (mkF m 5 #[rv a2, iv 2] [])) st219 ?_
  refine Goes.step (T2 := T219) (g2 := (mkF m 6 #[rv a2, iv 2] [(.ref a2)])) (fun _ hr => XS.aloadN X219.here hx rfl (hb hby d16_5) rfl rfl hr) ?_
  refine Goes.step (T2 := T219) (g2 := (mkF m 7 #[rv a2, iv 2] [(.int (2 : Int32)), (.ref a2)])) (fun _ hr => XS.iloadN X219.here hx rfl (hb hby d16_6) rfl  hr) ?_
  have Zs220 : n0 ≤ h0.size := Nat.le_trans Z0 K0.1
  obtain ⟨_, _, ⟨T221, L221, k221, n221⟩, -, X221, ⟨Lc221, hQ221, l221, y221, z221⟩, st221⟩ := Jvm.LawKit.callS X219 hx (y := Y5) hown (mvT hZ (tw hw 56 rfl)) (mvT hZ (tw hw 57 rfl)) (mvT hZ (tw hw 19 rfl)) (mvT hZ (tw hw 58 rfl)) (by decide) (backOf (W := 0) (rm_get2 l Z a0 hw [] a2 k2 c0 c1 c2 c3 h0 n0 Zs220 (Old.keep O0 K0 hws) V_a2 S_StringUTF16__assertionsDisabled_old S_StringUTF16_HI_BYTE_SHIFT_old S_StringUTF16_LO_BYTE_SHIFT_old hb2) hZ (tw hw 58 rfl) (tw hw 19 rfl) (by decide) (by decide)) (g := (mkF m 7 #[rv a2, iv 2] [(.int (2 : Int32)), (.ref a2)])) rfl (by rw [hml]; rfl) (argsL := [(.ref a2), (.int (2 : Int32))]) (rest := []) (lenOf pd_5 rfl) rfl (by show 2 * 0 + _ ≤ _; exact Nat.le_of_eq rfl) (hb hby d16_7) (fun _ _ => ⟨rfl, e219, (by decide : 0 + 0 ≤ _), (by decide : 0 + 0 ≤ _)⟩)
  dsimp only [Pt.U, Pt.locs, Pt.cells, Pt.slots] at X221 l221 y221 z221 st221 hQ221
  subst l221 y221 z221
  obtain ⟨rfl, N221q, e221⟩ := hQ221
  have N221 := Fr.app N219 N221q
  refine Goes.step (T2 := T221) (g2 := (mkF m 10 #[rv a2, iv 2] [(.int c2)])) st221 ?_
  exact Goes.ret (v := some (.int c2)) X221 (by decide) (by decide) (fun h => by rw [Bd.returns] at h; cases h) ⟨rfl, N221, e221⟩ (fun fs hr => retOut X221 hx Bd.returns (own_nw hb2) (Or.inl ⟨rfl, Or.inr (Or.inr (Or.inr (Or.inl rfl))), _, rfl⟩) (hb hby d16_10) hr)
def Q_rm_l1_3 (Z : State) (a2 : Addr) (k2 : ClassId) (c0 : Int32) (c1 : Int32) (c2 : Int32) (c3 : Int32) (vf : Value) (h0 : Heap) (n0 : Nat) (v : Option Value) (h : Heap) (L : List Loc) : Prop := v = some (.int c3) ∧ Fr n0 L ∧ h = h0
set_option maxRecDepth 65536 in
set_option maxHeartbeats 40000000 in
theorem rm_l1_3 (l : Launch) (Z : State) (a0 : Array Value) (hw : ∀ d ∈ tables_1, d.before a0 Z = true) (ws : List Jvm.Cond) (a2 : Addr) (k2 : ClassId) (c0 : Int32) (c1 : Int32) (c2 : Int32) (c3 : Int32) (vf : Value) (h0 : Heap) (n0 : Nat) (Z0 : n0 ≤ h0.size) (O0 : Old Z n0 h0) (V_a2 : Arv Z h0 a2 k2 .byte (4 : Int32) [(.int (bL1 c0)), (.int (bL1 c1)), (.int (bL1 c2)), (.int (bL1 c3))] (.int (0 : Int32))) (S_Preconditions_SIOOBE_FORMATTER_old : Sta Z Z.heap "jdk/internal/util/Preconditions" "SIOOBE_FORMATTER" "Ljava/util/function/BiFunction;" vf) (hvf : vf.isRef = true) (hb3 : B16 c3) (hlow3 : ¬ ((255 : Int32) < c3)) :
    MetFree l Y14 (head1 (Jvm.Cond.code Y14 jdk_43_method_2_code 2 (some .char) :: ws) ({ frames := 2, cells := 0, slots := 0, locals := 27 } : Room)) (fun a U => a = #[(.ref a2), (.int (3 : Int32))] ∧ Z.Warmed39 U.vm ∧ U.heap = h0) (fun _ _ _ _ _ => True) (fun _ U o U' => ∃ v L, o = .returned v ∧ Q_rm_l1_3 Z a2 k2 c0 c1 c2 c3 vf h0 n0 v U'.heap L ∧ FrameEnd U o U' L ({ frames := 2, cells := 0, slots := 0, locals := 27 } : Room).cells ({ frames := 2, cells := 0, slots := 0, locals := 27 } : Room).slots) := by
  refine MetFree.of_bodySF (plainFor_of_name pn_java_lang_StringLatin1) hisR ?_
  intro p e s m args below meth c s₁ Bd hml0 hP hK
  obtain ⟨rfl, hZ, hh⟩ := hP
  have hx := Bd.exec
  have hby := Bd.bytes
  have hml : c.maxLocals = 2 := hml0
  have hown : s.vm.findClass "java/lang/StringLatin1" = some m.cls := findClass_of_methodNamed Bd.named
  have hnm := (name_of_methodNamed Bd.named Bd.method).1
  have X0 : Stand p l e ({ frames := 2, cells := 0, slots := 0, locals := 27 } : Room) s m #[(.ref a2), (.int (3 : Int32))] below meth c s₁ [] 0 0 := Stand.of_body Bd
  have e0 : s₁.heap = h0 := by rw [← hh, Bd.state]; rfl
  have N0 := Fr.nil n0
  refine Goes.out (l := l) (c := c) (R := ({ frames := 2, cells := 0, slots := 0, locals := 27 } : Room)) (Q := Q_rm_l1_3 Z a2 k2 c0 c1 c2 c3 vf h0 n0) Bd.notSynchronized ?_
  refine Goes.cast (g2 := mkF m 0 #[rv a2, iv 3] []) (by first | (simp [entryFrame, mkF, argsToLocals, Value.category]; done) | rfl) ?_
  have K0 : Keep h0 h0 [] := Keep.refl h0 _
  have hws : ∀ x ∈ ([] : List Addr), n0 ≤ x := all0
  refine Goes.step (T2 := s₁) (g2 := (mkF m 1 #[rv a2, iv 3] [(.int (3 : Int32))])) (fun _ hr => XS.iloadN X0.here hx rfl (hb hby d14_0) rfl  hr) ?_
  refine Goes.step (T2 := s₁) (g2 := (mkF m 2 #[rv a2, iv 3] [(.ref a2), (.int (3 : Int32))])) (fun _ hr => XS.aloadN X0.here hx rfl (hb hby d14_1) rfl rfl hr) ?_
  obtain ⟨cl222, Ar222, -, S222, Nn222, -, -⟩ := id V_a2
  refine Goes.step (T2 := s₁) (g2 := (mkF m 3 #[rv a2, iv 3] [(.int (4 : Int32)), (.int (3 : Int32))])) (fun t hr => X0.arraylength hx (own_at e0 Ar222.1) (State.isArrayOf_alike hZ.alike Ar222.2.1) (g := (mkF m 2 #[rv a2, iv 3] [(.ref a2), (.int (3 : Int32))])) rfl rfl (hb hby d14_2) t (by rw [len_of S222 Nn222]; exact hr)) ?_
  have Zs223 : n0 ≤ h0.size := Nat.le_trans Z0 K0.1
  obtain ⟨_, _, ⟨T224, L224, k224, n224⟩, -, X224, ⟨Lc224, hQ224, l224, y224, z224⟩, st224⟩ := Jvm.LawKit.callS X0 hx (y := Y12) hown (mvT hZ (tw hw 73 rfl)) (mvT hZ (tw hw 74 rfl)) (mvT hZ (tw hw 5 rfl)) (mvT hZ (tw hw 75 rfl)) (by decide) (backOf (W := 0) (rm_ci3 l Z a0 hw [] vf h0 n0 Zs223 (Old.keep O0 K0 hws) S_Preconditions_SIOOBE_FORMATTER_old hvf) hZ (tw hw 75 rfl) (tw hw 5 rfl) (by decide) (by decide)) (g := (mkF m 3 #[rv a2, iv 3] [(.int (4 : Int32)), (.int (3 : Int32))])) rfl (by rw [hml]; rfl) (argsL := [(.int (3 : Int32)), (.int (4 : Int32))]) (rest := []) (lenOf pd_9 rfl) rfl (by show 2 * 0 + _ ≤ _; exact Nat.le_of_eq rfl) (hb hby d14_3) (fun _ _ => ⟨rfl, e0, (by decide : 0 + 0 ≤ _), (by decide : 0 + 0 ≤ _)⟩)
  dsimp only [Pt.U, Pt.locs, Pt.cells, Pt.slots] at X224 l224 y224 z224 st224 hQ224
  subst l224 y224 z224
  obtain ⟨rfl, N224q, e224⟩ := hQ224
  have N224 := Fr.app N0 N224q
  refine Goes.step (T2 := T224) (g2 := (mkF m 6 #[rv a2, iv 3] [])) st224 ?_
  refine Goes.step (T2 := T224) (g2 := (mkF m 7 #[rv a2, iv 3] [(.ref a2)])) (fun _ hr => XS.aloadN X224.here hx rfl (hb hby d14_6) rfl rfl hr) ?_
  refine Goes.step (T2 := T224) (g2 := (mkF m 8 #[rv a2, iv 3] [(.int (3 : Int32)), (.ref a2)])) (fun _ hr => XS.iloadN X224.here hx rfl (hb hby d14_7) rfl  hr) ?_
  obtain ⟨cl225, Ar225, q225, S225, Nn225, H225, G225⟩ := id V_a2
  have hin225 : ¬ ((3 : Int32) < 0 ∨ cl225.slots.size ≤ ((3 : Int32)).toNatClampNeg) := inb_of S225 ⟨by decide, by decide⟩
  refine Goes.step (T2 := T224) (g2 := (mkF m 9 #[rv a2, iv 3] [(.int (bL1 c3))])) (X224.baloadBytes hx (j := (3 : Int32)) (v := (.int (bL1 c3))) (own_at e224 Ar225.1) (State.isArrayOf_alike hZ.alike Ar225.2.1) Ar225.2.2 hin225 (H225.at hin225 rfl) (g := (mkF m 8 #[rv a2, iv 3] [(.int (3 : Int32)), (.ref a2)])) rfl rfl (hb hby d14_8)) ?_
  refine Goes.step (T2 := T224) (g2 := (mkF m 12 #[rv a2, iv 3] [(.int (255 : Int32)), (.int (bL1 c3))])) (fun _ hr => XS.sipush X224.here hx rfl (hb hby d14_9) hr) ?_
  refine Goes.step (T2 := T224) (g2 := (mkF m 13 #[rv a2, iv 3] [(.int ((bL1 c3) &&& (255 : Int32)))])) (fun _ hr => XS.iand X224.here hx rfl (hb hby d14_12) rfl hr) ?_
  refine Goes.step (T2 := T224) (g2 := (mkF m 14 #[rv a2, iv 3] [(.int (((bL1 c3) &&& (255 : Int32)).toUInt32.toUInt16.toUInt32.toInt32))])) (fun _ hr => Jvm.Free.XT.i2c X224.here hx rfl (hb hby d14_13) rfl hr) ?_
  rw [own_gl hb3 hlow3]
  exact Goes.ret (v := some (.int c3)) X224 (by decide) (by decide) (fun h => by rw [Bd.returns] at h; cases h) ⟨rfl, N224, e224⟩ (fun fs hr => retOut X224 hx Bd.returns (own_nw hb3) (Or.inl ⟨rfl, Or.inr (Or.inr (Or.inr (Or.inl rfl))), _, rfl⟩) (hb hby d14_14) hr)
def Q_rm_uci3 (Z : State) (a2 : Addr) (k2 : ClassId) (c0 : Int32) (c1 : Int32) (c2 : Int32) (c3 : Int32) (vf : Value) (h0 : Heap) (n0 : Nat) (v : Option Value) (h : Heap) (L : List Loc) : Prop := v = none ∧ Fr n0 L ∧ h = h0
set_option maxRecDepth 65536 in
set_option maxHeartbeats 40000000 in
theorem rm_uci3 (l : Launch) (Z : State) (a0 : Array Value) (hw : ∀ d ∈ tables_1, d.before a0 Z = true) (ws : List Jvm.Cond) (a2 : Addr) (k2 : ClassId) (c0 : Int32) (c1 : Int32) (c2 : Int32) (c3 : Int32) (vf : Value) (h0 : Heap) (n0 : Nat) (Z0 : n0 ≤ h0.size) (O0 : Old Z n0 h0) (V_a2 : Arv Z h0 a2 k2 .byte (8 : Int32) [(.int (bLo c0)), (.int (bHi c0)), (.int (bLo c1)), (.int (bHi c1)), (.int (bLo c2)), (.int (bHi c2)), (.int (bLo c3)), (.int (bHi c3))] (.int (0 : Int32))) (S_Preconditions_SIOOBE_FORMATTER_old : Sta Z Z.heap "jdk/internal/util/Preconditions" "SIOOBE_FORMATTER" "Ljava/util/function/BiFunction;" vf) (hvf : vf.isRef = true) :
    MetFree l Y15 (head1 (Jvm.Cond.code Y15 jdk_52_method_91_code 2 none :: ws) ({ frames := 2, cells := 0, slots := 0, locals := 27 } : Room)) (fun a U => a = #[(.int (3 : Int32)), (.ref a2)] ∧ Z.Warmed39 U.vm ∧ U.heap = h0) (fun _ _ _ _ _ => True) (fun _ U o U' => ∃ v L, o = .returned v ∧ Q_rm_uci3 Z a2 k2 c0 c1 c2 c3 vf h0 n0 v U'.heap L ∧ FrameEnd U o U' L ({ frames := 2, cells := 0, slots := 0, locals := 27 } : Room).cells ({ frames := 2, cells := 0, slots := 0, locals := 27 } : Room).slots) := by
  refine MetFree.of_bodySF (plainFor_of_name pn_java_lang_StringUTF16) hisR ?_
  intro p e s m args below meth c s₁ Bd hml0 hP hK
  obtain ⟨rfl, hZ, hh⟩ := hP
  have hx := Bd.exec
  have hby := Bd.bytes
  have hml : c.maxLocals = 2 := hml0
  have hown : s.vm.findClass "java/lang/StringUTF16" = some m.cls := findClass_of_methodNamed Bd.named
  have hnm := (name_of_methodNamed Bd.named Bd.method).1
  have X0 : Stand p l e ({ frames := 2, cells := 0, slots := 0, locals := 27 } : Room) s m #[(.int (3 : Int32)), (.ref a2)] below meth c s₁ [] 0 0 := Stand.of_body Bd
  have e0 : s₁.heap = h0 := by rw [← hh, Bd.state]; rfl
  have N0 := Fr.nil n0
  refine Goes.out (l := l) (c := c) (R := ({ frames := 2, cells := 0, slots := 0, locals := 27 } : Room)) (Q := Q_rm_uci3 Z a2 k2 c0 c1 c2 c3 vf h0 n0) Bd.notSynchronized ?_
  refine Goes.cast (g2 := mkF m 0 #[iv 3, rv a2] []) (by first | (simp [entryFrame, mkF, argsToLocals, Value.category]; done) | rfl) ?_
  have K0 : Keep h0 h0 [] := Keep.refl h0 _
  have hws : ∀ x ∈ ([] : List Addr), n0 ≤ x := all0
  refine Goes.step (T2 := s₁) (g2 := (mkF m 1 #[iv 3, rv a2] [(.int (3 : Int32))])) (fun _ hr => XS.iloadN X0.here hx rfl (hb hby d15_0) rfl  hr) ?_
  refine Goes.step (T2 := s₁) (g2 := (mkF m 2 #[iv 3, rv a2] [(.ref a2), (.int (3 : Int32))])) (fun _ hr => XS.aloadN X0.here hx rfl (hb hby d15_1) rfl rfl hr) ?_
  have Zs226 : n0 ≤ h0.size := Nat.le_trans Z0 K0.1
  obtain ⟨_, _, ⟨T227, L227, k227, n227⟩, -, X227, ⟨Lc227, hQ227, l227, y227, z227⟩, st227⟩ := Jvm.LawKit.callS X0 hx (y := Y13) hown (mvT hZ (tw hw 87 rfl)) (mvT hZ (tw hw 88 rfl)) (mvT hZ (tw hw 19 rfl)) (mvT hZ (tw hw 89 rfl)) (by decide) (backOf (W := 1) (rm_len16 l Z a0 hw [] a2 k2 c0 c1 c2 c3 h0 n0 Zs226 (Old.keep O0 K0 hws) V_a2) hZ (tw hw 89 rfl) (tw hw 19 rfl) (by decide) (by decide)) (g := (mkF m 2 #[iv 3, rv a2] [(.ref a2), (.int (3 : Int32))])) rfl (by rw [hml]; rfl) (argsL := [(.ref a2)]) (rest := [(.int (3 : Int32))]) (lenOf pd_10 rfl) rfl (by show 2 * 0 + _ ≤ _; exact Nat.le_of_eq rfl) (hb hby d15_2) (fun _ _ => ⟨rfl, e0, (by decide : 0 + 0 ≤ _), (by decide : 0 + 0 ≤ _)⟩)
  dsimp only [Pt.U, Pt.locs, Pt.cells, Pt.slots] at X227 l227 y227 z227 st227 hQ227
  subst l227 y227 z227
  obtain ⟨rfl, N227q, e227⟩ := hQ227
  have N227 := Fr.app N0 N227q
  refine Goes.step (T2 := T227) (g2 := (mkF m 5 #[iv 3, rv a2] [(.int (4 : Int32)), (.int (3 : Int32))])) st227 ?_
  have Zs228 : n0 ≤ h0.size := Nat.le_trans Z0 K0.1
  obtain ⟨_, _, ⟨T229, L229, k229, n229⟩, -, X229, ⟨Lc229, hQ229, l229, y229, z229⟩, st229⟩ := Jvm.LawKit.callS X227 hx (y := Y12) hown (mvT hZ (tw hw 90 rfl)) (mvT hZ (tw hw 74 rfl)) (mvT hZ (tw hw 5 rfl)) (mvT hZ (tw hw 75 rfl)) (by decide) (backOf (W := 0) (rm_ci3 l Z a0 hw [] vf h0 n0 Zs228 (Old.keep O0 K0 hws) S_Preconditions_SIOOBE_FORMATTER_old hvf) hZ (tw hw 75 rfl) (tw hw 5 rfl) (by decide) (by decide)) (g := (mkF m 5 #[iv 3, rv a2] [(.int (4 : Int32)), (.int (3 : Int32))])) rfl (by rw [hml]; rfl) (argsL := [(.int (3 : Int32)), (.int (4 : Int32))]) (rest := []) (lenOf pd_9 rfl) rfl (by show 2 * 0 + _ ≤ _; exact Nat.le_of_eq rfl) (hb hby d15_5) (fun _ _ => ⟨rfl, e227, (by decide : 0 + 0 ≤ _), (by decide : 0 + 0 ≤ _)⟩)
  dsimp only [Pt.U, Pt.locs, Pt.cells, Pt.slots] at X229 l229 y229 z229 st229 hQ229
  subst l229 y229 z229
  obtain ⟨rfl, N229q, e229⟩ := hQ229
  have N229 := Fr.app N227 N229q
  refine Goes.step (T2 := T229) (g2 := (mkF m 8 #[iv 3, rv a2] [])) st229 ?_
  exact Goes.ret (v := none) X229 (by decide) (by decide) (fun _ => rfl) ⟨rfl, N229, e229⟩ (fun fs hr => X229.returnOut hx Bd.returns (hb hby d15_8) hr)
def Q_rm_u16_3 (Z : State) (a2 : Addr) (k2 : ClassId) (c0 : Int32) (c1 : Int32) (c2 : Int32) (c3 : Int32) (vf : Value) (h0 : Heap) (n0 : Nat) (v : Option Value) (h : Heap) (L : List Loc) : Prop := v = some (.int c3) ∧ Fr n0 L ∧ h = h0
set_option maxRecDepth 65536 in
set_option maxHeartbeats 40000000 in
theorem rm_u16_3 (l : Launch) (Z : State) (a0 : Array Value) (hw : ∀ d ∈ tables_1, d.before a0 Z = true) (ws : List Jvm.Cond) (a2 : Addr) (k2 : ClassId) (c0 : Int32) (c1 : Int32) (c2 : Int32) (c3 : Int32) (vf : Value) (h0 : Heap) (n0 : Nat) (Z0 : n0 ≤ h0.size) (O0 : Old Z n0 h0) (V_a2 : Arv Z h0 a2 k2 .byte (8 : Int32) [(.int (bLo c0)), (.int (bHi c0)), (.int (bLo c1)), (.int (bHi c1)), (.int (bLo c2)), (.int (bHi c2)), (.int (bLo c3)), (.int (bHi c3))] (.int (0 : Int32))) (S_Preconditions_SIOOBE_FORMATTER_old : Sta Z Z.heap "jdk/internal/util/Preconditions" "SIOOBE_FORMATTER" "Ljava/util/function/BiFunction;" vf) (S_StringUTF16__assertionsDisabled_old : Sta Z Z.heap "java/lang/StringUTF16" "$assertionsDisabled" "Z" (.int (1 : Int32))) (S_StringUTF16_HI_BYTE_SHIFT_old : Sta Z Z.heap "java/lang/StringUTF16" "HI_BYTE_SHIFT" "I" (.int (0 : Int32))) (S_StringUTF16_LO_BYTE_SHIFT_old : Sta Z Z.heap "java/lang/StringUTF16" "LO_BYTE_SHIFT" "I" (.int (8 : Int32))) (hvf : vf.isRef = true) (hb3 : B16 c3) :
    MetFree l Y16 (head1 (Jvm.Cond.code Y16 jdk_52_method_83_code 2 (some .char) :: ws) ({ frames := 3, cells := 0, slots := 0, locals := 40 } : Room)) (fun a U => a = #[(.ref a2), (.int (3 : Int32))] ∧ Z.Warmed39 U.vm ∧ U.heap = h0) (fun _ _ _ _ _ => True) (fun _ U o U' => ∃ v L, o = .returned v ∧ Q_rm_u16_3 Z a2 k2 c0 c1 c2 c3 vf h0 n0 v U'.heap L ∧ FrameEnd U o U' L ({ frames := 3, cells := 0, slots := 0, locals := 40 } : Room).cells ({ frames := 3, cells := 0, slots := 0, locals := 40 } : Room).slots) := by
  refine MetFree.of_bodySF (plainFor_of_name pn_java_lang_StringUTF16) hisR ?_
  intro p e s m args below meth c s₁ Bd hml0 hP hK
  obtain ⟨rfl, hZ, hh⟩ := hP
  have hx := Bd.exec
  have hby := Bd.bytes
  have hml : c.maxLocals = 2 := hml0
  have hown : s.vm.findClass "java/lang/StringUTF16" = some m.cls := findClass_of_methodNamed Bd.named
  have hnm := (name_of_methodNamed Bd.named Bd.method).1
  have X0 : Stand p l e ({ frames := 3, cells := 0, slots := 0, locals := 40 } : Room) s m #[(.ref a2), (.int (3 : Int32))] below meth c s₁ [] 0 0 := Stand.of_body Bd
  have e0 : s₁.heap = h0 := by rw [← hh, Bd.state]; rfl
  have N0 := Fr.nil n0
  refine Goes.out (l := l) (c := c) (R := ({ frames := 3, cells := 0, slots := 0, locals := 40 } : Room)) (Q := Q_rm_u16_3 Z a2 k2 c0 c1 c2 c3 vf h0 n0) Bd.notSynchronized ?_
  refine Goes.cast (g2 := mkF m 0 #[rv a2, iv 3] []) (by first | (simp [entryFrame, mkF, argsToLocals, Value.category]; done) | rfl) ?_
  have K0 : Keep h0 h0 [] := Keep.refl h0 _
  have hws : ∀ x ∈ ([] : List Addr), n0 ≤ x := all0
  refine Goes.step (T2 := s₁) (g2 := (mkF m 1 #[rv a2, iv 3] [(.int (3 : Int32))])) (fun _ hr => XS.iloadN X0.here hx rfl (hb hby d16_0) rfl  hr) ?_
  refine Goes.step (T2 := s₁) (g2 := (mkF m 2 #[rv a2, iv 3] [(.ref a2), (.int (3 : Int32))])) (fun _ hr => XS.aloadN X0.here hx rfl (hb hby d16_1) rfl rfl hr) ?_
  have Zs230 : n0 ≤ h0.size := Nat.le_trans Z0 K0.1
  obtain ⟨_, _, ⟨T231, L231, k231, n231⟩, -, X231, ⟨Lc231, hQ231, l231, y231, z231⟩, st231⟩ := Jvm.LawKit.callS X0 hx (y := Y15) hown (mvT hZ (tw hw 84 rfl)) (mvT hZ (tw hw 85 rfl)) (mvT hZ (tw hw 19 rfl)) (mvT hZ (tw hw 86 rfl)) (by decide) (backOf (W := 0) (rm_uci3 l Z a0 hw [] a2 k2 c0 c1 c2 c3 vf h0 n0 Zs230 (Old.keep O0 K0 hws) V_a2 S_Preconditions_SIOOBE_FORMATTER_old hvf) hZ (tw hw 86 rfl) (tw hw 19 rfl) (by decide) (by decide)) (g := (mkF m 2 #[rv a2, iv 3] [(.ref a2), (.int (3 : Int32))])) rfl (by rw [hml]; rfl) (argsL := [(.int (3 : Int32)), (.ref a2)]) (rest := []) (lenOf pd_11 rfl) rfl (by show 2 * 0 + _ ≤ _; exact Nat.le_of_eq rfl) (hb hby d16_2) (fun _ _ => ⟨rfl, e0, (by decide : 0 + 0 ≤ _), (by decide : 0 + 0 ≤ _)⟩)
  dsimp only [Pt.U, Pt.locs, Pt.cells, Pt.slots] at X231 l231 y231 z231 st231 hQ231
  subst l231 y231 z231
  obtain ⟨rfl, N231q, e231⟩ := hQ231
  have N231 := Fr.app N0 N231q
  refine Goes.step (T2 := T231) (g2 := (mkF m 5 #[rv a2, iv 3] [])) st231 ?_
  refine Goes.step (T2 := T231) (g2 := (mkF m 6 #[rv a2, iv 3] [(.ref a2)])) (fun _ hr => XS.aloadN X231.here hx rfl (hb hby d16_5) rfl rfl hr) ?_
  refine Goes.step (T2 := T231) (g2 := (mkF m 7 #[rv a2, iv 3] [(.int (3 : Int32)), (.ref a2)])) (fun _ hr => XS.iloadN X231.here hx rfl (hb hby d16_6) rfl  hr) ?_
  have Zs232 : n0 ≤ h0.size := Nat.le_trans Z0 K0.1
  obtain ⟨_, _, ⟨T233, L233, k233, n233⟩, -, X233, ⟨Lc233, hQ233, l233, y233, z233⟩, st233⟩ := Jvm.LawKit.callS X231 hx (y := Y5) hown (mvT hZ (tw hw 56 rfl)) (mvT hZ (tw hw 57 rfl)) (mvT hZ (tw hw 19 rfl)) (mvT hZ (tw hw 58 rfl)) (by decide) (backOf (W := 0) (rm_get3 l Z a0 hw [] a2 k2 c0 c1 c2 c3 h0 n0 Zs232 (Old.keep O0 K0 hws) V_a2 S_StringUTF16__assertionsDisabled_old S_StringUTF16_HI_BYTE_SHIFT_old S_StringUTF16_LO_BYTE_SHIFT_old hb3) hZ (tw hw 58 rfl) (tw hw 19 rfl) (by decide) (by decide)) (g := (mkF m 7 #[rv a2, iv 3] [(.int (3 : Int32)), (.ref a2)])) rfl (by rw [hml]; rfl) (argsL := [(.ref a2), (.int (3 : Int32))]) (rest := []) (lenOf pd_5 rfl) rfl (by show 2 * 0 + _ ≤ _; exact Nat.le_of_eq rfl) (hb hby d16_7) (fun _ _ => ⟨rfl, e231, (by decide : 0 + 0 ≤ _), (by decide : 0 + 0 ≤ _)⟩)
  dsimp only [Pt.U, Pt.locs, Pt.cells, Pt.slots] at X233 l233 y233 z233 st233 hQ233
  subst l233 y233 z233
  obtain ⟨rfl, N233q, e233⟩ := hQ233
  have N233 := Fr.app N231 N233q
  refine Goes.step (T2 := T233) (g2 := (mkF m 10 #[rv a2, iv 3] [(.int c3)])) st233 ?_
  exact Goes.ret (v := some (.int c3)) X233 (by decide) (by decide) (fun h => by rw [Bd.returns] at h; cases h) ⟨rfl, N233, e233⟩ (fun fs hr => retOut X233 hx Bd.returns (own_nw hb3) (Or.inl ⟨rfl, Or.inr (Or.inr (Or.inr (Or.inl rfl))), _, rfl⟩) (hb hby d16_10) hr)
theorem d17_0 : decode jdk_42_method_56_code 0 = .ok (.aload_n 0, 1) := by decide +kernel
theorem d17_1 : decode jdk_42_method_56_code 1 = .ok (.invokevirtual 492, 3) := by decide +kernel
theorem d17_4 : decode jdk_42_method_56_code 4 = .ok (.ifCond .eq 12, 3) := by decide +kernel
theorem d17_7 : decode jdk_42_method_56_code 7 = .ok (.aload_n 0, 1) := by decide +kernel
theorem d17_8 : decode jdk_42_method_56_code 8 = .ok (.getfield 9, 3) := by decide +kernel
theorem d17_11 : decode jdk_42_method_56_code 11 = .ok (.iload_n 1, 1) := by decide +kernel
theorem d17_12 : decode jdk_42_method_56_code 12 = .ok (.invokestatic 495, 3) := by decide +kernel
theorem d17_15 : decode jdk_42_method_56_code 15 = .ok (.ireturn, 1) := by decide +kernel
def Q_rm_cat0_0 (Z : State) (a1 : Addr) (w1 : Addr) (k1 : ClassId) (cs : Int32) (c0 : Int32) (c1 : Int32) (c2 : Int32) (c3 : Int32) (vf : Value) (h0 : Heap) (n0 : Nat) (v : Option Value) (h : Heap) (L : List Loc) : Prop := v = some (.int c0) ∧ Fr n0 L ∧ h = h0
set_option maxRecDepth 65536 in
set_option maxHeartbeats 40000000 in
theorem rm_cat0_0 (l : Launch) (Z : State) (a0 : Array Value) (hw : ∀ d ∈ tables_1, d.before a0 Z = true) (ws : List Jvm.Cond) (a1 : Addr) (w1 : Addr) (k1 : ClassId) (cs : Int32) (c0 : Int32) (c1 : Int32) (c2 : Int32) (c3 : Int32) (vf : Value) (h0 : Heap) (n0 : Nat) (Z0 : n0 ≤ h0.size) (O0 : Old Z n0 h0) (E_a1 : Exa Z h0 a1 "java/lang/String") (F_a1_coder : Fld Z h0 a1 "java/lang/String" "coder" "B" (.int (0 : Int32))) (F_a1_value : Fld Z h0 a1 "java/lang/String" "value" "[B" (.ref w1)) (V_w1 : Arv Z h0 w1 k1 .byte (4 : Int32) [(.int (bL1 c0)), (.int (bL1 c1)), (.int (bL1 c2)), (.int (bL1 c3))] (.int (0 : Int32))) (S_String_COMPACT_STRINGS_old : Sta Z Z.heap "java/lang/String" "COMPACT_STRINGS" "Z" (.int cs)) (S_Preconditions_SIOOBE_FORMATTER_old : Sta Z Z.heap "jdk/internal/util/Preconditions" "SIOOBE_FORMATTER" "Ljava/util/function/BiFunction;" vf) (S_StringUTF16__assertionsDisabled_old : Sta Z Z.heap "java/lang/StringUTF16" "$assertionsDisabled" "Z" (.int (1 : Int32))) (S_StringUTF16_HI_BYTE_SHIFT_old : Sta Z Z.heap "java/lang/StringUTF16" "HI_BYTE_SHIFT" "I" (.int (0 : Int32))) (S_StringUTF16_LO_BYTE_SHIFT_old : Sta Z Z.heap "java/lang/StringUTF16" "LO_BYTE_SHIFT" "I" (.int (8 : Int32))) (hcs : ¬ (cs = (0 : Int32))) (hvf : vf.isRef = true) (hb0 : B16 c0) (hlow0 : ¬ ((255 : Int32) < c0)) :
    MetFree l Y17 (head1 (Jvm.Cond.code Y17 jdk_42_method_56_code 2 (some .char) :: ws) ({ frames := 5, cells := 0, slots := 0, locals := 90 } : Room)) (fun a U => a = #[(.ref a1), (.int (0 : Int32))] ∧ Z.Warmed39 U.vm ∧ U.heap = h0) (fun _ _ _ _ _ => True) (fun _ U o U' => ∃ v L, o = .returned v ∧ Q_rm_cat0_0 Z a1 w1 k1 cs c0 c1 c2 c3 vf h0 n0 v U'.heap L ∧ FrameEnd U o U' L ({ frames := 5, cells := 0, slots := 0, locals := 90 } : Room).cells ({ frames := 5, cells := 0, slots := 0, locals := 90 } : Room).slots) := by
  refine MetFree.of_bodySF (plainFor_of_name pn_java_lang_String) hisR ?_
  intro p e s m args below meth c s₁ Bd hml0 hP hK
  obtain ⟨rfl, hZ, hh⟩ := hP
  have hx := Bd.exec
  have hby := Bd.bytes
  have hml : c.maxLocals = 2 := hml0
  have hown : s.vm.findClass "java/lang/String" = some m.cls := findClass_of_methodNamed Bd.named
  have hnm := (name_of_methodNamed Bd.named Bd.method).1
  have X0 : Stand p l e ({ frames := 5, cells := 0, slots := 0, locals := 90 } : Room) s m #[(.ref a1), (.int (0 : Int32))] below meth c s₁ [] 0 0 := Stand.of_body Bd
  have e0 : s₁.heap = h0 := by rw [← hh, Bd.state]; rfl
  have N0 := Fr.nil n0
  refine Goes.out (l := l) (c := c) (R := ({ frames := 5, cells := 0, slots := 0, locals := 90 } : Room)) (Q := Q_rm_cat0_0 Z a1 w1 k1 cs c0 c1 c2 c3 vf h0 n0) Bd.notSynchronized ?_
  refine Goes.cast (g2 := mkF m 0 #[rv a1, iv 0] []) (by first | (simp [entryFrame, mkF, argsToLocals, Value.category]; done) | rfl) ?_
  have K0 : Keep h0 h0 [] := Keep.refl h0 _
  have hws : ∀ x ∈ ([] : List Addr), n0 ≤ x := all0
  refine Goes.step (T2 := s₁) (g2 := (mkF m 1 #[rv a1, iv 0] [(.ref a1)])) (fun _ hr => XS.aloadN X0.here hx rfl (hb hby d17_0) rfl rfl hr) ?_
  have Zs234 : n0 ≤ h0.size := Nat.le_trans Z0 K0.1
  obtain ⟨cq235, kq235, q235a, q235b, q235c⟩ := isOf hZ e0 E_a1
  obtain ⟨_, _, ⟨T235, L235, k235, n235⟩, -, X235, ⟨Lc235, hQ235, l235, y235, z235⟩, st235⟩ := X0.virtualBack hx (y := Y10) (z := Y10) hown (mvT hZ (tw hw 64 rfl)) (mvT hZ (tw hw 65 rfl)) (notFace_of_selects (args := #[]) (mvT hZ (tw hw 67 rfl))) (mvT hZ (tw hw 67 rfl)) (mvT hZ (tw hw 66 rfl)) (by decide) (backOf (W := 0) (rm_isl0 l Z a0 hw [] a1 cs h0 n0 Zs234 (Old.keep O0 K0 hws) F_a1_coder S_String_COMPACT_STRINGS_old hcs) hZ (tw hw 68 rfl) (tw hw 5 rfl) (by decide) (by decide)) q235a q235c (g := (mkF m 1 #[rv a1, iv 0] [(.ref a1)])) rfl (by rw [hml]; rfl) (Steps.refl _) (argsL := []) (rest := []) (lenOf pd_12 rfl) rfl (by show 2 * 0 + _ ≤ _; exact Nat.le_of_eq rfl) (hb hby d17_1) (fun _ _ => ⟨rfl, e0, (by decide : 0 + 0 ≤ _), (by decide : 0 + 0 ≤ _)⟩)
  dsimp only [Pt.U, Pt.locs, Pt.cells, Pt.slots] at X235 l235 y235 z235 st235 hQ235
  subst l235 y235 z235
  obtain ⟨rfl, N235q, e235⟩ := hQ235
  have N235 := Fr.app N0 N235q
  refine Goes.step (T2 := T235) (g2 := (mkF m 4 #[rv a1, iv 0] [(.int (1 : Int32))])) (fun _ hr => st235.trans hr) ?_
  refine Goes.step (T2 := T235) (g2 := (mkF m 7 #[rv a1, iv 0] [])) (fun _ hr => XS.ifNo X235.here hx rfl (hb hby d17_4) rfl ((if0 _ _).trans (feq (by decide : ¬ ((1 : Int32) = (0 : Int32)))).1) hr) ?_
  refine Goes.step (T2 := T235) (g2 := (mkF m 8 #[rv a1, iv 0] [(.ref a1)])) (fun _ hr => XS.aloadN X235.here hx rfl (hb hby d17_7) rfl rfl hr) ?_
  obtain ⟨T236, X236, e236, st236⟩ := getF X235 hx hZ hown (host := "") (Or.inl (tw hw 30 rfl)) Via.refl e235 F_a1_value (g := (mkF m 8 #[rv a1, iv 0] [(.ref a1)])) rfl rfl (hb hby d17_8)
  refine Goes.step (T2 := T236) (g2 := (mkF m 11 #[rv a1, iv 0] [(.ref w1)])) st236 ?_
  refine Goes.step (T2 := T236) (g2 := (mkF m 12 #[rv a1, iv 0] [(.int (0 : Int32)), (.ref w1)])) (fun _ hr => XS.iloadN X236.here hx rfl (hb hby d17_11) rfl  hr) ?_
  have Zs237 : n0 ≤ h0.size := Nat.le_trans Z0 K0.1
  obtain ⟨_, _, ⟨T238, L238, k238, n238⟩, -, X238, ⟨Lc238, hQ238, l238, y238, z238⟩, st238⟩ := Jvm.LawKit.callS X236 hx (y := Y14) hown (mvT hZ (tw hw 69 rfl)) (mvT hZ (tw hw 70 rfl)) (mvT hZ (tw hw 71 rfl)) (mvT hZ (tw hw 72 rfl)) (by decide) (backOf (W := 0) (rm_l1_0 l Z a0 hw [] w1 k1 c0 c1 c2 c3 vf h0 n0 Zs237 (Old.keep O0 K0 hws) V_w1 S_Preconditions_SIOOBE_FORMATTER_old hvf hb0 hlow0) hZ (tw hw 72 rfl) (tw hw 71 rfl) (by decide) (by decide)) (g := (mkF m 12 #[rv a1, iv 0] [(.int (0 : Int32)), (.ref w1)])) rfl (by rw [hml]; rfl) (argsL := [(.ref w1), (.int (0 : Int32))]) (rest := []) (lenOf pd_5 rfl) rfl (by show 2 * 0 + _ ≤ _; exact Nat.le_of_eq rfl) (hb hby d17_12) (fun _ _ => ⟨rfl, e236, (by decide : 0 + 0 ≤ _), (by decide : 0 + 0 ≤ _)⟩)
  dsimp only [Pt.U, Pt.locs, Pt.cells, Pt.slots] at X238 l238 y238 z238 st238 hQ238
  subst l238 y238 z238
  obtain ⟨rfl, N238q, e238⟩ := hQ238
  have N238 := Fr.app N235 N238q
  refine Goes.step (T2 := T238) (g2 := (mkF m 15 #[rv a1, iv 0] [(.int c0)])) st238 ?_
  exact Goes.ret (v := some (.int c0)) X238 (by decide) (by decide) (fun h => by rw [Bd.returns] at h; cases h) ⟨rfl, N238, e238⟩ (fun fs hr => retOut X238 hx Bd.returns (own_nw hb0) (Or.inl ⟨rfl, Or.inr (Or.inr (Or.inr (Or.inl rfl))), _, rfl⟩) (hb hby d17_15) hr)
theorem d17_16 : decode jdk_42_method_56_code 16 = .ok (.aload_n 0, 1) := by decide +kernel
theorem d17_17 : decode jdk_42_method_56_code 17 = .ok (.getfield 9, 3) := by decide +kernel
theorem d17_20 : decode jdk_42_method_56_code 20 = .ok (.iload_n 1, 1) := by decide +kernel
theorem d17_21 : decode jdk_42_method_56_code 21 = .ok (.invokestatic 498, 3) := by decide +kernel
theorem d17_24 : decode jdk_42_method_56_code 24 = .ok (.ireturn, 1) := by decide +kernel
def Q_rm_cat0_1 (Z : State) (a1 : Addr) (w1 : Addr) (k1 : ClassId) (cs : Int32) (c0 : Int32) (c1 : Int32) (c2 : Int32) (c3 : Int32) (vf : Value) (h0 : Heap) (n0 : Nat) (v : Option Value) (h : Heap) (L : List Loc) : Prop := v = some (.int c0) ∧ Fr n0 L ∧ h = h0
set_option maxRecDepth 65536 in
set_option maxHeartbeats 40000000 in
theorem rm_cat0_1 (l : Launch) (Z : State) (a0 : Array Value) (hw : ∀ d ∈ tables_1, d.before a0 Z = true) (ws : List Jvm.Cond) (a1 : Addr) (w1 : Addr) (k1 : ClassId) (cs : Int32) (c0 : Int32) (c1 : Int32) (c2 : Int32) (c3 : Int32) (vf : Value) (h0 : Heap) (n0 : Nat) (Z0 : n0 ≤ h0.size) (O0 : Old Z n0 h0) (E_a1 : Exa Z h0 a1 "java/lang/String") (F_a1_coder : Fld Z h0 a1 "java/lang/String" "coder" "B" (.int (1 : Int32))) (F_a1_value : Fld Z h0 a1 "java/lang/String" "value" "[B" (.ref w1)) (V_w1 : Arv Z h0 w1 k1 .byte (8 : Int32) [(.int (bLo c0)), (.int (bHi c0)), (.int (bLo c1)), (.int (bHi c1)), (.int (bLo c2)), (.int (bHi c2)), (.int (bLo c3)), (.int (bHi c3))] (.int (0 : Int32))) (S_String_COMPACT_STRINGS_old : Sta Z Z.heap "java/lang/String" "COMPACT_STRINGS" "Z" (.int cs)) (S_Preconditions_SIOOBE_FORMATTER_old : Sta Z Z.heap "jdk/internal/util/Preconditions" "SIOOBE_FORMATTER" "Ljava/util/function/BiFunction;" vf) (S_StringUTF16__assertionsDisabled_old : Sta Z Z.heap "java/lang/StringUTF16" "$assertionsDisabled" "Z" (.int (1 : Int32))) (S_StringUTF16_HI_BYTE_SHIFT_old : Sta Z Z.heap "java/lang/StringUTF16" "HI_BYTE_SHIFT" "I" (.int (0 : Int32))) (S_StringUTF16_LO_BYTE_SHIFT_old : Sta Z Z.heap "java/lang/StringUTF16" "LO_BYTE_SHIFT" "I" (.int (8 : Int32))) (hcs : ¬ (cs = (0 : Int32))) (hvf : vf.isRef = true) (hb0 : B16 c0) :
    MetFree l Y17 (head1 (Jvm.Cond.code Y17 jdk_42_method_56_code 2 (some .char) :: ws) ({ frames := 5, cells := 0, slots := 0, locals := 90 } : Room)) (fun a U => a = #[(.ref a1), (.int (0 : Int32))] ∧ Z.Warmed39 U.vm ∧ U.heap = h0) (fun _ _ _ _ _ => True) (fun _ U o U' => ∃ v L, o = .returned v ∧ Q_rm_cat0_1 Z a1 w1 k1 cs c0 c1 c2 c3 vf h0 n0 v U'.heap L ∧ FrameEnd U o U' L ({ frames := 5, cells := 0, slots := 0, locals := 90 } : Room).cells ({ frames := 5, cells := 0, slots := 0, locals := 90 } : Room).slots) := by
  refine MetFree.of_bodySF (plainFor_of_name pn_java_lang_String) hisR ?_
  intro p e s m args below meth c s₁ Bd hml0 hP hK
  obtain ⟨rfl, hZ, hh⟩ := hP
  have hx := Bd.exec
  have hby := Bd.bytes
  have hml : c.maxLocals = 2 := hml0
  have hown : s.vm.findClass "java/lang/String" = some m.cls := findClass_of_methodNamed Bd.named
  have hnm := (name_of_methodNamed Bd.named Bd.method).1
  have X0 : Stand p l e ({ frames := 5, cells := 0, slots := 0, locals := 90 } : Room) s m #[(.ref a1), (.int (0 : Int32))] below meth c s₁ [] 0 0 := Stand.of_body Bd
  have e0 : s₁.heap = h0 := by rw [← hh, Bd.state]; rfl
  have N0 := Fr.nil n0
  refine Goes.out (l := l) (c := c) (R := ({ frames := 5, cells := 0, slots := 0, locals := 90 } : Room)) (Q := Q_rm_cat0_1 Z a1 w1 k1 cs c0 c1 c2 c3 vf h0 n0) Bd.notSynchronized ?_
  refine Goes.cast (g2 := mkF m 0 #[rv a1, iv 0] []) (by first | (simp [entryFrame, mkF, argsToLocals, Value.category]; done) | rfl) ?_
  have K0 : Keep h0 h0 [] := Keep.refl h0 _
  have hws : ∀ x ∈ ([] : List Addr), n0 ≤ x := all0
  refine Goes.step (T2 := s₁) (g2 := (mkF m 1 #[rv a1, iv 0] [(.ref a1)])) (fun _ hr => XS.aloadN X0.here hx rfl (hb hby d17_0) rfl rfl hr) ?_
  have Zs239 : n0 ≤ h0.size := Nat.le_trans Z0 K0.1
  obtain ⟨cq240, kq240, q240a, q240b, q240c⟩ := isOf hZ e0 E_a1
  obtain ⟨_, _, ⟨T240, L240, k240, n240⟩, -, X240, ⟨Lc240, hQ240, l240, y240, z240⟩, st240⟩ := X0.virtualBack hx (y := Y10) (z := Y10) hown (mvT hZ (tw hw 64 rfl)) (mvT hZ (tw hw 65 rfl)) (notFace_of_selects (args := #[]) (mvT hZ (tw hw 67 rfl))) (mvT hZ (tw hw 67 rfl)) (mvT hZ (tw hw 66 rfl)) (by decide) (backOf (W := 0) (rm_isl1 l Z a0 hw [] a1 cs h0 n0 Zs239 (Old.keep O0 K0 hws) F_a1_coder S_String_COMPACT_STRINGS_old hcs) hZ (tw hw 68 rfl) (tw hw 5 rfl) (by decide) (by decide)) q240a q240c (g := (mkF m 1 #[rv a1, iv 0] [(.ref a1)])) rfl (by rw [hml]; rfl) (Steps.refl _) (argsL := []) (rest := []) (lenOf pd_12 rfl) rfl (by show 2 * 0 + _ ≤ _; exact Nat.le_of_eq rfl) (hb hby d17_1) (fun _ _ => ⟨rfl, e0, (by decide : 0 + 0 ≤ _), (by decide : 0 + 0 ≤ _)⟩)
  dsimp only [Pt.U, Pt.locs, Pt.cells, Pt.slots] at X240 l240 y240 z240 st240 hQ240
  subst l240 y240 z240
  obtain ⟨rfl, N240q, e240⟩ := hQ240
  have N240 := Fr.app N0 N240q
  refine Goes.step (T2 := T240) (g2 := (mkF m 4 #[rv a1, iv 0] [(.int (0 : Int32))])) (fun _ hr => st240.trans hr) ?_
  refine Goes.step (T2 := T240) (g2 := (mkF m 16 #[rv a1, iv 0] [])) (fun _ hr => XS.ifYes X240.here hx rfl (pc0 := 4) (pc' := 16) rfl (hb hby d17_4) rfl ((if0 _ _).trans (teq (by decide : (0 : Int32) = (0 : Int32))).1) (by decide) (by decide) hr) ?_
  refine Goes.step (T2 := T240) (g2 := (mkF m 17 #[rv a1, iv 0] [(.ref a1)])) (fun _ hr => XS.aloadN X240.here hx rfl (hb hby d17_16) rfl rfl hr) ?_
  obtain ⟨T241, X241, e241, st241⟩ := getF X240 hx hZ hown (host := "") (Or.inl (tw hw 30 rfl)) Via.refl e240 F_a1_value (g := (mkF m 17 #[rv a1, iv 0] [(.ref a1)])) rfl rfl (hb hby d17_17)
  refine Goes.step (T2 := T241) (g2 := (mkF m 20 #[rv a1, iv 0] [(.ref w1)])) st241 ?_
  refine Goes.step (T2 := T241) (g2 := (mkF m 21 #[rv a1, iv 0] [(.int (0 : Int32)), (.ref w1)])) (fun _ hr => XS.iloadN X241.here hx rfl (hb hby d17_20) rfl  hr) ?_
  have Zs242 : n0 ≤ h0.size := Nat.le_trans Z0 K0.1
  obtain ⟨_, _, ⟨T243, L243, k243, n243⟩, -, X243, ⟨Lc243, hQ243, l243, y243, z243⟩, st243⟩ := Jvm.LawKit.callS X241 hx (y := Y16) hown (mvT hZ (tw hw 81 rfl)) (mvT hZ (tw hw 82 rfl)) (mvT hZ (tw hw 19 rfl)) (mvT hZ (tw hw 83 rfl)) (by decide) (backOf (W := 0) (rm_u16_0 l Z a0 hw [] w1 k1 c0 c1 c2 c3 vf h0 n0 Zs242 (Old.keep O0 K0 hws) V_w1 S_Preconditions_SIOOBE_FORMATTER_old S_StringUTF16__assertionsDisabled_old S_StringUTF16_HI_BYTE_SHIFT_old S_StringUTF16_LO_BYTE_SHIFT_old hvf hb0) hZ (tw hw 83 rfl) (tw hw 19 rfl) (by decide) (by decide)) (g := (mkF m 21 #[rv a1, iv 0] [(.int (0 : Int32)), (.ref w1)])) rfl (by rw [hml]; rfl) (argsL := [(.ref w1), (.int (0 : Int32))]) (rest := []) (lenOf pd_5 rfl) rfl (by show 2 * 0 + _ ≤ _; exact Nat.le_of_eq rfl) (hb hby d17_21) (fun _ _ => ⟨rfl, e241, (by decide : 0 + 0 ≤ _), (by decide : 0 + 0 ≤ _)⟩)
  dsimp only [Pt.U, Pt.locs, Pt.cells, Pt.slots] at X243 l243 y243 z243 st243 hQ243
  subst l243 y243 z243
  obtain ⟨rfl, N243q, e243⟩ := hQ243
  have N243 := Fr.app N240 N243q
  refine Goes.step (T2 := T243) (g2 := (mkF m 24 #[rv a1, iv 0] [(.int c0)])) st243 ?_
  exact Goes.ret (v := some (.int c0)) X243 (by decide) (by decide) (fun h => by rw [Bd.returns] at h; cases h) ⟨rfl, N243, e243⟩ (fun fs hr => retOut X243 hx Bd.returns (own_nw hb0) (Or.inl ⟨rfl, Or.inr (Or.inr (Or.inr (Or.inl rfl))), _, rfl⟩) (hb hby d17_24) hr)
def Q_rm_cat0 (Z : State) (a1 : Addr) (cs : Int32) (c0 : Int32) (c1 : Int32) (c2 : Int32) (c3 : Int32) (vf : Value) (h0 : Heap) (n0 : Nat) (v : Option Value) (h : Heap) (L : List Loc) : Prop := v = some (.int c0) ∧ Fr n0 L ∧ h = h0
theorem rm_cat0 (l : Launch) (Z : State) (a0 : Array Value) (hw : ∀ d ∈ tables_1, d.before a0 Z = true) (ws : List Jvm.Cond) (a1 : Addr) (cs : Int32) (c0 : Int32) (c1 : Int32) (c2 : Int32) (c3 : Int32) (vf : Value) (h0 : Heap) (n0 : Nat) (Z0 : n0 ≤ h0.size) (O0 : Old Z n0 h0) (E_a1 : Exa Z h0 a1 "java/lang/String") (S0 : Sch Z h0 a1 c0 c1 c2 c3) (S_String_COMPACT_STRINGS_old : Sta Z Z.heap "java/lang/String" "COMPACT_STRINGS" "Z" (.int cs)) (S_Preconditions_SIOOBE_FORMATTER_old : Sta Z Z.heap "jdk/internal/util/Preconditions" "SIOOBE_FORMATTER" "Ljava/util/function/BiFunction;" vf) (S_StringUTF16__assertionsDisabled_old : Sta Z Z.heap "java/lang/StringUTF16" "$assertionsDisabled" "Z" (.int (1 : Int32))) (S_StringUTF16_HI_BYTE_SHIFT_old : Sta Z Z.heap "java/lang/StringUTF16" "HI_BYTE_SHIFT" "I" (.int (0 : Int32))) (S_StringUTF16_LO_BYTE_SHIFT_old : Sta Z Z.heap "java/lang/StringUTF16" "LO_BYTE_SHIFT" "I" (.int (8 : Int32))) (hcs : ¬ (cs = (0 : Int32))) (hvf : vf.isRef = true) (hb0 : B16 c0) :
    MetFree l (⟨"java/lang/String", "charAt", "(I)C"⟩ : MethodName) (head1 (Jvm.Cond.code (⟨"java/lang/String", "charAt", "(I)C"⟩ : MethodName) jdk_42_method_56_code 2 (some .char) :: ws) ({ frames := 5, cells := 0, slots := 0, locals := 90 } : Room)) (fun a U => a = #[(.ref a1), (.int (0 : Int32))] ∧ Z.Warmed39 U.vm ∧ U.heap = h0) (fun _ _ _ _ _ => True) (fun _ U o U' => ∃ v L, o = .returned v ∧ Q_rm_cat0 Z a1 cs c0 c1 c2 c3 vf h0 n0 v U'.heap L ∧ FrameEnd U o U' L ({ frames := 5, cells := 0, slots := 0, locals := 90 } : Room).cells ({ frames := 5, cells := 0, slots := 0, locals := 90 } : Room).slots) := by
  obtain ⟨w, k, Fv, ⟨Fc, V, hl0, hl1, hl2, hl3⟩ | ⟨Fc, V⟩⟩ := S0
  · exact rm_cat0_0 l Z a0 hw ws a1 w k cs c0 c1 c2 c3 vf h0 n0 Z0 O0 E_a1 Fc Fv V S_String_COMPACT_STRINGS_old S_Preconditions_SIOOBE_FORMATTER_old S_StringUTF16__assertionsDisabled_old S_StringUTF16_HI_BYTE_SHIFT_old S_StringUTF16_LO_BYTE_SHIFT_old hcs hvf hb0 hl0
  · exact rm_cat0_1 l Z a0 hw ws a1 w k cs c0 c1 c2 c3 vf h0 n0 Z0 O0 E_a1 Fc Fv V S_String_COMPACT_STRINGS_old S_Preconditions_SIOOBE_FORMATTER_old S_StringUTF16__assertionsDisabled_old S_StringUTF16_HI_BYTE_SHIFT_old S_StringUTF16_LO_BYTE_SHIFT_old hcs hvf hb0
def Q_rm_cat1_0 (Z : State) (a1 : Addr) (w1 : Addr) (k1 : ClassId) (cs : Int32) (c0 : Int32) (c1 : Int32) (c2 : Int32) (c3 : Int32) (vf : Value) (h0 : Heap) (n0 : Nat) (v : Option Value) (h : Heap) (L : List Loc) : Prop := v = some (.int c1) ∧ Fr n0 L ∧ h = h0
set_option maxRecDepth 65536 in
set_option maxHeartbeats 40000000 in
theorem rm_cat1_0 (l : Launch) (Z : State) (a0 : Array Value) (hw : ∀ d ∈ tables_1, d.before a0 Z = true) (ws : List Jvm.Cond) (a1 : Addr) (w1 : Addr) (k1 : ClassId) (cs : Int32) (c0 : Int32) (c1 : Int32) (c2 : Int32) (c3 : Int32) (vf : Value) (h0 : Heap) (n0 : Nat) (Z0 : n0 ≤ h0.size) (O0 : Old Z n0 h0) (E_a1 : Exa Z h0 a1 "java/lang/String") (F_a1_coder : Fld Z h0 a1 "java/lang/String" "coder" "B" (.int (0 : Int32))) (F_a1_value : Fld Z h0 a1 "java/lang/String" "value" "[B" (.ref w1)) (V_w1 : Arv Z h0 w1 k1 .byte (4 : Int32) [(.int (bL1 c0)), (.int (bL1 c1)), (.int (bL1 c2)), (.int (bL1 c3))] (.int (0 : Int32))) (S_String_COMPACT_STRINGS_old : Sta Z Z.heap "java/lang/String" "COMPACT_STRINGS" "Z" (.int cs)) (S_Preconditions_SIOOBE_FORMATTER_old : Sta Z Z.heap "jdk/internal/util/Preconditions" "SIOOBE_FORMATTER" "Ljava/util/function/BiFunction;" vf) (S_StringUTF16__assertionsDisabled_old : Sta Z Z.heap "java/lang/StringUTF16" "$assertionsDisabled" "Z" (.int (1 : Int32))) (S_StringUTF16_HI_BYTE_SHIFT_old : Sta Z Z.heap "java/lang/StringUTF16" "HI_BYTE_SHIFT" "I" (.int (0 : Int32))) (S_StringUTF16_LO_BYTE_SHIFT_old : Sta Z Z.heap "java/lang/StringUTF16" "LO_BYTE_SHIFT" "I" (.int (8 : Int32))) (hcs : ¬ (cs = (0 : Int32))) (hvf : vf.isRef = true) (hb1 : B16 c1) (hlow1 : ¬ ((255 : Int32) < c1)) :
    MetFree l Y17 (head1 (Jvm.Cond.code Y17 jdk_42_method_56_code 2 (some .char) :: ws) ({ frames := 5, cells := 0, slots := 0, locals := 90 } : Room)) (fun a U => a = #[(.ref a1), (.int (1 : Int32))] ∧ Z.Warmed39 U.vm ∧ U.heap = h0) (fun _ _ _ _ _ => True) (fun _ U o U' => ∃ v L, o = .returned v ∧ Q_rm_cat1_0 Z a1 w1 k1 cs c0 c1 c2 c3 vf h0 n0 v U'.heap L ∧ FrameEnd U o U' L ({ frames := 5, cells := 0, slots := 0, locals := 90 } : Room).cells ({ frames := 5, cells := 0, slots := 0, locals := 90 } : Room).slots) := by
  refine MetFree.of_bodySF (plainFor_of_name pn_java_lang_String) hisR ?_
  intro p e s m args below meth c s₁ Bd hml0 hP hK
  obtain ⟨rfl, hZ, hh⟩ := hP
  have hx := Bd.exec
  have hby := Bd.bytes
  have hml : c.maxLocals = 2 := hml0
  have hown : s.vm.findClass "java/lang/String" = some m.cls := findClass_of_methodNamed Bd.named
  have hnm := (name_of_methodNamed Bd.named Bd.method).1
  have X0 : Stand p l e ({ frames := 5, cells := 0, slots := 0, locals := 90 } : Room) s m #[(.ref a1), (.int (1 : Int32))] below meth c s₁ [] 0 0 := Stand.of_body Bd
  have e0 : s₁.heap = h0 := by rw [← hh, Bd.state]; rfl
  have N0 := Fr.nil n0
  refine Goes.out (l := l) (c := c) (R := ({ frames := 5, cells := 0, slots := 0, locals := 90 } : Room)) (Q := Q_rm_cat1_0 Z a1 w1 k1 cs c0 c1 c2 c3 vf h0 n0) Bd.notSynchronized ?_
  refine Goes.cast (g2 := mkF m 0 #[rv a1, iv 1] []) (by first | (simp [entryFrame, mkF, argsToLocals, Value.category]; done) | rfl) ?_
  have K0 : Keep h0 h0 [] := Keep.refl h0 _
  have hws : ∀ x ∈ ([] : List Addr), n0 ≤ x := all0
  refine Goes.step (T2 := s₁) (g2 := (mkF m 1 #[rv a1, iv 1] [(.ref a1)])) (fun _ hr => XS.aloadN X0.here hx rfl (hb hby d17_0) rfl rfl hr) ?_
  have Zs244 : n0 ≤ h0.size := Nat.le_trans Z0 K0.1
  obtain ⟨cq245, kq245, q245a, q245b, q245c⟩ := isOf hZ e0 E_a1
  obtain ⟨_, _, ⟨T245, L245, k245, n245⟩, -, X245, ⟨Lc245, hQ245, l245, y245, z245⟩, st245⟩ := X0.virtualBack hx (y := Y10) (z := Y10) hown (mvT hZ (tw hw 64 rfl)) (mvT hZ (tw hw 65 rfl)) (notFace_of_selects (args := #[]) (mvT hZ (tw hw 67 rfl))) (mvT hZ (tw hw 67 rfl)) (mvT hZ (tw hw 66 rfl)) (by decide) (backOf (W := 0) (rm_isl0 l Z a0 hw [] a1 cs h0 n0 Zs244 (Old.keep O0 K0 hws) F_a1_coder S_String_COMPACT_STRINGS_old hcs) hZ (tw hw 68 rfl) (tw hw 5 rfl) (by decide) (by decide)) q245a q245c (g := (mkF m 1 #[rv a1, iv 1] [(.ref a1)])) rfl (by rw [hml]; rfl) (Steps.refl _) (argsL := []) (rest := []) (lenOf pd_12 rfl) rfl (by show 2 * 0 + _ ≤ _; exact Nat.le_of_eq rfl) (hb hby d17_1) (fun _ _ => ⟨rfl, e0, (by decide : 0 + 0 ≤ _), (by decide : 0 + 0 ≤ _)⟩)
  dsimp only [Pt.U, Pt.locs, Pt.cells, Pt.slots] at X245 l245 y245 z245 st245 hQ245
  subst l245 y245 z245
  obtain ⟨rfl, N245q, e245⟩ := hQ245
  have N245 := Fr.app N0 N245q
  refine Goes.step (T2 := T245) (g2 := (mkF m 4 #[rv a1, iv 1] [(.int (1 : Int32))])) (fun _ hr => st245.trans hr) ?_
  refine Goes.step (T2 := T245) (g2 := (mkF m 7 #[rv a1, iv 1] [])) (fun _ hr => XS.ifNo X245.here hx rfl (hb hby d17_4) rfl ((if0 _ _).trans (feq (by decide : ¬ ((1 : Int32) = (0 : Int32)))).1) hr) ?_
  refine Goes.step (T2 := T245) (g2 := (mkF m 8 #[rv a1, iv 1] [(.ref a1)])) (fun _ hr => XS.aloadN X245.here hx rfl (hb hby d17_7) rfl rfl hr) ?_
  obtain ⟨T246, X246, e246, st246⟩ := getF X245 hx hZ hown (host := "") (Or.inl (tw hw 30 rfl)) Via.refl e245 F_a1_value (g := (mkF m 8 #[rv a1, iv 1] [(.ref a1)])) rfl rfl (hb hby d17_8)
  refine Goes.step (T2 := T246) (g2 := (mkF m 11 #[rv a1, iv 1] [(.ref w1)])) st246 ?_
  refine Goes.step (T2 := T246) (g2 := (mkF m 12 #[rv a1, iv 1] [(.int (1 : Int32)), (.ref w1)])) (fun _ hr => XS.iloadN X246.here hx rfl (hb hby d17_11) rfl  hr) ?_
  have Zs247 : n0 ≤ h0.size := Nat.le_trans Z0 K0.1
  obtain ⟨_, _, ⟨T248, L248, k248, n248⟩, -, X248, ⟨Lc248, hQ248, l248, y248, z248⟩, st248⟩ := Jvm.LawKit.callS X246 hx (y := Y14) hown (mvT hZ (tw hw 69 rfl)) (mvT hZ (tw hw 70 rfl)) (mvT hZ (tw hw 71 rfl)) (mvT hZ (tw hw 72 rfl)) (by decide) (backOf (W := 0) (rm_l1_1 l Z a0 hw [] w1 k1 c0 c1 c2 c3 vf h0 n0 Zs247 (Old.keep O0 K0 hws) V_w1 S_Preconditions_SIOOBE_FORMATTER_old hvf hb1 hlow1) hZ (tw hw 72 rfl) (tw hw 71 rfl) (by decide) (by decide)) (g := (mkF m 12 #[rv a1, iv 1] [(.int (1 : Int32)), (.ref w1)])) rfl (by rw [hml]; rfl) (argsL := [(.ref w1), (.int (1 : Int32))]) (rest := []) (lenOf pd_5 rfl) rfl (by show 2 * 0 + _ ≤ _; exact Nat.le_of_eq rfl) (hb hby d17_12) (fun _ _ => ⟨rfl, e246, (by decide : 0 + 0 ≤ _), (by decide : 0 + 0 ≤ _)⟩)
  dsimp only [Pt.U, Pt.locs, Pt.cells, Pt.slots] at X248 l248 y248 z248 st248 hQ248
  subst l248 y248 z248
  obtain ⟨rfl, N248q, e248⟩ := hQ248
  have N248 := Fr.app N245 N248q
  refine Goes.step (T2 := T248) (g2 := (mkF m 15 #[rv a1, iv 1] [(.int c1)])) st248 ?_
  exact Goes.ret (v := some (.int c1)) X248 (by decide) (by decide) (fun h => by rw [Bd.returns] at h; cases h) ⟨rfl, N248, e248⟩ (fun fs hr => retOut X248 hx Bd.returns (own_nw hb1) (Or.inl ⟨rfl, Or.inr (Or.inr (Or.inr (Or.inl rfl))), _, rfl⟩) (hb hby d17_15) hr)
def Q_rm_cat1_1 (Z : State) (a1 : Addr) (w1 : Addr) (k1 : ClassId) (cs : Int32) (c0 : Int32) (c1 : Int32) (c2 : Int32) (c3 : Int32) (vf : Value) (h0 : Heap) (n0 : Nat) (v : Option Value) (h : Heap) (L : List Loc) : Prop := v = some (.int c1) ∧ Fr n0 L ∧ h = h0
set_option maxRecDepth 65536 in
set_option maxHeartbeats 40000000 in
theorem rm_cat1_1 (l : Launch) (Z : State) (a0 : Array Value) (hw : ∀ d ∈ tables_1, d.before a0 Z = true) (ws : List Jvm.Cond) (a1 : Addr) (w1 : Addr) (k1 : ClassId) (cs : Int32) (c0 : Int32) (c1 : Int32) (c2 : Int32) (c3 : Int32) (vf : Value) (h0 : Heap) (n0 : Nat) (Z0 : n0 ≤ h0.size) (O0 : Old Z n0 h0) (E_a1 : Exa Z h0 a1 "java/lang/String") (F_a1_coder : Fld Z h0 a1 "java/lang/String" "coder" "B" (.int (1 : Int32))) (F_a1_value : Fld Z h0 a1 "java/lang/String" "value" "[B" (.ref w1)) (V_w1 : Arv Z h0 w1 k1 .byte (8 : Int32) [(.int (bLo c0)), (.int (bHi c0)), (.int (bLo c1)), (.int (bHi c1)), (.int (bLo c2)), (.int (bHi c2)), (.int (bLo c3)), (.int (bHi c3))] (.int (0 : Int32))) (S_String_COMPACT_STRINGS_old : Sta Z Z.heap "java/lang/String" "COMPACT_STRINGS" "Z" (.int cs)) (S_Preconditions_SIOOBE_FORMATTER_old : Sta Z Z.heap "jdk/internal/util/Preconditions" "SIOOBE_FORMATTER" "Ljava/util/function/BiFunction;" vf) (S_StringUTF16__assertionsDisabled_old : Sta Z Z.heap "java/lang/StringUTF16" "$assertionsDisabled" "Z" (.int (1 : Int32))) (S_StringUTF16_HI_BYTE_SHIFT_old : Sta Z Z.heap "java/lang/StringUTF16" "HI_BYTE_SHIFT" "I" (.int (0 : Int32))) (S_StringUTF16_LO_BYTE_SHIFT_old : Sta Z Z.heap "java/lang/StringUTF16" "LO_BYTE_SHIFT" "I" (.int (8 : Int32))) (hcs : ¬ (cs = (0 : Int32))) (hvf : vf.isRef = true) (hb1 : B16 c1) :
    MetFree l Y17 (head1 (Jvm.Cond.code Y17 jdk_42_method_56_code 2 (some .char) :: ws) ({ frames := 5, cells := 0, slots := 0, locals := 90 } : Room)) (fun a U => a = #[(.ref a1), (.int (1 : Int32))] ∧ Z.Warmed39 U.vm ∧ U.heap = h0) (fun _ _ _ _ _ => True) (fun _ U o U' => ∃ v L, o = .returned v ∧ Q_rm_cat1_1 Z a1 w1 k1 cs c0 c1 c2 c3 vf h0 n0 v U'.heap L ∧ FrameEnd U o U' L ({ frames := 5, cells := 0, slots := 0, locals := 90 } : Room).cells ({ frames := 5, cells := 0, slots := 0, locals := 90 } : Room).slots) := by
  refine MetFree.of_bodySF (plainFor_of_name pn_java_lang_String) hisR ?_
  intro p e s m args below meth c s₁ Bd hml0 hP hK
  obtain ⟨rfl, hZ, hh⟩ := hP
  have hx := Bd.exec
  have hby := Bd.bytes
  have hml : c.maxLocals = 2 := hml0
  have hown : s.vm.findClass "java/lang/String" = some m.cls := findClass_of_methodNamed Bd.named
  have hnm := (name_of_methodNamed Bd.named Bd.method).1
  have X0 : Stand p l e ({ frames := 5, cells := 0, slots := 0, locals := 90 } : Room) s m #[(.ref a1), (.int (1 : Int32))] below meth c s₁ [] 0 0 := Stand.of_body Bd
  have e0 : s₁.heap = h0 := by rw [← hh, Bd.state]; rfl
  have N0 := Fr.nil n0
  refine Goes.out (l := l) (c := c) (R := ({ frames := 5, cells := 0, slots := 0, locals := 90 } : Room)) (Q := Q_rm_cat1_1 Z a1 w1 k1 cs c0 c1 c2 c3 vf h0 n0) Bd.notSynchronized ?_
  refine Goes.cast (g2 := mkF m 0 #[rv a1, iv 1] []) (by first | (simp [entryFrame, mkF, argsToLocals, Value.category]; done) | rfl) ?_
  have K0 : Keep h0 h0 [] := Keep.refl h0 _
  have hws : ∀ x ∈ ([] : List Addr), n0 ≤ x := all0
  refine Goes.step (T2 := s₁) (g2 := (mkF m 1 #[rv a1, iv 1] [(.ref a1)])) (fun _ hr => XS.aloadN X0.here hx rfl (hb hby d17_0) rfl rfl hr) ?_
  have Zs249 : n0 ≤ h0.size := Nat.le_trans Z0 K0.1
  obtain ⟨cq250, kq250, q250a, q250b, q250c⟩ := isOf hZ e0 E_a1
  obtain ⟨_, _, ⟨T250, L250, k250, n250⟩, -, X250, ⟨Lc250, hQ250, l250, y250, z250⟩, st250⟩ := X0.virtualBack hx (y := Y10) (z := Y10) hown (mvT hZ (tw hw 64 rfl)) (mvT hZ (tw hw 65 rfl)) (notFace_of_selects (args := #[]) (mvT hZ (tw hw 67 rfl))) (mvT hZ (tw hw 67 rfl)) (mvT hZ (tw hw 66 rfl)) (by decide) (backOf (W := 0) (rm_isl1 l Z a0 hw [] a1 cs h0 n0 Zs249 (Old.keep O0 K0 hws) F_a1_coder S_String_COMPACT_STRINGS_old hcs) hZ (tw hw 68 rfl) (tw hw 5 rfl) (by decide) (by decide)) q250a q250c (g := (mkF m 1 #[rv a1, iv 1] [(.ref a1)])) rfl (by rw [hml]; rfl) (Steps.refl _) (argsL := []) (rest := []) (lenOf pd_12 rfl) rfl (by show 2 * 0 + _ ≤ _; exact Nat.le_of_eq rfl) (hb hby d17_1) (fun _ _ => ⟨rfl, e0, (by decide : 0 + 0 ≤ _), (by decide : 0 + 0 ≤ _)⟩)
  dsimp only [Pt.U, Pt.locs, Pt.cells, Pt.slots] at X250 l250 y250 z250 st250 hQ250
  subst l250 y250 z250
  obtain ⟨rfl, N250q, e250⟩ := hQ250
  have N250 := Fr.app N0 N250q
  refine Goes.step (T2 := T250) (g2 := (mkF m 4 #[rv a1, iv 1] [(.int (0 : Int32))])) (fun _ hr => st250.trans hr) ?_
  refine Goes.step (T2 := T250) (g2 := (mkF m 16 #[rv a1, iv 1] [])) (fun _ hr => XS.ifYes X250.here hx rfl (pc0 := 4) (pc' := 16) rfl (hb hby d17_4) rfl ((if0 _ _).trans (teq (by decide : (0 : Int32) = (0 : Int32))).1) (by decide) (by decide) hr) ?_
  refine Goes.step (T2 := T250) (g2 := (mkF m 17 #[rv a1, iv 1] [(.ref a1)])) (fun _ hr => XS.aloadN X250.here hx rfl (hb hby d17_16) rfl rfl hr) ?_
  obtain ⟨T251, X251, e251, st251⟩ := getF X250 hx hZ hown (host := "") (Or.inl (tw hw 30 rfl)) Via.refl e250 F_a1_value (g := (mkF m 17 #[rv a1, iv 1] [(.ref a1)])) rfl rfl (hb hby d17_17)
  refine Goes.step (T2 := T251) (g2 := (mkF m 20 #[rv a1, iv 1] [(.ref w1)])) st251 ?_
  refine Goes.step (T2 := T251) (g2 := (mkF m 21 #[rv a1, iv 1] [(.int (1 : Int32)), (.ref w1)])) (fun _ hr => XS.iloadN X251.here hx rfl (hb hby d17_20) rfl  hr) ?_
  have Zs252 : n0 ≤ h0.size := Nat.le_trans Z0 K0.1
  obtain ⟨_, _, ⟨T253, L253, k253, n253⟩, -, X253, ⟨Lc253, hQ253, l253, y253, z253⟩, st253⟩ := Jvm.LawKit.callS X251 hx (y := Y16) hown (mvT hZ (tw hw 81 rfl)) (mvT hZ (tw hw 82 rfl)) (mvT hZ (tw hw 19 rfl)) (mvT hZ (tw hw 83 rfl)) (by decide) (backOf (W := 0) (rm_u16_1 l Z a0 hw [] w1 k1 c0 c1 c2 c3 vf h0 n0 Zs252 (Old.keep O0 K0 hws) V_w1 S_Preconditions_SIOOBE_FORMATTER_old S_StringUTF16__assertionsDisabled_old S_StringUTF16_HI_BYTE_SHIFT_old S_StringUTF16_LO_BYTE_SHIFT_old hvf hb1) hZ (tw hw 83 rfl) (tw hw 19 rfl) (by decide) (by decide)) (g := (mkF m 21 #[rv a1, iv 1] [(.int (1 : Int32)), (.ref w1)])) rfl (by rw [hml]; rfl) (argsL := [(.ref w1), (.int (1 : Int32))]) (rest := []) (lenOf pd_5 rfl) rfl (by show 2 * 0 + _ ≤ _; exact Nat.le_of_eq rfl) (hb hby d17_21) (fun _ _ => ⟨rfl, e251, (by decide : 0 + 0 ≤ _), (by decide : 0 + 0 ≤ _)⟩)
  dsimp only [Pt.U, Pt.locs, Pt.cells, Pt.slots] at X253 l253 y253 z253 st253 hQ253
  subst l253 y253 z253
  obtain ⟨rfl, N253q, e253⟩ := hQ253
  have N253 := Fr.app N250 N253q
  refine Goes.step (T2 := T253) (g2 := (mkF m 24 #[rv a1, iv 1] [(.int c1)])) st253 ?_
  exact Goes.ret (v := some (.int c1)) X253 (by decide) (by decide) (fun h => by rw [Bd.returns] at h; cases h) ⟨rfl, N253, e253⟩ (fun fs hr => retOut X253 hx Bd.returns (own_nw hb1) (Or.inl ⟨rfl, Or.inr (Or.inr (Or.inr (Or.inl rfl))), _, rfl⟩) (hb hby d17_24) hr)
def Q_rm_cat1 (Z : State) (a1 : Addr) (cs : Int32) (c0 : Int32) (c1 : Int32) (c2 : Int32) (c3 : Int32) (vf : Value) (h0 : Heap) (n0 : Nat) (v : Option Value) (h : Heap) (L : List Loc) : Prop := v = some (.int c1) ∧ Fr n0 L ∧ h = h0
theorem rm_cat1 (l : Launch) (Z : State) (a0 : Array Value) (hw : ∀ d ∈ tables_1, d.before a0 Z = true) (ws : List Jvm.Cond) (a1 : Addr) (cs : Int32) (c0 : Int32) (c1 : Int32) (c2 : Int32) (c3 : Int32) (vf : Value) (h0 : Heap) (n0 : Nat) (Z0 : n0 ≤ h0.size) (O0 : Old Z n0 h0) (E_a1 : Exa Z h0 a1 "java/lang/String") (S0 : Sch Z h0 a1 c0 c1 c2 c3) (S_String_COMPACT_STRINGS_old : Sta Z Z.heap "java/lang/String" "COMPACT_STRINGS" "Z" (.int cs)) (S_Preconditions_SIOOBE_FORMATTER_old : Sta Z Z.heap "jdk/internal/util/Preconditions" "SIOOBE_FORMATTER" "Ljava/util/function/BiFunction;" vf) (S_StringUTF16__assertionsDisabled_old : Sta Z Z.heap "java/lang/StringUTF16" "$assertionsDisabled" "Z" (.int (1 : Int32))) (S_StringUTF16_HI_BYTE_SHIFT_old : Sta Z Z.heap "java/lang/StringUTF16" "HI_BYTE_SHIFT" "I" (.int (0 : Int32))) (S_StringUTF16_LO_BYTE_SHIFT_old : Sta Z Z.heap "java/lang/StringUTF16" "LO_BYTE_SHIFT" "I" (.int (8 : Int32))) (hcs : ¬ (cs = (0 : Int32))) (hvf : vf.isRef = true) (hb1 : B16 c1) :
    MetFree l (⟨"java/lang/String", "charAt", "(I)C"⟩ : MethodName) (head1 (Jvm.Cond.code (⟨"java/lang/String", "charAt", "(I)C"⟩ : MethodName) jdk_42_method_56_code 2 (some .char) :: ws) ({ frames := 5, cells := 0, slots := 0, locals := 90 } : Room)) (fun a U => a = #[(.ref a1), (.int (1 : Int32))] ∧ Z.Warmed39 U.vm ∧ U.heap = h0) (fun _ _ _ _ _ => True) (fun _ U o U' => ∃ v L, o = .returned v ∧ Q_rm_cat1 Z a1 cs c0 c1 c2 c3 vf h0 n0 v U'.heap L ∧ FrameEnd U o U' L ({ frames := 5, cells := 0, slots := 0, locals := 90 } : Room).cells ({ frames := 5, cells := 0, slots := 0, locals := 90 } : Room).slots) := by
  obtain ⟨w, k, Fv, ⟨Fc, V, hl0, hl1, hl2, hl3⟩ | ⟨Fc, V⟩⟩ := S0
  · exact rm_cat1_0 l Z a0 hw ws a1 w k cs c0 c1 c2 c3 vf h0 n0 Z0 O0 E_a1 Fc Fv V S_String_COMPACT_STRINGS_old S_Preconditions_SIOOBE_FORMATTER_old S_StringUTF16__assertionsDisabled_old S_StringUTF16_HI_BYTE_SHIFT_old S_StringUTF16_LO_BYTE_SHIFT_old hcs hvf hb1 hl1
  · exact rm_cat1_1 l Z a0 hw ws a1 w k cs c0 c1 c2 c3 vf h0 n0 Z0 O0 E_a1 Fc Fv V S_String_COMPACT_STRINGS_old S_Preconditions_SIOOBE_FORMATTER_old S_StringUTF16__assertionsDisabled_old S_StringUTF16_HI_BYTE_SHIFT_old S_StringUTF16_LO_BYTE_SHIFT_old hcs hvf hb1
def Q_rm_cat2_0 (Z : State) (a1 : Addr) (w1 : Addr) (k1 : ClassId) (cs : Int32) (c0 : Int32) (c1 : Int32) (c2 : Int32) (c3 : Int32) (vf : Value) (h0 : Heap) (n0 : Nat) (v : Option Value) (h : Heap) (L : List Loc) : Prop := v = some (.int c2) ∧ Fr n0 L ∧ h = h0
set_option maxRecDepth 65536 in
set_option maxHeartbeats 40000000 in
theorem rm_cat2_0 (l : Launch) (Z : State) (a0 : Array Value) (hw : ∀ d ∈ tables_1, d.before a0 Z = true) (ws : List Jvm.Cond) (a1 : Addr) (w1 : Addr) (k1 : ClassId) (cs : Int32) (c0 : Int32) (c1 : Int32) (c2 : Int32) (c3 : Int32) (vf : Value) (h0 : Heap) (n0 : Nat) (Z0 : n0 ≤ h0.size) (O0 : Old Z n0 h0) (E_a1 : Exa Z h0 a1 "java/lang/String") (F_a1_coder : Fld Z h0 a1 "java/lang/String" "coder" "B" (.int (0 : Int32))) (F_a1_value : Fld Z h0 a1 "java/lang/String" "value" "[B" (.ref w1)) (V_w1 : Arv Z h0 w1 k1 .byte (4 : Int32) [(.int (bL1 c0)), (.int (bL1 c1)), (.int (bL1 c2)), (.int (bL1 c3))] (.int (0 : Int32))) (S_String_COMPACT_STRINGS_old : Sta Z Z.heap "java/lang/String" "COMPACT_STRINGS" "Z" (.int cs)) (S_Preconditions_SIOOBE_FORMATTER_old : Sta Z Z.heap "jdk/internal/util/Preconditions" "SIOOBE_FORMATTER" "Ljava/util/function/BiFunction;" vf) (S_StringUTF16__assertionsDisabled_old : Sta Z Z.heap "java/lang/StringUTF16" "$assertionsDisabled" "Z" (.int (1 : Int32))) (S_StringUTF16_HI_BYTE_SHIFT_old : Sta Z Z.heap "java/lang/StringUTF16" "HI_BYTE_SHIFT" "I" (.int (0 : Int32))) (S_StringUTF16_LO_BYTE_SHIFT_old : Sta Z Z.heap "java/lang/StringUTF16" "LO_BYTE_SHIFT" "I" (.int (8 : Int32))) (hcs : ¬ (cs = (0 : Int32))) (hvf : vf.isRef = true) (hb2 : B16 c2) (hlow2 : ¬ ((255 : Int32) < c2)) :
    MetFree l Y17 (head1 (Jvm.Cond.code Y17 jdk_42_method_56_code 2 (some .char) :: ws) ({ frames := 5, cells := 0, slots := 0, locals := 90 } : Room)) (fun a U => a = #[(.ref a1), (.int (2 : Int32))] ∧ Z.Warmed39 U.vm ∧ U.heap = h0) (fun _ _ _ _ _ => True) (fun _ U o U' => ∃ v L, o = .returned v ∧ Q_rm_cat2_0 Z a1 w1 k1 cs c0 c1 c2 c3 vf h0 n0 v U'.heap L ∧ FrameEnd U o U' L ({ frames := 5, cells := 0, slots := 0, locals := 90 } : Room).cells ({ frames := 5, cells := 0, slots := 0, locals := 90 } : Room).slots) := by
  refine MetFree.of_bodySF (plainFor_of_name pn_java_lang_String) hisR ?_
  intro p e s m args below meth c s₁ Bd hml0 hP hK
  obtain ⟨rfl, hZ, hh⟩ := hP
  have hx := Bd.exec
  have hby := Bd.bytes
  have hml : c.maxLocals = 2 := hml0
  have hown : s.vm.findClass "java/lang/String" = some m.cls := findClass_of_methodNamed Bd.named
  have hnm := (name_of_methodNamed Bd.named Bd.method).1
  have X0 : Stand p l e ({ frames := 5, cells := 0, slots := 0, locals := 90 } : Room) s m #[(.ref a1), (.int (2 : Int32))] below meth c s₁ [] 0 0 := Stand.of_body Bd
  have e0 : s₁.heap = h0 := by rw [← hh, Bd.state]; rfl
  have N0 := Fr.nil n0
  refine Goes.out (l := l) (c := c) (R := ({ frames := 5, cells := 0, slots := 0, locals := 90 } : Room)) (Q := Q_rm_cat2_0 Z a1 w1 k1 cs c0 c1 c2 c3 vf h0 n0) Bd.notSynchronized ?_
  refine Goes.cast (g2 := mkF m 0 #[rv a1, iv 2] []) (by first | (simp [entryFrame, mkF, argsToLocals, Value.category]; done) | rfl) ?_
  have K0 : Keep h0 h0 [] := Keep.refl h0 _
  have hws : ∀ x ∈ ([] : List Addr), n0 ≤ x := all0
  refine Goes.step (T2 := s₁) (g2 := (mkF m 1 #[rv a1, iv 2] [(.ref a1)])) (fun _ hr => XS.aloadN X0.here hx rfl (hb hby d17_0) rfl rfl hr) ?_
  have Zs254 : n0 ≤ h0.size := Nat.le_trans Z0 K0.1
  obtain ⟨cq255, kq255, q255a, q255b, q255c⟩ := isOf hZ e0 E_a1
  obtain ⟨_, _, ⟨T255, L255, k255, n255⟩, -, X255, ⟨Lc255, hQ255, l255, y255, z255⟩, st255⟩ := X0.virtualBack hx (y := Y10) (z := Y10) hown (mvT hZ (tw hw 64 rfl)) (mvT hZ (tw hw 65 rfl)) (notFace_of_selects (args := #[]) (mvT hZ (tw hw 67 rfl))) (mvT hZ (tw hw 67 rfl)) (mvT hZ (tw hw 66 rfl)) (by decide) (backOf (W := 0) (rm_isl0 l Z a0 hw [] a1 cs h0 n0 Zs254 (Old.keep O0 K0 hws) F_a1_coder S_String_COMPACT_STRINGS_old hcs) hZ (tw hw 68 rfl) (tw hw 5 rfl) (by decide) (by decide)) q255a q255c (g := (mkF m 1 #[rv a1, iv 2] [(.ref a1)])) rfl (by rw [hml]; rfl) (Steps.refl _) (argsL := []) (rest := []) (lenOf pd_12 rfl) rfl (by show 2 * 0 + _ ≤ _; exact Nat.le_of_eq rfl) (hb hby d17_1) (fun _ _ => ⟨rfl, e0, (by decide : 0 + 0 ≤ _), (by decide : 0 + 0 ≤ _)⟩)
  dsimp only [Pt.U, Pt.locs, Pt.cells, Pt.slots] at X255 l255 y255 z255 st255 hQ255
  subst l255 y255 z255
  obtain ⟨rfl, N255q, e255⟩ := hQ255
  have N255 := Fr.app N0 N255q
  refine Goes.step (T2 := T255) (g2 := (mkF m 4 #[rv a1, iv 2] [(.int (1 : Int32))])) (fun _ hr => st255.trans hr) ?_
  refine Goes.step (T2 := T255) (g2 := (mkF m 7 #[rv a1, iv 2] [])) (fun _ hr => XS.ifNo X255.here hx rfl (hb hby d17_4) rfl ((if0 _ _).trans (feq (by decide : ¬ ((1 : Int32) = (0 : Int32)))).1) hr) ?_
  refine Goes.step (T2 := T255) (g2 := (mkF m 8 #[rv a1, iv 2] [(.ref a1)])) (fun _ hr => XS.aloadN X255.here hx rfl (hb hby d17_7) rfl rfl hr) ?_
  obtain ⟨T256, X256, e256, st256⟩ := getF X255 hx hZ hown (host := "") (Or.inl (tw hw 30 rfl)) Via.refl e255 F_a1_value (g := (mkF m 8 #[rv a1, iv 2] [(.ref a1)])) rfl rfl (hb hby d17_8)
  refine Goes.step (T2 := T256) (g2 := (mkF m 11 #[rv a1, iv 2] [(.ref w1)])) st256 ?_
  refine Goes.step (T2 := T256) (g2 := (mkF m 12 #[rv a1, iv 2] [(.int (2 : Int32)), (.ref w1)])) (fun _ hr => XS.iloadN X256.here hx rfl (hb hby d17_11) rfl  hr) ?_
  have Zs257 : n0 ≤ h0.size := Nat.le_trans Z0 K0.1
  obtain ⟨_, _, ⟨T258, L258, k258, n258⟩, -, X258, ⟨Lc258, hQ258, l258, y258, z258⟩, st258⟩ := Jvm.LawKit.callS X256 hx (y := Y14) hown (mvT hZ (tw hw 69 rfl)) (mvT hZ (tw hw 70 rfl)) (mvT hZ (tw hw 71 rfl)) (mvT hZ (tw hw 72 rfl)) (by decide) (backOf (W := 0) (rm_l1_2 l Z a0 hw [] w1 k1 c0 c1 c2 c3 vf h0 n0 Zs257 (Old.keep O0 K0 hws) V_w1 S_Preconditions_SIOOBE_FORMATTER_old hvf hb2 hlow2) hZ (tw hw 72 rfl) (tw hw 71 rfl) (by decide) (by decide)) (g := (mkF m 12 #[rv a1, iv 2] [(.int (2 : Int32)), (.ref w1)])) rfl (by rw [hml]; rfl) (argsL := [(.ref w1), (.int (2 : Int32))]) (rest := []) (lenOf pd_5 rfl) rfl (by show 2 * 0 + _ ≤ _; exact Nat.le_of_eq rfl) (hb hby d17_12) (fun _ _ => ⟨rfl, e256, (by decide : 0 + 0 ≤ _), (by decide : 0 + 0 ≤ _)⟩)
  dsimp only [Pt.U, Pt.locs, Pt.cells, Pt.slots] at X258 l258 y258 z258 st258 hQ258
  subst l258 y258 z258
  obtain ⟨rfl, N258q, e258⟩ := hQ258
  have N258 := Fr.app N255 N258q
  refine Goes.step (T2 := T258) (g2 := (mkF m 15 #[rv a1, iv 2] [(.int c2)])) st258 ?_
  exact Goes.ret (v := some (.int c2)) X258 (by decide) (by decide) (fun h => by rw [Bd.returns] at h; cases h) ⟨rfl, N258, e258⟩ (fun fs hr => retOut X258 hx Bd.returns (own_nw hb2) (Or.inl ⟨rfl, Or.inr (Or.inr (Or.inr (Or.inl rfl))), _, rfl⟩) (hb hby d17_15) hr)
def Q_rm_cat2_1 (Z : State) (a1 : Addr) (w1 : Addr) (k1 : ClassId) (cs : Int32) (c0 : Int32) (c1 : Int32) (c2 : Int32) (c3 : Int32) (vf : Value) (h0 : Heap) (n0 : Nat) (v : Option Value) (h : Heap) (L : List Loc) : Prop := v = some (.int c2) ∧ Fr n0 L ∧ h = h0
set_option maxRecDepth 65536 in
set_option maxHeartbeats 40000000 in
theorem rm_cat2_1 (l : Launch) (Z : State) (a0 : Array Value) (hw : ∀ d ∈ tables_1, d.before a0 Z = true) (ws : List Jvm.Cond) (a1 : Addr) (w1 : Addr) (k1 : ClassId) (cs : Int32) (c0 : Int32) (c1 : Int32) (c2 : Int32) (c3 : Int32) (vf : Value) (h0 : Heap) (n0 : Nat) (Z0 : n0 ≤ h0.size) (O0 : Old Z n0 h0) (E_a1 : Exa Z h0 a1 "java/lang/String") (F_a1_coder : Fld Z h0 a1 "java/lang/String" "coder" "B" (.int (1 : Int32))) (F_a1_value : Fld Z h0 a1 "java/lang/String" "value" "[B" (.ref w1)) (V_w1 : Arv Z h0 w1 k1 .byte (8 : Int32) [(.int (bLo c0)), (.int (bHi c0)), (.int (bLo c1)), (.int (bHi c1)), (.int (bLo c2)), (.int (bHi c2)), (.int (bLo c3)), (.int (bHi c3))] (.int (0 : Int32))) (S_String_COMPACT_STRINGS_old : Sta Z Z.heap "java/lang/String" "COMPACT_STRINGS" "Z" (.int cs)) (S_Preconditions_SIOOBE_FORMATTER_old : Sta Z Z.heap "jdk/internal/util/Preconditions" "SIOOBE_FORMATTER" "Ljava/util/function/BiFunction;" vf) (S_StringUTF16__assertionsDisabled_old : Sta Z Z.heap "java/lang/StringUTF16" "$assertionsDisabled" "Z" (.int (1 : Int32))) (S_StringUTF16_HI_BYTE_SHIFT_old : Sta Z Z.heap "java/lang/StringUTF16" "HI_BYTE_SHIFT" "I" (.int (0 : Int32))) (S_StringUTF16_LO_BYTE_SHIFT_old : Sta Z Z.heap "java/lang/StringUTF16" "LO_BYTE_SHIFT" "I" (.int (8 : Int32))) (hcs : ¬ (cs = (0 : Int32))) (hvf : vf.isRef = true) (hb2 : B16 c2) :
    MetFree l Y17 (head1 (Jvm.Cond.code Y17 jdk_42_method_56_code 2 (some .char) :: ws) ({ frames := 5, cells := 0, slots := 0, locals := 90 } : Room)) (fun a U => a = #[(.ref a1), (.int (2 : Int32))] ∧ Z.Warmed39 U.vm ∧ U.heap = h0) (fun _ _ _ _ _ => True) (fun _ U o U' => ∃ v L, o = .returned v ∧ Q_rm_cat2_1 Z a1 w1 k1 cs c0 c1 c2 c3 vf h0 n0 v U'.heap L ∧ FrameEnd U o U' L ({ frames := 5, cells := 0, slots := 0, locals := 90 } : Room).cells ({ frames := 5, cells := 0, slots := 0, locals := 90 } : Room).slots) := by
  refine MetFree.of_bodySF (plainFor_of_name pn_java_lang_String) hisR ?_
  intro p e s m args below meth c s₁ Bd hml0 hP hK
  obtain ⟨rfl, hZ, hh⟩ := hP
  have hx := Bd.exec
  have hby := Bd.bytes
  have hml : c.maxLocals = 2 := hml0
  have hown : s.vm.findClass "java/lang/String" = some m.cls := findClass_of_methodNamed Bd.named
  have hnm := (name_of_methodNamed Bd.named Bd.method).1
  have X0 : Stand p l e ({ frames := 5, cells := 0, slots := 0, locals := 90 } : Room) s m #[(.ref a1), (.int (2 : Int32))] below meth c s₁ [] 0 0 := Stand.of_body Bd
  have e0 : s₁.heap = h0 := by rw [← hh, Bd.state]; rfl
  have N0 := Fr.nil n0
  refine Goes.out (l := l) (c := c) (R := ({ frames := 5, cells := 0, slots := 0, locals := 90 } : Room)) (Q := Q_rm_cat2_1 Z a1 w1 k1 cs c0 c1 c2 c3 vf h0 n0) Bd.notSynchronized ?_
  refine Goes.cast (g2 := mkF m 0 #[rv a1, iv 2] []) (by first | (simp [entryFrame, mkF, argsToLocals, Value.category]; done) | rfl) ?_
  have K0 : Keep h0 h0 [] := Keep.refl h0 _
  have hws : ∀ x ∈ ([] : List Addr), n0 ≤ x := all0
  refine Goes.step (T2 := s₁) (g2 := (mkF m 1 #[rv a1, iv 2] [(.ref a1)])) (fun _ hr => XS.aloadN X0.here hx rfl (hb hby d17_0) rfl rfl hr) ?_
  have Zs259 : n0 ≤ h0.size := Nat.le_trans Z0 K0.1
  obtain ⟨cq260, kq260, q260a, q260b, q260c⟩ := isOf hZ e0 E_a1
  obtain ⟨_, _, ⟨T260, L260, k260, n260⟩, -, X260, ⟨Lc260, hQ260, l260, y260, z260⟩, st260⟩ := X0.virtualBack hx (y := Y10) (z := Y10) hown (mvT hZ (tw hw 64 rfl)) (mvT hZ (tw hw 65 rfl)) (notFace_of_selects (args := #[]) (mvT hZ (tw hw 67 rfl))) (mvT hZ (tw hw 67 rfl)) (mvT hZ (tw hw 66 rfl)) (by decide) (backOf (W := 0) (rm_isl1 l Z a0 hw [] a1 cs h0 n0 Zs259 (Old.keep O0 K0 hws) F_a1_coder S_String_COMPACT_STRINGS_old hcs) hZ (tw hw 68 rfl) (tw hw 5 rfl) (by decide) (by decide)) q260a q260c (g := (mkF m 1 #[rv a1, iv 2] [(.ref a1)])) rfl (by rw [hml]; rfl) (Steps.refl _) (argsL := []) (rest := []) (lenOf pd_12 rfl) rfl (by show 2 * 0 + _ ≤ _; exact Nat.le_of_eq rfl) (hb hby d17_1) (fun _ _ => ⟨rfl, e0, (by decide : 0 + 0 ≤ _), (by decide : 0 + 0 ≤ _)⟩)
  dsimp only [Pt.U, Pt.locs, Pt.cells, Pt.slots] at X260 l260 y260 z260 st260 hQ260
  subst l260 y260 z260
  obtain ⟨rfl, N260q, e260⟩ := hQ260
  have N260 := Fr.app N0 N260q
  refine Goes.step (T2 := T260) (g2 := (mkF m 4 #[rv a1, iv 2] [(.int (0 : Int32))])) (fun _ hr => st260.trans hr) ?_
  refine Goes.step (T2 := T260) (g2 := (mkF m 16 #[rv a1, iv 2] [])) (fun _ hr => XS.ifYes X260.here hx rfl (pc0 := 4) (pc' := 16) rfl (hb hby d17_4) rfl ((if0 _ _).trans (teq (by decide : (0 : Int32) = (0 : Int32))).1) (by decide) (by decide) hr) ?_
  refine Goes.step (T2 := T260) (g2 := (mkF m 17 #[rv a1, iv 2] [(.ref a1)])) (fun _ hr => XS.aloadN X260.here hx rfl (hb hby d17_16) rfl rfl hr) ?_
  obtain ⟨T261, X261, e261, st261⟩ := getF X260 hx hZ hown (host := "") (Or.inl (tw hw 30 rfl)) Via.refl e260 F_a1_value (g := (mkF m 17 #[rv a1, iv 2] [(.ref a1)])) rfl rfl (hb hby d17_17)
  refine Goes.step (T2 := T261) (g2 := (mkF m 20 #[rv a1, iv 2] [(.ref w1)])) st261 ?_
  refine Goes.step (T2 := T261) (g2 := (mkF m 21 #[rv a1, iv 2] [(.int (2 : Int32)), (.ref w1)])) (fun _ hr => XS.iloadN X261.here hx rfl (hb hby d17_20) rfl  hr) ?_
  have Zs262 : n0 ≤ h0.size := Nat.le_trans Z0 K0.1
  obtain ⟨_, _, ⟨T263, L263, k263, n263⟩, -, X263, ⟨Lc263, hQ263, l263, y263, z263⟩, st263⟩ := Jvm.LawKit.callS X261 hx (y := Y16) hown (mvT hZ (tw hw 81 rfl)) (mvT hZ (tw hw 82 rfl)) (mvT hZ (tw hw 19 rfl)) (mvT hZ (tw hw 83 rfl)) (by decide) (backOf (W := 0) (rm_u16_2 l Z a0 hw [] w1 k1 c0 c1 c2 c3 vf h0 n0 Zs262 (Old.keep O0 K0 hws) V_w1 S_Preconditions_SIOOBE_FORMATTER_old S_StringUTF16__assertionsDisabled_old S_StringUTF16_HI_BYTE_SHIFT_old S_StringUTF16_LO_BYTE_SHIFT_old hvf hb2) hZ (tw hw 83 rfl) (tw hw 19 rfl) (by decide) (by decide)) (g := (mkF m 21 #[rv a1, iv 2] [(.int (2 : Int32)), (.ref w1)])) rfl (by rw [hml]; rfl) (argsL := [(.ref w1), (.int (2 : Int32))]) (rest := []) (lenOf pd_5 rfl) rfl (by show 2 * 0 + _ ≤ _; exact Nat.le_of_eq rfl) (hb hby d17_21) (fun _ _ => ⟨rfl, e261, (by decide : 0 + 0 ≤ _), (by decide : 0 + 0 ≤ _)⟩)
  dsimp only [Pt.U, Pt.locs, Pt.cells, Pt.slots] at X263 l263 y263 z263 st263 hQ263
  subst l263 y263 z263
  obtain ⟨rfl, N263q, e263⟩ := hQ263
  have N263 := Fr.app N260 N263q
  refine Goes.step (T2 := T263) (g2 := (mkF m 24 #[rv a1, iv 2] [(.int c2)])) st263 ?_
  exact Goes.ret (v := some (.int c2)) X263 (by decide) (by decide) (fun h => by rw [Bd.returns] at h; cases h) ⟨rfl, N263, e263⟩ (fun fs hr => retOut X263 hx Bd.returns (own_nw hb2) (Or.inl ⟨rfl, Or.inr (Or.inr (Or.inr (Or.inl rfl))), _, rfl⟩) (hb hby d17_24) hr)
def Q_rm_cat2 (Z : State) (a1 : Addr) (cs : Int32) (c0 : Int32) (c1 : Int32) (c2 : Int32) (c3 : Int32) (vf : Value) (h0 : Heap) (n0 : Nat) (v : Option Value) (h : Heap) (L : List Loc) : Prop := v = some (.int c2) ∧ Fr n0 L ∧ h = h0
theorem rm_cat2 (l : Launch) (Z : State) (a0 : Array Value) (hw : ∀ d ∈ tables_1, d.before a0 Z = true) (ws : List Jvm.Cond) (a1 : Addr) (cs : Int32) (c0 : Int32) (c1 : Int32) (c2 : Int32) (c3 : Int32) (vf : Value) (h0 : Heap) (n0 : Nat) (Z0 : n0 ≤ h0.size) (O0 : Old Z n0 h0) (E_a1 : Exa Z h0 a1 "java/lang/String") (S0 : Sch Z h0 a1 c0 c1 c2 c3) (S_String_COMPACT_STRINGS_old : Sta Z Z.heap "java/lang/String" "COMPACT_STRINGS" "Z" (.int cs)) (S_Preconditions_SIOOBE_FORMATTER_old : Sta Z Z.heap "jdk/internal/util/Preconditions" "SIOOBE_FORMATTER" "Ljava/util/function/BiFunction;" vf) (S_StringUTF16__assertionsDisabled_old : Sta Z Z.heap "java/lang/StringUTF16" "$assertionsDisabled" "Z" (.int (1 : Int32))) (S_StringUTF16_HI_BYTE_SHIFT_old : Sta Z Z.heap "java/lang/StringUTF16" "HI_BYTE_SHIFT" "I" (.int (0 : Int32))) (S_StringUTF16_LO_BYTE_SHIFT_old : Sta Z Z.heap "java/lang/StringUTF16" "LO_BYTE_SHIFT" "I" (.int (8 : Int32))) (hcs : ¬ (cs = (0 : Int32))) (hvf : vf.isRef = true) (hb2 : B16 c2) :
    MetFree l (⟨"java/lang/String", "charAt", "(I)C"⟩ : MethodName) (head1 (Jvm.Cond.code (⟨"java/lang/String", "charAt", "(I)C"⟩ : MethodName) jdk_42_method_56_code 2 (some .char) :: ws) ({ frames := 5, cells := 0, slots := 0, locals := 90 } : Room)) (fun a U => a = #[(.ref a1), (.int (2 : Int32))] ∧ Z.Warmed39 U.vm ∧ U.heap = h0) (fun _ _ _ _ _ => True) (fun _ U o U' => ∃ v L, o = .returned v ∧ Q_rm_cat2 Z a1 cs c0 c1 c2 c3 vf h0 n0 v U'.heap L ∧ FrameEnd U o U' L ({ frames := 5, cells := 0, slots := 0, locals := 90 } : Room).cells ({ frames := 5, cells := 0, slots := 0, locals := 90 } : Room).slots) := by
  obtain ⟨w, k, Fv, ⟨Fc, V, hl0, hl1, hl2, hl3⟩ | ⟨Fc, V⟩⟩ := S0
  · exact rm_cat2_0 l Z a0 hw ws a1 w k cs c0 c1 c2 c3 vf h0 n0 Z0 O0 E_a1 Fc Fv V S_String_COMPACT_STRINGS_old S_Preconditions_SIOOBE_FORMATTER_old S_StringUTF16__assertionsDisabled_old S_StringUTF16_HI_BYTE_SHIFT_old S_StringUTF16_LO_BYTE_SHIFT_old hcs hvf hb2 hl2
  · exact rm_cat2_1 l Z a0 hw ws a1 w k cs c0 c1 c2 c3 vf h0 n0 Z0 O0 E_a1 Fc Fv V S_String_COMPACT_STRINGS_old S_Preconditions_SIOOBE_FORMATTER_old S_StringUTF16__assertionsDisabled_old S_StringUTF16_HI_BYTE_SHIFT_old S_StringUTF16_LO_BYTE_SHIFT_old hcs hvf hb2
def Q_rm_cat3_0 (Z : State) (a1 : Addr) (w1 : Addr) (k1 : ClassId) (cs : Int32) (c0 : Int32) (c1 : Int32) (c2 : Int32) (c3 : Int32) (vf : Value) (h0 : Heap) (n0 : Nat) (v : Option Value) (h : Heap) (L : List Loc) : Prop := v = some (.int c3) ∧ Fr n0 L ∧ h = h0
set_option maxRecDepth 65536 in
set_option maxHeartbeats 40000000 in
theorem rm_cat3_0 (l : Launch) (Z : State) (a0 : Array Value) (hw : ∀ d ∈ tables_1, d.before a0 Z = true) (ws : List Jvm.Cond) (a1 : Addr) (w1 : Addr) (k1 : ClassId) (cs : Int32) (c0 : Int32) (c1 : Int32) (c2 : Int32) (c3 : Int32) (vf : Value) (h0 : Heap) (n0 : Nat) (Z0 : n0 ≤ h0.size) (O0 : Old Z n0 h0) (E_a1 : Exa Z h0 a1 "java/lang/String") (F_a1_coder : Fld Z h0 a1 "java/lang/String" "coder" "B" (.int (0 : Int32))) (F_a1_value : Fld Z h0 a1 "java/lang/String" "value" "[B" (.ref w1)) (V_w1 : Arv Z h0 w1 k1 .byte (4 : Int32) [(.int (bL1 c0)), (.int (bL1 c1)), (.int (bL1 c2)), (.int (bL1 c3))] (.int (0 : Int32))) (S_String_COMPACT_STRINGS_old : Sta Z Z.heap "java/lang/String" "COMPACT_STRINGS" "Z" (.int cs)) (S_Preconditions_SIOOBE_FORMATTER_old : Sta Z Z.heap "jdk/internal/util/Preconditions" "SIOOBE_FORMATTER" "Ljava/util/function/BiFunction;" vf) (S_StringUTF16__assertionsDisabled_old : Sta Z Z.heap "java/lang/StringUTF16" "$assertionsDisabled" "Z" (.int (1 : Int32))) (S_StringUTF16_HI_BYTE_SHIFT_old : Sta Z Z.heap "java/lang/StringUTF16" "HI_BYTE_SHIFT" "I" (.int (0 : Int32))) (S_StringUTF16_LO_BYTE_SHIFT_old : Sta Z Z.heap "java/lang/StringUTF16" "LO_BYTE_SHIFT" "I" (.int (8 : Int32))) (hcs : ¬ (cs = (0 : Int32))) (hvf : vf.isRef = true) (hb3 : B16 c3) (hlow3 : ¬ ((255 : Int32) < c3)) :
    MetFree l Y17 (head1 (Jvm.Cond.code Y17 jdk_42_method_56_code 2 (some .char) :: ws) ({ frames := 5, cells := 0, slots := 0, locals := 90 } : Room)) (fun a U => a = #[(.ref a1), (.int (3 : Int32))] ∧ Z.Warmed39 U.vm ∧ U.heap = h0) (fun _ _ _ _ _ => True) (fun _ U o U' => ∃ v L, o = .returned v ∧ Q_rm_cat3_0 Z a1 w1 k1 cs c0 c1 c2 c3 vf h0 n0 v U'.heap L ∧ FrameEnd U o U' L ({ frames := 5, cells := 0, slots := 0, locals := 90 } : Room).cells ({ frames := 5, cells := 0, slots := 0, locals := 90 } : Room).slots) := by
  refine MetFree.of_bodySF (plainFor_of_name pn_java_lang_String) hisR ?_
  intro p e s m args below meth c s₁ Bd hml0 hP hK
  obtain ⟨rfl, hZ, hh⟩ := hP
  have hx := Bd.exec
  have hby := Bd.bytes
  have hml : c.maxLocals = 2 := hml0
  have hown : s.vm.findClass "java/lang/String" = some m.cls := findClass_of_methodNamed Bd.named
  have hnm := (name_of_methodNamed Bd.named Bd.method).1
  have X0 : Stand p l e ({ frames := 5, cells := 0, slots := 0, locals := 90 } : Room) s m #[(.ref a1), (.int (3 : Int32))] below meth c s₁ [] 0 0 := Stand.of_body Bd
  have e0 : s₁.heap = h0 := by rw [← hh, Bd.state]; rfl
  have N0 := Fr.nil n0
  refine Goes.out (l := l) (c := c) (R := ({ frames := 5, cells := 0, slots := 0, locals := 90 } : Room)) (Q := Q_rm_cat3_0 Z a1 w1 k1 cs c0 c1 c2 c3 vf h0 n0) Bd.notSynchronized ?_
  refine Goes.cast (g2 := mkF m 0 #[rv a1, iv 3] []) (by first | (simp [entryFrame, mkF, argsToLocals, Value.category]; done) | rfl) ?_
  have K0 : Keep h0 h0 [] := Keep.refl h0 _
  have hws : ∀ x ∈ ([] : List Addr), n0 ≤ x := all0
  refine Goes.step (T2 := s₁) (g2 := (mkF m 1 #[rv a1, iv 3] [(.ref a1)])) (fun _ hr => XS.aloadN X0.here hx rfl (hb hby d17_0) rfl rfl hr) ?_
  have Zs264 : n0 ≤ h0.size := Nat.le_trans Z0 K0.1
  obtain ⟨cq265, kq265, q265a, q265b, q265c⟩ := isOf hZ e0 E_a1
  obtain ⟨_, _, ⟨T265, L265, k265, n265⟩, -, X265, ⟨Lc265, hQ265, l265, y265, z265⟩, st265⟩ := X0.virtualBack hx (y := Y10) (z := Y10) hown (mvT hZ (tw hw 64 rfl)) (mvT hZ (tw hw 65 rfl)) (notFace_of_selects (args := #[]) (mvT hZ (tw hw 67 rfl))) (mvT hZ (tw hw 67 rfl)) (mvT hZ (tw hw 66 rfl)) (by decide) (backOf (W := 0) (rm_isl0 l Z a0 hw [] a1 cs h0 n0 Zs264 (Old.keep O0 K0 hws) F_a1_coder S_String_COMPACT_STRINGS_old hcs) hZ (tw hw 68 rfl) (tw hw 5 rfl) (by decide) (by decide)) q265a q265c (g := (mkF m 1 #[rv a1, iv 3] [(.ref a1)])) rfl (by rw [hml]; rfl) (Steps.refl _) (argsL := []) (rest := []) (lenOf pd_12 rfl) rfl (by show 2 * 0 + _ ≤ _; exact Nat.le_of_eq rfl) (hb hby d17_1) (fun _ _ => ⟨rfl, e0, (by decide : 0 + 0 ≤ _), (by decide : 0 + 0 ≤ _)⟩)
  dsimp only [Pt.U, Pt.locs, Pt.cells, Pt.slots] at X265 l265 y265 z265 st265 hQ265
  subst l265 y265 z265
  obtain ⟨rfl, N265q, e265⟩ := hQ265
  have N265 := Fr.app N0 N265q
  refine Goes.step (T2 := T265) (g2 := (mkF m 4 #[rv a1, iv 3] [(.int (1 : Int32))])) (fun _ hr => st265.trans hr) ?_
  refine Goes.step (T2 := T265) (g2 := (mkF m 7 #[rv a1, iv 3] [])) (fun _ hr => XS.ifNo X265.here hx rfl (hb hby d17_4) rfl ((if0 _ _).trans (feq (by decide : ¬ ((1 : Int32) = (0 : Int32)))).1) hr) ?_
  refine Goes.step (T2 := T265) (g2 := (mkF m 8 #[rv a1, iv 3] [(.ref a1)])) (fun _ hr => XS.aloadN X265.here hx rfl (hb hby d17_7) rfl rfl hr) ?_
  obtain ⟨T266, X266, e266, st266⟩ := getF X265 hx hZ hown (host := "") (Or.inl (tw hw 30 rfl)) Via.refl e265 F_a1_value (g := (mkF m 8 #[rv a1, iv 3] [(.ref a1)])) rfl rfl (hb hby d17_8)
  refine Goes.step (T2 := T266) (g2 := (mkF m 11 #[rv a1, iv 3] [(.ref w1)])) st266 ?_
  refine Goes.step (T2 := T266) (g2 := (mkF m 12 #[rv a1, iv 3] [(.int (3 : Int32)), (.ref w1)])) (fun _ hr => XS.iloadN X266.here hx rfl (hb hby d17_11) rfl  hr) ?_
  have Zs267 : n0 ≤ h0.size := Nat.le_trans Z0 K0.1
  obtain ⟨_, _, ⟨T268, L268, k268, n268⟩, -, X268, ⟨Lc268, hQ268, l268, y268, z268⟩, st268⟩ := Jvm.LawKit.callS X266 hx (y := Y14) hown (mvT hZ (tw hw 69 rfl)) (mvT hZ (tw hw 70 rfl)) (mvT hZ (tw hw 71 rfl)) (mvT hZ (tw hw 72 rfl)) (by decide) (backOf (W := 0) (rm_l1_3 l Z a0 hw [] w1 k1 c0 c1 c2 c3 vf h0 n0 Zs267 (Old.keep O0 K0 hws) V_w1 S_Preconditions_SIOOBE_FORMATTER_old hvf hb3 hlow3) hZ (tw hw 72 rfl) (tw hw 71 rfl) (by decide) (by decide)) (g := (mkF m 12 #[rv a1, iv 3] [(.int (3 : Int32)), (.ref w1)])) rfl (by rw [hml]; rfl) (argsL := [(.ref w1), (.int (3 : Int32))]) (rest := []) (lenOf pd_5 rfl) rfl (by show 2 * 0 + _ ≤ _; exact Nat.le_of_eq rfl) (hb hby d17_12) (fun _ _ => ⟨rfl, e266, (by decide : 0 + 0 ≤ _), (by decide : 0 + 0 ≤ _)⟩)
  dsimp only [Pt.U, Pt.locs, Pt.cells, Pt.slots] at X268 l268 y268 z268 st268 hQ268
  subst l268 y268 z268
  obtain ⟨rfl, N268q, e268⟩ := hQ268
  have N268 := Fr.app N265 N268q
  refine Goes.step (T2 := T268) (g2 := (mkF m 15 #[rv a1, iv 3] [(.int c3)])) st268 ?_
  exact Goes.ret (v := some (.int c3)) X268 (by decide) (by decide) (fun h => by rw [Bd.returns] at h; cases h) ⟨rfl, N268, e268⟩ (fun fs hr => retOut X268 hx Bd.returns (own_nw hb3) (Or.inl ⟨rfl, Or.inr (Or.inr (Or.inr (Or.inl rfl))), _, rfl⟩) (hb hby d17_15) hr)
def Q_rm_cat3_1 (Z : State) (a1 : Addr) (w1 : Addr) (k1 : ClassId) (cs : Int32) (c0 : Int32) (c1 : Int32) (c2 : Int32) (c3 : Int32) (vf : Value) (h0 : Heap) (n0 : Nat) (v : Option Value) (h : Heap) (L : List Loc) : Prop := v = some (.int c3) ∧ Fr n0 L ∧ h = h0
set_option maxRecDepth 65536 in
set_option maxHeartbeats 40000000 in
theorem rm_cat3_1 (l : Launch) (Z : State) (a0 : Array Value) (hw : ∀ d ∈ tables_1, d.before a0 Z = true) (ws : List Jvm.Cond) (a1 : Addr) (w1 : Addr) (k1 : ClassId) (cs : Int32) (c0 : Int32) (c1 : Int32) (c2 : Int32) (c3 : Int32) (vf : Value) (h0 : Heap) (n0 : Nat) (Z0 : n0 ≤ h0.size) (O0 : Old Z n0 h0) (E_a1 : Exa Z h0 a1 "java/lang/String") (F_a1_coder : Fld Z h0 a1 "java/lang/String" "coder" "B" (.int (1 : Int32))) (F_a1_value : Fld Z h0 a1 "java/lang/String" "value" "[B" (.ref w1)) (V_w1 : Arv Z h0 w1 k1 .byte (8 : Int32) [(.int (bLo c0)), (.int (bHi c0)), (.int (bLo c1)), (.int (bHi c1)), (.int (bLo c2)), (.int (bHi c2)), (.int (bLo c3)), (.int (bHi c3))] (.int (0 : Int32))) (S_String_COMPACT_STRINGS_old : Sta Z Z.heap "java/lang/String" "COMPACT_STRINGS" "Z" (.int cs)) (S_Preconditions_SIOOBE_FORMATTER_old : Sta Z Z.heap "jdk/internal/util/Preconditions" "SIOOBE_FORMATTER" "Ljava/util/function/BiFunction;" vf) (S_StringUTF16__assertionsDisabled_old : Sta Z Z.heap "java/lang/StringUTF16" "$assertionsDisabled" "Z" (.int (1 : Int32))) (S_StringUTF16_HI_BYTE_SHIFT_old : Sta Z Z.heap "java/lang/StringUTF16" "HI_BYTE_SHIFT" "I" (.int (0 : Int32))) (S_StringUTF16_LO_BYTE_SHIFT_old : Sta Z Z.heap "java/lang/StringUTF16" "LO_BYTE_SHIFT" "I" (.int (8 : Int32))) (hcs : ¬ (cs = (0 : Int32))) (hvf : vf.isRef = true) (hb3 : B16 c3) :
    MetFree l Y17 (head1 (Jvm.Cond.code Y17 jdk_42_method_56_code 2 (some .char) :: ws) ({ frames := 5, cells := 0, slots := 0, locals := 90 } : Room)) (fun a U => a = #[(.ref a1), (.int (3 : Int32))] ∧ Z.Warmed39 U.vm ∧ U.heap = h0) (fun _ _ _ _ _ => True) (fun _ U o U' => ∃ v L, o = .returned v ∧ Q_rm_cat3_1 Z a1 w1 k1 cs c0 c1 c2 c3 vf h0 n0 v U'.heap L ∧ FrameEnd U o U' L ({ frames := 5, cells := 0, slots := 0, locals := 90 } : Room).cells ({ frames := 5, cells := 0, slots := 0, locals := 90 } : Room).slots) := by
  refine MetFree.of_bodySF (plainFor_of_name pn_java_lang_String) hisR ?_
  intro p e s m args below meth c s₁ Bd hml0 hP hK
  obtain ⟨rfl, hZ, hh⟩ := hP
  have hx := Bd.exec
  have hby := Bd.bytes
  have hml : c.maxLocals = 2 := hml0
  have hown : s.vm.findClass "java/lang/String" = some m.cls := findClass_of_methodNamed Bd.named
  have hnm := (name_of_methodNamed Bd.named Bd.method).1
  have X0 : Stand p l e ({ frames := 5, cells := 0, slots := 0, locals := 90 } : Room) s m #[(.ref a1), (.int (3 : Int32))] below meth c s₁ [] 0 0 := Stand.of_body Bd
  have e0 : s₁.heap = h0 := by rw [← hh, Bd.state]; rfl
  have N0 := Fr.nil n0
  refine Goes.out (l := l) (c := c) (R := ({ frames := 5, cells := 0, slots := 0, locals := 90 } : Room)) (Q := Q_rm_cat3_1 Z a1 w1 k1 cs c0 c1 c2 c3 vf h0 n0) Bd.notSynchronized ?_
  refine Goes.cast (g2 := mkF m 0 #[rv a1, iv 3] []) (by first | (simp [entryFrame, mkF, argsToLocals, Value.category]; done) | rfl) ?_
  have K0 : Keep h0 h0 [] := Keep.refl h0 _
  have hws : ∀ x ∈ ([] : List Addr), n0 ≤ x := all0
  refine Goes.step (T2 := s₁) (g2 := (mkF m 1 #[rv a1, iv 3] [(.ref a1)])) (fun _ hr => XS.aloadN X0.here hx rfl (hb hby d17_0) rfl rfl hr) ?_
  have Zs269 : n0 ≤ h0.size := Nat.le_trans Z0 K0.1
  obtain ⟨cq270, kq270, q270a, q270b, q270c⟩ := isOf hZ e0 E_a1
  obtain ⟨_, _, ⟨T270, L270, k270, n270⟩, -, X270, ⟨Lc270, hQ270, l270, y270, z270⟩, st270⟩ := X0.virtualBack hx (y := Y10) (z := Y10) hown (mvT hZ (tw hw 64 rfl)) (mvT hZ (tw hw 65 rfl)) (notFace_of_selects (args := #[]) (mvT hZ (tw hw 67 rfl))) (mvT hZ (tw hw 67 rfl)) (mvT hZ (tw hw 66 rfl)) (by decide) (backOf (W := 0) (rm_isl1 l Z a0 hw [] a1 cs h0 n0 Zs269 (Old.keep O0 K0 hws) F_a1_coder S_String_COMPACT_STRINGS_old hcs) hZ (tw hw 68 rfl) (tw hw 5 rfl) (by decide) (by decide)) q270a q270c (g := (mkF m 1 #[rv a1, iv 3] [(.ref a1)])) rfl (by rw [hml]; rfl) (Steps.refl _) (argsL := []) (rest := []) (lenOf pd_12 rfl) rfl (by show 2 * 0 + _ ≤ _; exact Nat.le_of_eq rfl) (hb hby d17_1) (fun _ _ => ⟨rfl, e0, (by decide : 0 + 0 ≤ _), (by decide : 0 + 0 ≤ _)⟩)
  dsimp only [Pt.U, Pt.locs, Pt.cells, Pt.slots] at X270 l270 y270 z270 st270 hQ270
  subst l270 y270 z270
  obtain ⟨rfl, N270q, e270⟩ := hQ270
  have N270 := Fr.app N0 N270q
  refine Goes.step (T2 := T270) (g2 := (mkF m 4 #[rv a1, iv 3] [(.int (0 : Int32))])) (fun _ hr => st270.trans hr) ?_
  refine Goes.step (T2 := T270) (g2 := (mkF m 16 #[rv a1, iv 3] [])) (fun _ hr => XS.ifYes X270.here hx rfl (pc0 := 4) (pc' := 16) rfl (hb hby d17_4) rfl ((if0 _ _).trans (teq (by decide : (0 : Int32) = (0 : Int32))).1) (by decide) (by decide) hr) ?_
  refine Goes.step (T2 := T270) (g2 := (mkF m 17 #[rv a1, iv 3] [(.ref a1)])) (fun _ hr => XS.aloadN X270.here hx rfl (hb hby d17_16) rfl rfl hr) ?_
  obtain ⟨T271, X271, e271, st271⟩ := getF X270 hx hZ hown (host := "") (Or.inl (tw hw 30 rfl)) Via.refl e270 F_a1_value (g := (mkF m 17 #[rv a1, iv 3] [(.ref a1)])) rfl rfl (hb hby d17_17)
  refine Goes.step (T2 := T271) (g2 := (mkF m 20 #[rv a1, iv 3] [(.ref w1)])) st271 ?_
  refine Goes.step (T2 := T271) (g2 := (mkF m 21 #[rv a1, iv 3] [(.int (3 : Int32)), (.ref w1)])) (fun _ hr => XS.iloadN X271.here hx rfl (hb hby d17_20) rfl  hr) ?_
  have Zs272 : n0 ≤ h0.size := Nat.le_trans Z0 K0.1
  obtain ⟨_, _, ⟨T273, L273, k273, n273⟩, -, X273, ⟨Lc273, hQ273, l273, y273, z273⟩, st273⟩ := Jvm.LawKit.callS X271 hx (y := Y16) hown (mvT hZ (tw hw 81 rfl)) (mvT hZ (tw hw 82 rfl)) (mvT hZ (tw hw 19 rfl)) (mvT hZ (tw hw 83 rfl)) (by decide) (backOf (W := 0) (rm_u16_3 l Z a0 hw [] w1 k1 c0 c1 c2 c3 vf h0 n0 Zs272 (Old.keep O0 K0 hws) V_w1 S_Preconditions_SIOOBE_FORMATTER_old S_StringUTF16__assertionsDisabled_old S_StringUTF16_HI_BYTE_SHIFT_old S_StringUTF16_LO_BYTE_SHIFT_old hvf hb3) hZ (tw hw 83 rfl) (tw hw 19 rfl) (by decide) (by decide)) (g := (mkF m 21 #[rv a1, iv 3] [(.int (3 : Int32)), (.ref w1)])) rfl (by rw [hml]; rfl) (argsL := [(.ref w1), (.int (3 : Int32))]) (rest := []) (lenOf pd_5 rfl) rfl (by show 2 * 0 + _ ≤ _; exact Nat.le_of_eq rfl) (hb hby d17_21) (fun _ _ => ⟨rfl, e271, (by decide : 0 + 0 ≤ _), (by decide : 0 + 0 ≤ _)⟩)
  dsimp only [Pt.U, Pt.locs, Pt.cells, Pt.slots] at X273 l273 y273 z273 st273 hQ273
  subst l273 y273 z273
  obtain ⟨rfl, N273q, e273⟩ := hQ273
  have N273 := Fr.app N270 N273q
  refine Goes.step (T2 := T273) (g2 := (mkF m 24 #[rv a1, iv 3] [(.int c3)])) st273 ?_
  exact Goes.ret (v := some (.int c3)) X273 (by decide) (by decide) (fun h => by rw [Bd.returns] at h; cases h) ⟨rfl, N273, e273⟩ (fun fs hr => retOut X273 hx Bd.returns (own_nw hb3) (Or.inl ⟨rfl, Or.inr (Or.inr (Or.inr (Or.inl rfl))), _, rfl⟩) (hb hby d17_24) hr)
def Q_rm_cat3 (Z : State) (a1 : Addr) (cs : Int32) (c0 : Int32) (c1 : Int32) (c2 : Int32) (c3 : Int32) (vf : Value) (h0 : Heap) (n0 : Nat) (v : Option Value) (h : Heap) (L : List Loc) : Prop := v = some (.int c3) ∧ Fr n0 L ∧ h = h0
theorem rm_cat3 (l : Launch) (Z : State) (a0 : Array Value) (hw : ∀ d ∈ tables_1, d.before a0 Z = true) (ws : List Jvm.Cond) (a1 : Addr) (cs : Int32) (c0 : Int32) (c1 : Int32) (c2 : Int32) (c3 : Int32) (vf : Value) (h0 : Heap) (n0 : Nat) (Z0 : n0 ≤ h0.size) (O0 : Old Z n0 h0) (E_a1 : Exa Z h0 a1 "java/lang/String") (S0 : Sch Z h0 a1 c0 c1 c2 c3) (S_String_COMPACT_STRINGS_old : Sta Z Z.heap "java/lang/String" "COMPACT_STRINGS" "Z" (.int cs)) (S_Preconditions_SIOOBE_FORMATTER_old : Sta Z Z.heap "jdk/internal/util/Preconditions" "SIOOBE_FORMATTER" "Ljava/util/function/BiFunction;" vf) (S_StringUTF16__assertionsDisabled_old : Sta Z Z.heap "java/lang/StringUTF16" "$assertionsDisabled" "Z" (.int (1 : Int32))) (S_StringUTF16_HI_BYTE_SHIFT_old : Sta Z Z.heap "java/lang/StringUTF16" "HI_BYTE_SHIFT" "I" (.int (0 : Int32))) (S_StringUTF16_LO_BYTE_SHIFT_old : Sta Z Z.heap "java/lang/StringUTF16" "LO_BYTE_SHIFT" "I" (.int (8 : Int32))) (hcs : ¬ (cs = (0 : Int32))) (hvf : vf.isRef = true) (hb3 : B16 c3) :
    MetFree l (⟨"java/lang/String", "charAt", "(I)C"⟩ : MethodName) (head1 (Jvm.Cond.code (⟨"java/lang/String", "charAt", "(I)C"⟩ : MethodName) jdk_42_method_56_code 2 (some .char) :: ws) ({ frames := 5, cells := 0, slots := 0, locals := 90 } : Room)) (fun a U => a = #[(.ref a1), (.int (3 : Int32))] ∧ Z.Warmed39 U.vm ∧ U.heap = h0) (fun _ _ _ _ _ => True) (fun _ U o U' => ∃ v L, o = .returned v ∧ Q_rm_cat3 Z a1 cs c0 c1 c2 c3 vf h0 n0 v U'.heap L ∧ FrameEnd U o U' L ({ frames := 5, cells := 0, slots := 0, locals := 90 } : Room).cells ({ frames := 5, cells := 0, slots := 0, locals := 90 } : Room).slots) := by
  obtain ⟨w, k, Fv, ⟨Fc, V, hl0, hl1, hl2, hl3⟩ | ⟨Fc, V⟩⟩ := S0
  · exact rm_cat3_0 l Z a0 hw ws a1 w k cs c0 c1 c2 c3 vf h0 n0 Z0 O0 E_a1 Fc Fv V S_String_COMPACT_STRINGS_old S_Preconditions_SIOOBE_FORMATTER_old S_StringUTF16__assertionsDisabled_old S_StringUTF16_HI_BYTE_SHIFT_old S_StringUTF16_LO_BYTE_SHIFT_old hcs hvf hb3 hl3
  · exact rm_cat3_1 l Z a0 hw ws a1 w k cs c0 c1 c2 c3 vf h0 n0 Z0 O0 E_a1 Fc Fv V S_String_COMPACT_STRINGS_old S_Preconditions_SIOOBE_FORMATTER_old S_StringUTF16__assertionsDisabled_old S_StringUTF16_HI_BYTE_SHIFT_old S_StringUTF16_LO_BYTE_SHIFT_old hcs hvf hb3
theorem d18_0 : decode prog_32_method_41_code 0 = .ok (.iload_n 1, 1) := by decide +kernel
theorem d18_1 : decode prog_32_method_41_code 1 = .ok (.istore_n 3, 1) := by decide +kernel
theorem d18_2 : decode prog_32_method_41_code 2 = .ok (.iload_n 3, 1) := by decide +kernel
theorem d18_3 : decode prog_32_method_41_code 3 = .ok (.iload_n 2, 1) := by decide +kernel
theorem d18_4 : decode prog_32_method_41_code 4 = .ok (.if_icmp .ge 31, 3) := by decide +kernel
theorem d18_35 : decode prog_32_method_41_code 35 = .ok (.iconst 1, 1) := by decide +kernel
theorem d18_36 : decode prog_32_method_41_code 36 = .ok (.ireturn, 1) := by decide +kernel
theorem pn_com_example_api_policy_gateway_apipolicygateway_proxy_HeaderFields : plainName "com/example/api_policy_gateway/apipolicygateway/proxy/HeaderFields" = true := by first | (simp [plainName, overriddenIn]; done) | decide +kernel
def Q_rm_ad00 (Z : State) (a1 : Addr) (cs : Int32) (c0 : Int32) (c1 : Int32) (c2 : Int32) (c3 : Int32) (vf : Value) (h0 : Heap) (n0 : Nat) (v : Option Value) (h : Heap) (L : List Loc) : Prop := v = some (.int (allD [])) ∧ Fr n0 L ∧ h = h0
set_option maxRecDepth 65536 in
set_option maxHeartbeats 40000000 in
theorem rm_ad00 (l : Launch) (Z : State) (a0 : Array Value) (hw : ∀ d ∈ tables_1, d.before a0 Z = true) (ws : List Jvm.Cond) (a1 : Addr) (cs : Int32) (c0 : Int32) (c1 : Int32) (c2 : Int32) (c3 : Int32) (vf : Value) (h0 : Heap) (n0 : Nat) (Z0 : n0 ≤ h0.size) (O0 : Old Z n0 h0) (E_a1 : Exa Z h0 a1 "java/lang/String") (S_String_COMPACT_STRINGS_old : Sta Z Z.heap "java/lang/String" "COMPACT_STRINGS" "Z" (.int cs)) (S_Preconditions_SIOOBE_FORMATTER_old : Sta Z Z.heap "jdk/internal/util/Preconditions" "SIOOBE_FORMATTER" "Ljava/util/function/BiFunction;" vf) (S_StringUTF16__assertionsDisabled_old : Sta Z Z.heap "java/lang/StringUTF16" "$assertionsDisabled" "Z" (.int (1 : Int32))) (S_StringUTF16_HI_BYTE_SHIFT_old : Sta Z Z.heap "java/lang/StringUTF16" "HI_BYTE_SHIFT" "I" (.int (0 : Int32))) (S_StringUTF16_LO_BYTE_SHIFT_old : Sta Z Z.heap "java/lang/StringUTF16" "LO_BYTE_SHIFT" "I" (.int (8 : Int32))) (hcs : ¬ (cs = (0 : Int32))) (hvf : vf.isRef = true) (hb0 : B16 c0) (hb1 : B16 c1) (hb2 : B16 c2) (hb3 : B16 c3) (S0 : Sch Z h0 a1 c0 c1 c2 c3) :
    MetFree l Y18 (head1 (Jvm.Cond.code Y18 prog_32_method_41_code 4 (some .boolean) :: ws) ({ frames := 6, cells := 0, slots := 0, locals := 110 } : Room)) (fun a U => a = #[(.ref a1), (.int (0 : Int32)), (.int (0 : Int32))] ∧ Z.Warmed39 U.vm ∧ U.heap = h0) (fun _ _ _ _ _ => True) (fun _ U o U' => ∃ v L, o = .returned v ∧ Q_rm_ad00 Z a1 cs c0 c1 c2 c3 vf h0 n0 v U'.heap L ∧ FrameEnd U o U' L ({ frames := 6, cells := 0, slots := 0, locals := 110 } : Room).cells ({ frames := 6, cells := 0, slots := 0, locals := 110 } : Room).slots) := by
  refine MetFree.of_bodySF (plainFor_of_name pn_com_example_api_policy_gateway_apipolicygateway_proxy_HeaderFields) hisR ?_
  intro p e s m args below meth c s₁ Bd hml0 hP hK
  obtain ⟨rfl, hZ, hh⟩ := hP
  have hx := Bd.exec
  have hby := Bd.bytes
  have hml : c.maxLocals = 4 := hml0
  have hown : s.vm.findClass "com/example/api_policy_gateway/apipolicygateway/proxy/HeaderFields" = some m.cls := findClass_of_methodNamed Bd.named
  have hnm := (name_of_methodNamed Bd.named Bd.method).1
  have X0 : Stand p l e ({ frames := 6, cells := 0, slots := 0, locals := 110 } : Room) s m #[(.ref a1), (.int (0 : Int32)), (.int (0 : Int32))] below meth c s₁ [] 0 0 := Stand.of_body Bd
  have e0 : s₁.heap = h0 := by rw [← hh, Bd.state]; rfl
  have N0 := Fr.nil n0
  refine Goes.out (l := l) (c := c) (R := ({ frames := 6, cells := 0, slots := 0, locals := 110 } : Room)) (Q := Q_rm_ad00 Z a1 cs c0 c1 c2 c3 vf h0 n0) Bd.notSynchronized ?_
  refine Goes.cast (g2 := mkF m 0 #[rv a1, iv 0, iv 0, .unset] []) (by first | (simp [entryFrame, mkF, argsToLocals, Value.category]; done) | rfl) ?_
  have K0 : Keep h0 h0 [] := Keep.refl h0 _
  have hws : ∀ x ∈ ([] : List Addr), n0 ≤ x := all0
  refine Goes.step (T2 := s₁) (g2 := (mkF m 1 #[rv a1, iv 0, iv 0, .unset] [(.int (0 : Int32))])) (fun _ hr => XS.iloadN X0.here hx rfl (hb hby d18_0) rfl  hr) ?_
  refine Goes.step (T2 := s₁) (g2 := (mkF m 2 #[rv a1, iv 0, iv 0, iv 0] [])) (fun _ hr => XS.istoreN X0.here hx rfl (hb hby d18_1) rfl (l' := #[rv a1, iv 0, iv 0, iv 0]) rfl hr) ?_
  refine Goes.step (T2 := s₁) (g2 := (mkF m 3 #[rv a1, iv 0, iv 0, iv 0] [(.int (0 : Int32))])) (fun _ hr => XS.iloadN X0.here hx rfl (hb hby d18_2) rfl  hr) ?_
  refine Goes.step (T2 := s₁) (g2 := (mkF m 4 #[rv a1, iv 0, iv 0, iv 0] [(.int (0 : Int32)), (.int (0 : Int32))])) (fun _ hr => XS.iloadN X0.here hx rfl (hb hby d18_3) rfl  hr) ?_
  refine Goes.step (T2 := s₁) (g2 := (mkF m 35 #[rv a1, iv 0, iv 0, iv 0] [])) (fun _ hr => XS.icmpYes X0.here hx rfl (pc0 := 4) (pc' := 35) rfl (hb hby d18_4) rfl (flt (by decide : ¬ ((0 : Int32) < (0 : Int32)))).2.1 (by decide) (by decide) hr) ?_
  refine Goes.step (T2 := s₁) (g2 := (mkF m 36 #[rv a1, iv 0, iv 0, iv 0] [(.int (1 : Int32))])) (fun _ hr => XS.iconst X0.here hx rfl (hb hby d18_35) hr) ?_
  exact Goes.ret (v := some (.int (1 : Int32))) X0 (by decide) (by decide) (fun h => by rw [Bd.returns] at h; cases h) ⟨by rw [show allD [] = (1 : Int32) from rfl], N0, e0⟩ (fun fs hr => retN X0 hx (t := .boolean) Bd.returns (by simp) (hb hby d18_36) hr)
theorem d18_7 : decode prog_32_method_41_code 7 = .ok (.aload_n 0, 1) := by decide +kernel
theorem d18_8 : decode prog_32_method_41_code 8 = .ok (.iload_n 3, 1) := by decide +kernel
theorem d18_9 : decode prog_32_method_41_code 9 = .ok (.invokevirtual 254, 3) := by decide +kernel
theorem d18_12 : decode prog_32_method_41_code 12 = .ok (.bipush 48, 2) := by decide +kernel
theorem d18_14 : decode prog_32_method_41_code 14 = .ok (.if_icmp .lt 13, 3) := by decide +kernel
theorem d18_17 : decode prog_32_method_41_code 17 = .ok (.aload_n 0, 1) := by decide +kernel
theorem d18_18 : decode prog_32_method_41_code 18 = .ok (.iload_n 3, 1) := by decide +kernel
theorem d18_19 : decode prog_32_method_41_code 19 = .ok (.invokevirtual 254, 3) := by decide +kernel
theorem d18_22 : decode prog_32_method_41_code 22 = .ok (.bipush 57, 2) := by decide +kernel
theorem d18_24 : decode prog_32_method_41_code 24 = .ok (.if_icmp .le 5, 3) := by decide +kernel
theorem d18_27 : decode prog_32_method_41_code 27 = .ok (.iconst 0, 1) := by decide +kernel
theorem d18_28 : decode prog_32_method_41_code 28 = .ok (.ireturn, 1) := by decide +kernel
theorem d18_29 : decode prog_32_method_41_code 29 = .ok (.iinc 3 1, 3) := by decide +kernel
theorem d18_32 : decode prog_32_method_41_code 32 = .ok (.goto (-30), 3) := by decide +kernel
def Q_rm_ad01 (Z : State) (a1 : Addr) (cs : Int32) (c0 : Int32) (c1 : Int32) (c2 : Int32) (c3 : Int32) (vf : Value) (h0 : Heap) (n0 : Nat) (v : Option Value) (h : Heap) (L : List Loc) : Prop := v = some (.int (allD [c0])) ∧ Fr n0 L ∧ h = h0
set_option maxRecDepth 65536 in
set_option maxHeartbeats 40000000 in
theorem rm_ad01 (l : Launch) (Z : State) (a0 : Array Value) (hw : ∀ d ∈ tables_1, d.before a0 Z = true) (ws : List Jvm.Cond) (a1 : Addr) (cs : Int32) (c0 : Int32) (c1 : Int32) (c2 : Int32) (c3 : Int32) (vf : Value) (h0 : Heap) (n0 : Nat) (Z0 : n0 ≤ h0.size) (O0 : Old Z n0 h0) (E_a1 : Exa Z h0 a1 "java/lang/String") (S_String_COMPACT_STRINGS_old : Sta Z Z.heap "java/lang/String" "COMPACT_STRINGS" "Z" (.int cs)) (S_Preconditions_SIOOBE_FORMATTER_old : Sta Z Z.heap "jdk/internal/util/Preconditions" "SIOOBE_FORMATTER" "Ljava/util/function/BiFunction;" vf) (S_StringUTF16__assertionsDisabled_old : Sta Z Z.heap "java/lang/StringUTF16" "$assertionsDisabled" "Z" (.int (1 : Int32))) (S_StringUTF16_HI_BYTE_SHIFT_old : Sta Z Z.heap "java/lang/StringUTF16" "HI_BYTE_SHIFT" "I" (.int (0 : Int32))) (S_StringUTF16_LO_BYTE_SHIFT_old : Sta Z Z.heap "java/lang/StringUTF16" "LO_BYTE_SHIFT" "I" (.int (8 : Int32))) (hcs : ¬ (cs = (0 : Int32))) (hvf : vf.isRef = true) (hb0 : B16 c0) (hb1 : B16 c1) (hb2 : B16 c2) (hb3 : B16 c3) (S0 : Sch Z h0 a1 c0 c1 c2 c3) :
    MetFree l Y18 (head1 (Jvm.Cond.code Y18 prog_32_method_41_code 4 (some .boolean) :: ws) ({ frames := 6, cells := 0, slots := 0, locals := 110 } : Room)) (fun a U => a = #[(.ref a1), (.int (0 : Int32)), (.int (1 : Int32))] ∧ Z.Warmed39 U.vm ∧ U.heap = h0) (fun _ _ _ _ _ => True) (fun _ U o U' => ∃ v L, o = .returned v ∧ Q_rm_ad01 Z a1 cs c0 c1 c2 c3 vf h0 n0 v U'.heap L ∧ FrameEnd U o U' L ({ frames := 6, cells := 0, slots := 0, locals := 110 } : Room).cells ({ frames := 6, cells := 0, slots := 0, locals := 110 } : Room).slots) := by
  refine MetFree.of_bodySF (plainFor_of_name pn_com_example_api_policy_gateway_apipolicygateway_proxy_HeaderFields) hisR ?_
  intro p e s m args below meth c s₁ Bd hml0 hP hK
  obtain ⟨rfl, hZ, hh⟩ := hP
  have hx := Bd.exec
  have hby := Bd.bytes
  have hml : c.maxLocals = 4 := hml0
  have hown : s.vm.findClass "com/example/api_policy_gateway/apipolicygateway/proxy/HeaderFields" = some m.cls := findClass_of_methodNamed Bd.named
  have hnm := (name_of_methodNamed Bd.named Bd.method).1
  have X0 : Stand p l e ({ frames := 6, cells := 0, slots := 0, locals := 110 } : Room) s m #[(.ref a1), (.int (0 : Int32)), (.int (1 : Int32))] below meth c s₁ [] 0 0 := Stand.of_body Bd
  have e0 : s₁.heap = h0 := by rw [← hh, Bd.state]; rfl
  have N0 := Fr.nil n0
  refine Goes.out (l := l) (c := c) (R := ({ frames := 6, cells := 0, slots := 0, locals := 110 } : Room)) (Q := Q_rm_ad01 Z a1 cs c0 c1 c2 c3 vf h0 n0) Bd.notSynchronized ?_
  refine Goes.cast (g2 := mkF m 0 #[rv a1, iv 0, iv 1, .unset] []) (by first | (simp [entryFrame, mkF, argsToLocals, Value.category]; done) | rfl) ?_
  have K0 : Keep h0 h0 [] := Keep.refl h0 _
  have hws : ∀ x ∈ ([] : List Addr), n0 ≤ x := all0
  refine Goes.step (T2 := s₁) (g2 := (mkF m 1 #[rv a1, iv 0, iv 1, .unset] [(.int (0 : Int32))])) (fun _ hr => XS.iloadN X0.here hx rfl (hb hby d18_0) rfl  hr) ?_
  refine Goes.step (T2 := s₁) (g2 := (mkF m 2 #[rv a1, iv 0, iv 1, iv 0] [])) (fun _ hr => XS.istoreN X0.here hx rfl (hb hby d18_1) rfl (l' := #[rv a1, iv 0, iv 1, iv 0]) rfl hr) ?_
  refine Goes.step (T2 := s₁) (g2 := (mkF m 3 #[rv a1, iv 0, iv 1, iv 0] [(.int (0 : Int32))])) (fun _ hr => XS.iloadN X0.here hx rfl (hb hby d18_2) rfl  hr) ?_
  refine Goes.step (T2 := s₁) (g2 := (mkF m 4 #[rv a1, iv 0, iv 1, iv 0] [(.int (1 : Int32)), (.int (0 : Int32))])) (fun _ hr => XS.iloadN X0.here hx rfl (hb hby d18_3) rfl  hr) ?_
  refine Goes.step (T2 := s₁) (g2 := (mkF m 7 #[rv a1, iv 0, iv 1, iv 0] [])) (fun _ hr => XS.icmpNo X0.here hx rfl (hb hby d18_4) rfl (tlt (by decide : (0 : Int32) < (1 : Int32))).2.1 hr) ?_
  refine Goes.step (T2 := s₁) (g2 := (mkF m 8 #[rv a1, iv 0, iv 1, iv 0] [(.ref a1)])) (fun _ hr => XS.aloadN X0.here hx rfl (hb hby d18_7) rfl rfl hr) ?_
  refine Goes.step (T2 := s₁) (g2 := (mkF m 9 #[rv a1, iv 0, iv 1, iv 0] [(.int (0 : Int32)), (.ref a1)])) (fun _ hr => XS.iloadN X0.here hx rfl (hb hby d18_8) rfl  hr) ?_
  have Zs274 : n0 ≤ h0.size := Nat.le_trans Z0 K0.1
  obtain ⟨cq275, kq275, q275a, q275b, q275c⟩ := isOf hZ e0 E_a1
  obtain ⟨_, _, ⟨T275, L275, k275, n275⟩, -, X275, ⟨Lc275, hQ275, l275, y275, z275⟩, st275⟩ := X0.virtualBack hx (y := Y17) (z := Y17) hown (mvT hZ (tw hw 59 rfl)) (mvT hZ (tw hw 60 rfl)) (notFace_of_selects (args := #[]) (mvT hZ (tw hw 62 rfl))) (mvT hZ (tw hw 62 rfl)) (mvT hZ (tw hw 61 rfl)) (by decide) (backOf (W := 0) (rm_cat0 l Z a0 hw [] a1 cs c0 c1 c2 c3 vf h0 n0 Zs274 (Old.keep O0 K0 hws) E_a1 S0 S_String_COMPACT_STRINGS_old S_Preconditions_SIOOBE_FORMATTER_old S_StringUTF16__assertionsDisabled_old S_StringUTF16_HI_BYTE_SHIFT_old S_StringUTF16_LO_BYTE_SHIFT_old hcs hvf hb0) hZ (tw hw 63 rfl) (tw hw 5 rfl) (by decide) (by decide)) q275a q275c (g := (mkF m 9 #[rv a1, iv 0, iv 1, iv 0] [(.int (0 : Int32)), (.ref a1)])) rfl (by rw [hml]; rfl) (Steps.refl _) (argsL := [(.int (0 : Int32))]) (rest := []) (lenOf pd_13 rfl) rfl (by show 2 * 0 + _ ≤ _; exact Nat.le_of_eq rfl) (hb hby d18_9) (fun _ _ => ⟨rfl, e0, (by decide : 0 + 0 ≤ _), (by decide : 0 + 0 ≤ _)⟩)
  dsimp only [Pt.U, Pt.locs, Pt.cells, Pt.slots] at X275 l275 y275 z275 st275 hQ275
  subst l275 y275 z275
  obtain ⟨rfl, N275q, e275⟩ := hQ275
  have N275 := Fr.app N0 N275q
  refine Goes.step (T2 := T275) (g2 := (mkF m 12 #[rv a1, iv 0, iv 1, iv 0] [(.int c0)])) (fun _ hr => st275.trans hr) ?_
  refine Goes.step (T2 := T275) (g2 := (mkF m 14 #[rv a1, iv 0, iv 1, iv 0] [(.int (48 : Int32)), (.int c0)])) (fun _ hr => XS.bipush X275.here hx rfl (hb hby d18_12) hr) ?_
  by_cases hc14_276 : c0 < (48 : Int32)
  · refine Goes.step (T2 := T275) (g2 := (mkF m 27 #[rv a1, iv 0, iv 1, iv 0] [])) (fun _ hr => XS.icmpYes X275.here hx rfl (pc0 := 14) (pc' := 27) rfl (hb hby d18_14) rfl (tlt hc14_276).1 (by decide) (by decide) hr) ?_
    refine Goes.step (T2 := T275) (g2 := (mkF m 28 #[rv a1, iv 0, iv 1, iv 0] [(.int (0 : Int32))])) (fun _ hr => XS.iconst X275.here hx rfl (hb hby d18_27) hr) ?_
    exact Goes.ret (v := some (.int (0 : Int32))) X275 (by decide) (by decide) (fun h => by rw [Bd.returns] at h; cases h) ⟨by rw [show allD [c0] = (0 : Int32) from (allD_no (dg_lo hc14_276))], N275, e275⟩ (fun fs hr => retN X275 hx (t := .boolean) Bd.returns (by simp) (hb hby d18_28) hr)
  · refine Goes.step (T2 := T275) (g2 := (mkF m 17 #[rv a1, iv 0, iv 1, iv 0] [])) (fun _ hr => XS.icmpNo X275.here hx rfl (hb hby d18_14) rfl (flt hc14_276).1 hr) ?_
    refine Goes.step (T2 := T275) (g2 := (mkF m 18 #[rv a1, iv 0, iv 1, iv 0] [(.ref a1)])) (fun _ hr => XS.aloadN X275.here hx rfl (hb hby d18_17) rfl rfl hr) ?_
    refine Goes.step (T2 := T275) (g2 := (mkF m 19 #[rv a1, iv 0, iv 1, iv 0] [(.int (0 : Int32)), (.ref a1)])) (fun _ hr => XS.iloadN X275.here hx rfl (hb hby d18_18) rfl  hr) ?_
    have Zs277 : n0 ≤ h0.size := Nat.le_trans Z0 K0.1
    obtain ⟨cq278, kq278, q278a, q278b, q278c⟩ := isOf hZ e275 E_a1
    obtain ⟨_, _, ⟨T278, L278, k278, n278⟩, -, X278, ⟨Lc278, hQ278, l278, y278, z278⟩, st278⟩ := X275.virtualBack hx (y := Y17) (z := Y17) hown (mvT hZ (tw hw 59 rfl)) (mvT hZ (tw hw 60 rfl)) (notFace_of_selects (args := #[]) (mvT hZ (tw hw 62 rfl))) (mvT hZ (tw hw 62 rfl)) (mvT hZ (tw hw 61 rfl)) (by decide) (backOf (W := 0) (rm_cat0 l Z a0 hw [] a1 cs c0 c1 c2 c3 vf h0 n0 Zs277 (Old.keep O0 K0 hws) E_a1 S0 S_String_COMPACT_STRINGS_old S_Preconditions_SIOOBE_FORMATTER_old S_StringUTF16__assertionsDisabled_old S_StringUTF16_HI_BYTE_SHIFT_old S_StringUTF16_LO_BYTE_SHIFT_old hcs hvf hb0) hZ (tw hw 63 rfl) (tw hw 5 rfl) (by decide) (by decide)) q278a q278c (g := (mkF m 19 #[rv a1, iv 0, iv 1, iv 0] [(.int (0 : Int32)), (.ref a1)])) rfl (by rw [hml]; rfl) (Steps.refl _) (argsL := [(.int (0 : Int32))]) (rest := []) (lenOf pd_13 rfl) rfl (by show 2 * 0 + _ ≤ _; exact Nat.le_of_eq rfl) (hb hby d18_19) (fun _ _ => ⟨rfl, e275, (by decide : 0 + 0 ≤ _), (by decide : 0 + 0 ≤ _)⟩)
    dsimp only [Pt.U, Pt.locs, Pt.cells, Pt.slots] at X278 l278 y278 z278 st278 hQ278
    subst l278 y278 z278
    obtain ⟨rfl, N278q, e278⟩ := hQ278
    have N278 := Fr.app N275 N278q
    refine Goes.step (T2 := T278) (g2 := (mkF m 22 #[rv a1, iv 0, iv 1, iv 0] [(.int c0)])) (fun _ hr => st278.trans hr) ?_
    refine Goes.step (T2 := T278) (g2 := (mkF m 24 #[rv a1, iv 0, iv 1, iv 0] [(.int (57 : Int32)), (.int c0)])) (fun _ hr => XS.bipush X278.here hx rfl (hb hby d18_22) hr) ?_
    by_cases hc24_279 : (57 : Int32) < c0
    · refine Goes.step (T2 := T278) (g2 := (mkF m 27 #[rv a1, iv 0, iv 1, iv 0] [])) (fun _ hr => XS.icmpNo X278.here hx rfl (hb hby d18_24) rfl (tlt hc24_279).2.2.2 hr) ?_
      refine Goes.step (T2 := T278) (g2 := (mkF m 28 #[rv a1, iv 0, iv 1, iv 0] [(.int (0 : Int32))])) (fun _ hr => XS.iconst X278.here hx rfl (hb hby d18_27) hr) ?_
      exact Goes.ret (v := some (.int (0 : Int32))) X278 (by decide) (by decide) (fun h => by rw [Bd.returns] at h; cases h) ⟨by rw [show allD [c0] = (0 : Int32) from (allD_no (dg_hi hc24_279))], N278, e278⟩ (fun fs hr => retN X278 hx (t := .boolean) Bd.returns (by simp) (hb hby d18_28) hr)
    · refine Goes.step (T2 := T278) (g2 := (mkF m 29 #[rv a1, iv 0, iv 1, iv 0] [])) (fun _ hr => XS.icmpYes X278.here hx rfl (pc0 := 24) (pc' := 29) rfl (hb hby d18_24) rfl (flt hc24_279).2.2.2 (by decide) (by decide) hr) ?_
      refine Goes.step (T2 := T278) (g2 := (mkF m 32 #[rv a1, iv 0, iv 1, iv 1] [])) (fun _ hr => XS.iinc X278.here hx rfl (hb hby d18_29) rfl (l' := #[rv a1, iv 0, iv 1, iv 1]) rfl hr) ?_
      refine Goes.step (T2 := T278) (g2 := (mkF m 2 #[rv a1, iv 0, iv 1, iv 1] [])) (fun _ hr => XS.goto X278.here hx rfl (pc0 := 32) (pc' := 2) rfl (hb hby d18_32) (by decide) (by decide) hr) ?_
      refine Goes.step (T2 := T278) (g2 := (mkF m 3 #[rv a1, iv 0, iv 1, iv 1] [(.int (1 : Int32))])) (fun _ hr => XS.iloadN X278.here hx rfl (hb hby d18_2) rfl  hr) ?_
      refine Goes.step (T2 := T278) (g2 := (mkF m 4 #[rv a1, iv 0, iv 1, iv 1] [(.int (1 : Int32)), (.int (1 : Int32))])) (fun _ hr => XS.iloadN X278.here hx rfl (hb hby d18_3) rfl  hr) ?_
      refine Goes.step (T2 := T278) (g2 := (mkF m 35 #[rv a1, iv 0, iv 1, iv 1] [])) (fun _ hr => XS.icmpYes X278.here hx rfl (pc0 := 4) (pc' := 35) rfl (hb hby d18_4) rfl (flt (by decide : ¬ ((1 : Int32) < (1 : Int32)))).2.1 (by decide) (by decide) hr) ?_
      refine Goes.step (T2 := T278) (g2 := (mkF m 36 #[rv a1, iv 0, iv 1, iv 1] [(.int (1 : Int32))])) (fun _ hr => XS.iconst X278.here hx rfl (hb hby d18_35) hr) ?_
      exact Goes.ret (v := some (.int (1 : Int32))) X278 (by decide) (by decide) (fun h => by rw [Bd.returns] at h; cases h) ⟨by rw [show allD [c0] = (1 : Int32) from (allD_go (dg_yes hc14_276 hc24_279) rfl)], N278, e278⟩ (fun fs hr => retN X278 hx (t := .boolean) Bd.returns (by simp) (hb hby d18_36) hr)
def Q_rm_ad02 (Z : State) (a1 : Addr) (cs : Int32) (c0 : Int32) (c1 : Int32) (c2 : Int32) (c3 : Int32) (vf : Value) (h0 : Heap) (n0 : Nat) (v : Option Value) (h : Heap) (L : List Loc) : Prop := v = some (.int (allD [c0, c1])) ∧ Fr n0 L ∧ h = h0
set_option maxRecDepth 65536 in
set_option maxHeartbeats 40000000 in
theorem rm_ad02 (l : Launch) (Z : State) (a0 : Array Value) (hw : ∀ d ∈ tables_1, d.before a0 Z = true) (ws : List Jvm.Cond) (a1 : Addr) (cs : Int32) (c0 : Int32) (c1 : Int32) (c2 : Int32) (c3 : Int32) (vf : Value) (h0 : Heap) (n0 : Nat) (Z0 : n0 ≤ h0.size) (O0 : Old Z n0 h0) (E_a1 : Exa Z h0 a1 "java/lang/String") (S_String_COMPACT_STRINGS_old : Sta Z Z.heap "java/lang/String" "COMPACT_STRINGS" "Z" (.int cs)) (S_Preconditions_SIOOBE_FORMATTER_old : Sta Z Z.heap "jdk/internal/util/Preconditions" "SIOOBE_FORMATTER" "Ljava/util/function/BiFunction;" vf) (S_StringUTF16__assertionsDisabled_old : Sta Z Z.heap "java/lang/StringUTF16" "$assertionsDisabled" "Z" (.int (1 : Int32))) (S_StringUTF16_HI_BYTE_SHIFT_old : Sta Z Z.heap "java/lang/StringUTF16" "HI_BYTE_SHIFT" "I" (.int (0 : Int32))) (S_StringUTF16_LO_BYTE_SHIFT_old : Sta Z Z.heap "java/lang/StringUTF16" "LO_BYTE_SHIFT" "I" (.int (8 : Int32))) (hcs : ¬ (cs = (0 : Int32))) (hvf : vf.isRef = true) (hb0 : B16 c0) (hb1 : B16 c1) (hb2 : B16 c2) (hb3 : B16 c3) (S0 : Sch Z h0 a1 c0 c1 c2 c3) :
    MetFree l Y18 (head1 (Jvm.Cond.code Y18 prog_32_method_41_code 4 (some .boolean) :: ws) ({ frames := 6, cells := 0, slots := 0, locals := 110 } : Room)) (fun a U => a = #[(.ref a1), (.int (0 : Int32)), (.int (2 : Int32))] ∧ Z.Warmed39 U.vm ∧ U.heap = h0) (fun _ _ _ _ _ => True) (fun _ U o U' => ∃ v L, o = .returned v ∧ Q_rm_ad02 Z a1 cs c0 c1 c2 c3 vf h0 n0 v U'.heap L ∧ FrameEnd U o U' L ({ frames := 6, cells := 0, slots := 0, locals := 110 } : Room).cells ({ frames := 6, cells := 0, slots := 0, locals := 110 } : Room).slots) := by
  refine MetFree.of_bodySF (plainFor_of_name pn_com_example_api_policy_gateway_apipolicygateway_proxy_HeaderFields) hisR ?_
  intro p e s m args below meth c s₁ Bd hml0 hP hK
  obtain ⟨rfl, hZ, hh⟩ := hP
  have hx := Bd.exec
  have hby := Bd.bytes
  have hml : c.maxLocals = 4 := hml0
  have hown : s.vm.findClass "com/example/api_policy_gateway/apipolicygateway/proxy/HeaderFields" = some m.cls := findClass_of_methodNamed Bd.named
  have hnm := (name_of_methodNamed Bd.named Bd.method).1
  have X0 : Stand p l e ({ frames := 6, cells := 0, slots := 0, locals := 110 } : Room) s m #[(.ref a1), (.int (0 : Int32)), (.int (2 : Int32))] below meth c s₁ [] 0 0 := Stand.of_body Bd
  have e0 : s₁.heap = h0 := by rw [← hh, Bd.state]; rfl
  have N0 := Fr.nil n0
  refine Goes.out (l := l) (c := c) (R := ({ frames := 6, cells := 0, slots := 0, locals := 110 } : Room)) (Q := Q_rm_ad02 Z a1 cs c0 c1 c2 c3 vf h0 n0) Bd.notSynchronized ?_
  refine Goes.cast (g2 := mkF m 0 #[rv a1, iv 0, iv 2, .unset] []) (by first | (simp [entryFrame, mkF, argsToLocals, Value.category]; done) | rfl) ?_
  have K0 : Keep h0 h0 [] := Keep.refl h0 _
  have hws : ∀ x ∈ ([] : List Addr), n0 ≤ x := all0
  refine Goes.step (T2 := s₁) (g2 := (mkF m 1 #[rv a1, iv 0, iv 2, .unset] [(.int (0 : Int32))])) (fun _ hr => XS.iloadN X0.here hx rfl (hb hby d18_0) rfl  hr) ?_
  refine Goes.step (T2 := s₁) (g2 := (mkF m 2 #[rv a1, iv 0, iv 2, iv 0] [])) (fun _ hr => XS.istoreN X0.here hx rfl (hb hby d18_1) rfl (l' := #[rv a1, iv 0, iv 2, iv 0]) rfl hr) ?_
  refine Goes.step (T2 := s₁) (g2 := (mkF m 3 #[rv a1, iv 0, iv 2, iv 0] [(.int (0 : Int32))])) (fun _ hr => XS.iloadN X0.here hx rfl (hb hby d18_2) rfl  hr) ?_
  refine Goes.step (T2 := s₁) (g2 := (mkF m 4 #[rv a1, iv 0, iv 2, iv 0] [(.int (2 : Int32)), (.int (0 : Int32))])) (fun _ hr => XS.iloadN X0.here hx rfl (hb hby d18_3) rfl  hr) ?_
  refine Goes.step (T2 := s₁) (g2 := (mkF m 7 #[rv a1, iv 0, iv 2, iv 0] [])) (fun _ hr => XS.icmpNo X0.here hx rfl (hb hby d18_4) rfl (tlt (by decide : (0 : Int32) < (2 : Int32))).2.1 hr) ?_
  refine Goes.step (T2 := s₁) (g2 := (mkF m 8 #[rv a1, iv 0, iv 2, iv 0] [(.ref a1)])) (fun _ hr => XS.aloadN X0.here hx rfl (hb hby d18_7) rfl rfl hr) ?_
  refine Goes.step (T2 := s₁) (g2 := (mkF m 9 #[rv a1, iv 0, iv 2, iv 0] [(.int (0 : Int32)), (.ref a1)])) (fun _ hr => XS.iloadN X0.here hx rfl (hb hby d18_8) rfl  hr) ?_
  have Zs280 : n0 ≤ h0.size := Nat.le_trans Z0 K0.1
  obtain ⟨cq281, kq281, q281a, q281b, q281c⟩ := isOf hZ e0 E_a1
  obtain ⟨_, _, ⟨T281, L281, k281, n281⟩, -, X281, ⟨Lc281, hQ281, l281, y281, z281⟩, st281⟩ := X0.virtualBack hx (y := Y17) (z := Y17) hown (mvT hZ (tw hw 59 rfl)) (mvT hZ (tw hw 60 rfl)) (notFace_of_selects (args := #[]) (mvT hZ (tw hw 62 rfl))) (mvT hZ (tw hw 62 rfl)) (mvT hZ (tw hw 61 rfl)) (by decide) (backOf (W := 0) (rm_cat0 l Z a0 hw [] a1 cs c0 c1 c2 c3 vf h0 n0 Zs280 (Old.keep O0 K0 hws) E_a1 S0 S_String_COMPACT_STRINGS_old S_Preconditions_SIOOBE_FORMATTER_old S_StringUTF16__assertionsDisabled_old S_StringUTF16_HI_BYTE_SHIFT_old S_StringUTF16_LO_BYTE_SHIFT_old hcs hvf hb0) hZ (tw hw 63 rfl) (tw hw 5 rfl) (by decide) (by decide)) q281a q281c (g := (mkF m 9 #[rv a1, iv 0, iv 2, iv 0] [(.int (0 : Int32)), (.ref a1)])) rfl (by rw [hml]; rfl) (Steps.refl _) (argsL := [(.int (0 : Int32))]) (rest := []) (lenOf pd_13 rfl) rfl (by show 2 * 0 + _ ≤ _; exact Nat.le_of_eq rfl) (hb hby d18_9) (fun _ _ => ⟨rfl, e0, (by decide : 0 + 0 ≤ _), (by decide : 0 + 0 ≤ _)⟩)
  dsimp only [Pt.U, Pt.locs, Pt.cells, Pt.slots] at X281 l281 y281 z281 st281 hQ281
  subst l281 y281 z281
  obtain ⟨rfl, N281q, e281⟩ := hQ281
  have N281 := Fr.app N0 N281q
  refine Goes.step (T2 := T281) (g2 := (mkF m 12 #[rv a1, iv 0, iv 2, iv 0] [(.int c0)])) (fun _ hr => st281.trans hr) ?_
  refine Goes.step (T2 := T281) (g2 := (mkF m 14 #[rv a1, iv 0, iv 2, iv 0] [(.int (48 : Int32)), (.int c0)])) (fun _ hr => XS.bipush X281.here hx rfl (hb hby d18_12) hr) ?_
  by_cases hc14_282 : c0 < (48 : Int32)
  · refine Goes.step (T2 := T281) (g2 := (mkF m 27 #[rv a1, iv 0, iv 2, iv 0] [])) (fun _ hr => XS.icmpYes X281.here hx rfl (pc0 := 14) (pc' := 27) rfl (hb hby d18_14) rfl (tlt hc14_282).1 (by decide) (by decide) hr) ?_
    refine Goes.step (T2 := T281) (g2 := (mkF m 28 #[rv a1, iv 0, iv 2, iv 0] [(.int (0 : Int32))])) (fun _ hr => XS.iconst X281.here hx rfl (hb hby d18_27) hr) ?_
    exact Goes.ret (v := some (.int (0 : Int32))) X281 (by decide) (by decide) (fun h => by rw [Bd.returns] at h; cases h) ⟨by rw [show allD [c0, c1] = (0 : Int32) from (allD_no (dg_lo hc14_282))], N281, e281⟩ (fun fs hr => retN X281 hx (t := .boolean) Bd.returns (by simp) (hb hby d18_28) hr)
  · refine Goes.step (T2 := T281) (g2 := (mkF m 17 #[rv a1, iv 0, iv 2, iv 0] [])) (fun _ hr => XS.icmpNo X281.here hx rfl (hb hby d18_14) rfl (flt hc14_282).1 hr) ?_
    refine Goes.step (T2 := T281) (g2 := (mkF m 18 #[rv a1, iv 0, iv 2, iv 0] [(.ref a1)])) (fun _ hr => XS.aloadN X281.here hx rfl (hb hby d18_17) rfl rfl hr) ?_
    refine Goes.step (T2 := T281) (g2 := (mkF m 19 #[rv a1, iv 0, iv 2, iv 0] [(.int (0 : Int32)), (.ref a1)])) (fun _ hr => XS.iloadN X281.here hx rfl (hb hby d18_18) rfl  hr) ?_
    have Zs283 : n0 ≤ h0.size := Nat.le_trans Z0 K0.1
    obtain ⟨cq284, kq284, q284a, q284b, q284c⟩ := isOf hZ e281 E_a1
    obtain ⟨_, _, ⟨T284, L284, k284, n284⟩, -, X284, ⟨Lc284, hQ284, l284, y284, z284⟩, st284⟩ := X281.virtualBack hx (y := Y17) (z := Y17) hown (mvT hZ (tw hw 59 rfl)) (mvT hZ (tw hw 60 rfl)) (notFace_of_selects (args := #[]) (mvT hZ (tw hw 62 rfl))) (mvT hZ (tw hw 62 rfl)) (mvT hZ (tw hw 61 rfl)) (by decide) (backOf (W := 0) (rm_cat0 l Z a0 hw [] a1 cs c0 c1 c2 c3 vf h0 n0 Zs283 (Old.keep O0 K0 hws) E_a1 S0 S_String_COMPACT_STRINGS_old S_Preconditions_SIOOBE_FORMATTER_old S_StringUTF16__assertionsDisabled_old S_StringUTF16_HI_BYTE_SHIFT_old S_StringUTF16_LO_BYTE_SHIFT_old hcs hvf hb0) hZ (tw hw 63 rfl) (tw hw 5 rfl) (by decide) (by decide)) q284a q284c (g := (mkF m 19 #[rv a1, iv 0, iv 2, iv 0] [(.int (0 : Int32)), (.ref a1)])) rfl (by rw [hml]; rfl) (Steps.refl _) (argsL := [(.int (0 : Int32))]) (rest := []) (lenOf pd_13 rfl) rfl (by show 2 * 0 + _ ≤ _; exact Nat.le_of_eq rfl) (hb hby d18_19) (fun _ _ => ⟨rfl, e281, (by decide : 0 + 0 ≤ _), (by decide : 0 + 0 ≤ _)⟩)
    dsimp only [Pt.U, Pt.locs, Pt.cells, Pt.slots] at X284 l284 y284 z284 st284 hQ284
    subst l284 y284 z284
    obtain ⟨rfl, N284q, e284⟩ := hQ284
    have N284 := Fr.app N281 N284q
    refine Goes.step (T2 := T284) (g2 := (mkF m 22 #[rv a1, iv 0, iv 2, iv 0] [(.int c0)])) (fun _ hr => st284.trans hr) ?_
    refine Goes.step (T2 := T284) (g2 := (mkF m 24 #[rv a1, iv 0, iv 2, iv 0] [(.int (57 : Int32)), (.int c0)])) (fun _ hr => XS.bipush X284.here hx rfl (hb hby d18_22) hr) ?_
    by_cases hc24_285 : (57 : Int32) < c0
    · refine Goes.step (T2 := T284) (g2 := (mkF m 27 #[rv a1, iv 0, iv 2, iv 0] [])) (fun _ hr => XS.icmpNo X284.here hx rfl (hb hby d18_24) rfl (tlt hc24_285).2.2.2 hr) ?_
      refine Goes.step (T2 := T284) (g2 := (mkF m 28 #[rv a1, iv 0, iv 2, iv 0] [(.int (0 : Int32))])) (fun _ hr => XS.iconst X284.here hx rfl (hb hby d18_27) hr) ?_
      exact Goes.ret (v := some (.int (0 : Int32))) X284 (by decide) (by decide) (fun h => by rw [Bd.returns] at h; cases h) ⟨by rw [show allD [c0, c1] = (0 : Int32) from (allD_no (dg_hi hc24_285))], N284, e284⟩ (fun fs hr => retN X284 hx (t := .boolean) Bd.returns (by simp) (hb hby d18_28) hr)
    · refine Goes.step (T2 := T284) (g2 := (mkF m 29 #[rv a1, iv 0, iv 2, iv 0] [])) (fun _ hr => XS.icmpYes X284.here hx rfl (pc0 := 24) (pc' := 29) rfl (hb hby d18_24) rfl (flt hc24_285).2.2.2 (by decide) (by decide) hr) ?_
      refine Goes.step (T2 := T284) (g2 := (mkF m 32 #[rv a1, iv 0, iv 2, iv 1] [])) (fun _ hr => XS.iinc X284.here hx rfl (hb hby d18_29) rfl (l' := #[rv a1, iv 0, iv 2, iv 1]) rfl hr) ?_
      refine Goes.step (T2 := T284) (g2 := (mkF m 2 #[rv a1, iv 0, iv 2, iv 1] [])) (fun _ hr => XS.goto X284.here hx rfl (pc0 := 32) (pc' := 2) rfl (hb hby d18_32) (by decide) (by decide) hr) ?_
      refine Goes.step (T2 := T284) (g2 := (mkF m 3 #[rv a1, iv 0, iv 2, iv 1] [(.int (1 : Int32))])) (fun _ hr => XS.iloadN X284.here hx rfl (hb hby d18_2) rfl  hr) ?_
      refine Goes.step (T2 := T284) (g2 := (mkF m 4 #[rv a1, iv 0, iv 2, iv 1] [(.int (2 : Int32)), (.int (1 : Int32))])) (fun _ hr => XS.iloadN X284.here hx rfl (hb hby d18_3) rfl  hr) ?_
      refine Goes.step (T2 := T284) (g2 := (mkF m 7 #[rv a1, iv 0, iv 2, iv 1] [])) (fun _ hr => XS.icmpNo X284.here hx rfl (hb hby d18_4) rfl (tlt (by decide : (1 : Int32) < (2 : Int32))).2.1 hr) ?_
      refine Goes.step (T2 := T284) (g2 := (mkF m 8 #[rv a1, iv 0, iv 2, iv 1] [(.ref a1)])) (fun _ hr => XS.aloadN X284.here hx rfl (hb hby d18_7) rfl rfl hr) ?_
      refine Goes.step (T2 := T284) (g2 := (mkF m 9 #[rv a1, iv 0, iv 2, iv 1] [(.int (1 : Int32)), (.ref a1)])) (fun _ hr => XS.iloadN X284.here hx rfl (hb hby d18_8) rfl  hr) ?_
      have Zs286 : n0 ≤ h0.size := Nat.le_trans Z0 K0.1
      obtain ⟨cq287, kq287, q287a, q287b, q287c⟩ := isOf hZ e284 E_a1
      obtain ⟨_, _, ⟨T287, L287, k287, n287⟩, -, X287, ⟨Lc287, hQ287, l287, y287, z287⟩, st287⟩ := X284.virtualBack hx (y := Y17) (z := Y17) hown (mvT hZ (tw hw 59 rfl)) (mvT hZ (tw hw 60 rfl)) (notFace_of_selects (args := #[]) (mvT hZ (tw hw 62 rfl))) (mvT hZ (tw hw 62 rfl)) (mvT hZ (tw hw 61 rfl)) (by decide) (backOf (W := 0) (rm_cat1 l Z a0 hw [] a1 cs c0 c1 c2 c3 vf h0 n0 Zs286 (Old.keep O0 K0 hws) E_a1 S0 S_String_COMPACT_STRINGS_old S_Preconditions_SIOOBE_FORMATTER_old S_StringUTF16__assertionsDisabled_old S_StringUTF16_HI_BYTE_SHIFT_old S_StringUTF16_LO_BYTE_SHIFT_old hcs hvf hb1) hZ (tw hw 63 rfl) (tw hw 5 rfl) (by decide) (by decide)) q287a q287c (g := (mkF m 9 #[rv a1, iv 0, iv 2, iv 1] [(.int (1 : Int32)), (.ref a1)])) rfl (by rw [hml]; rfl) (Steps.refl _) (argsL := [(.int (1 : Int32))]) (rest := []) (lenOf pd_13 rfl) rfl (by show 2 * 0 + _ ≤ _; exact Nat.le_of_eq rfl) (hb hby d18_9) (fun _ _ => ⟨rfl, e284, (by decide : 0 + 0 ≤ _), (by decide : 0 + 0 ≤ _)⟩)
      dsimp only [Pt.U, Pt.locs, Pt.cells, Pt.slots] at X287 l287 y287 z287 st287 hQ287
      subst l287 y287 z287
      obtain ⟨rfl, N287q, e287⟩ := hQ287
      have N287 := Fr.app N284 N287q
      refine Goes.step (T2 := T287) (g2 := (mkF m 12 #[rv a1, iv 0, iv 2, iv 1] [(.int c1)])) (fun _ hr => st287.trans hr) ?_
      refine Goes.step (T2 := T287) (g2 := (mkF m 14 #[rv a1, iv 0, iv 2, iv 1] [(.int (48 : Int32)), (.int c1)])) (fun _ hr => XS.bipush X287.here hx rfl (hb hby d18_12) hr) ?_
      by_cases hc14_288 : c1 < (48 : Int32)
      · refine Goes.step (T2 := T287) (g2 := (mkF m 27 #[rv a1, iv 0, iv 2, iv 1] [])) (fun _ hr => XS.icmpYes X287.here hx rfl (pc0 := 14) (pc' := 27) rfl (hb hby d18_14) rfl (tlt hc14_288).1 (by decide) (by decide) hr) ?_
        refine Goes.step (T2 := T287) (g2 := (mkF m 28 #[rv a1, iv 0, iv 2, iv 1] [(.int (0 : Int32))])) (fun _ hr => XS.iconst X287.here hx rfl (hb hby d18_27) hr) ?_
        exact Goes.ret (v := some (.int (0 : Int32))) X287 (by decide) (by decide) (fun h => by rw [Bd.returns] at h; cases h) ⟨by rw [show allD [c0, c1] = (0 : Int32) from (allD_go (dg_yes hc14_282 hc24_285) (allD_no (dg_lo hc14_288)))], N287, e287⟩ (fun fs hr => retN X287 hx (t := .boolean) Bd.returns (by simp) (hb hby d18_28) hr)
      · refine Goes.step (T2 := T287) (g2 := (mkF m 17 #[rv a1, iv 0, iv 2, iv 1] [])) (fun _ hr => XS.icmpNo X287.here hx rfl (hb hby d18_14) rfl (flt hc14_288).1 hr) ?_
        refine Goes.step (T2 := T287) (g2 := (mkF m 18 #[rv a1, iv 0, iv 2, iv 1] [(.ref a1)])) (fun _ hr => XS.aloadN X287.here hx rfl (hb hby d18_17) rfl rfl hr) ?_
        refine Goes.step (T2 := T287) (g2 := (mkF m 19 #[rv a1, iv 0, iv 2, iv 1] [(.int (1 : Int32)), (.ref a1)])) (fun _ hr => XS.iloadN X287.here hx rfl (hb hby d18_18) rfl  hr) ?_
        have Zs289 : n0 ≤ h0.size := Nat.le_trans Z0 K0.1
        obtain ⟨cq290, kq290, q290a, q290b, q290c⟩ := isOf hZ e287 E_a1
        obtain ⟨_, _, ⟨T290, L290, k290, n290⟩, -, X290, ⟨Lc290, hQ290, l290, y290, z290⟩, st290⟩ := X287.virtualBack hx (y := Y17) (z := Y17) hown (mvT hZ (tw hw 59 rfl)) (mvT hZ (tw hw 60 rfl)) (notFace_of_selects (args := #[]) (mvT hZ (tw hw 62 rfl))) (mvT hZ (tw hw 62 rfl)) (mvT hZ (tw hw 61 rfl)) (by decide) (backOf (W := 0) (rm_cat1 l Z a0 hw [] a1 cs c0 c1 c2 c3 vf h0 n0 Zs289 (Old.keep O0 K0 hws) E_a1 S0 S_String_COMPACT_STRINGS_old S_Preconditions_SIOOBE_FORMATTER_old S_StringUTF16__assertionsDisabled_old S_StringUTF16_HI_BYTE_SHIFT_old S_StringUTF16_LO_BYTE_SHIFT_old hcs hvf hb1) hZ (tw hw 63 rfl) (tw hw 5 rfl) (by decide) (by decide)) q290a q290c (g := (mkF m 19 #[rv a1, iv 0, iv 2, iv 1] [(.int (1 : Int32)), (.ref a1)])) rfl (by rw [hml]; rfl) (Steps.refl _) (argsL := [(.int (1 : Int32))]) (rest := []) (lenOf pd_13 rfl) rfl (by show 2 * 0 + _ ≤ _; exact Nat.le_of_eq rfl) (hb hby d18_19) (fun _ _ => ⟨rfl, e287, (by decide : 0 + 0 ≤ _), (by decide : 0 + 0 ≤ _)⟩)
        dsimp only [Pt.U, Pt.locs, Pt.cells, Pt.slots] at X290 l290 y290 z290 st290 hQ290
        subst l290 y290 z290
        obtain ⟨rfl, N290q, e290⟩ := hQ290
        have N290 := Fr.app N287 N290q
        refine Goes.step (T2 := T290) (g2 := (mkF m 22 #[rv a1, iv 0, iv 2, iv 1] [(.int c1)])) (fun _ hr => st290.trans hr) ?_
        refine Goes.step (T2 := T290) (g2 := (mkF m 24 #[rv a1, iv 0, iv 2, iv 1] [(.int (57 : Int32)), (.int c1)])) (fun _ hr => XS.bipush X290.here hx rfl (hb hby d18_22) hr) ?_
        by_cases hc24_291 : (57 : Int32) < c1
        · refine Goes.step (T2 := T290) (g2 := (mkF m 27 #[rv a1, iv 0, iv 2, iv 1] [])) (fun _ hr => XS.icmpNo X290.here hx rfl (hb hby d18_24) rfl (tlt hc24_291).2.2.2 hr) ?_
          refine Goes.step (T2 := T290) (g2 := (mkF m 28 #[rv a1, iv 0, iv 2, iv 1] [(.int (0 : Int32))])) (fun _ hr => XS.iconst X290.here hx rfl (hb hby d18_27) hr) ?_
          exact Goes.ret (v := some (.int (0 : Int32))) X290 (by decide) (by decide) (fun h => by rw [Bd.returns] at h; cases h) ⟨by rw [show allD [c0, c1] = (0 : Int32) from (allD_go (dg_yes hc14_282 hc24_285) (allD_no (dg_hi hc24_291)))], N290, e290⟩ (fun fs hr => retN X290 hx (t := .boolean) Bd.returns (by simp) (hb hby d18_28) hr)
        · refine Goes.step (T2 := T290) (g2 := (mkF m 29 #[rv a1, iv 0, iv 2, iv 1] [])) (fun _ hr => XS.icmpYes X290.here hx rfl (pc0 := 24) (pc' := 29) rfl (hb hby d18_24) rfl (flt hc24_291).2.2.2 (by decide) (by decide) hr) ?_
          refine Goes.step (T2 := T290) (g2 := (mkF m 32 #[rv a1, iv 0, iv 2, iv 2] [])) (fun _ hr => XS.iinc X290.here hx rfl (hb hby d18_29) rfl (l' := #[rv a1, iv 0, iv 2, iv 2]) rfl hr) ?_
          refine Goes.step (T2 := T290) (g2 := (mkF m 2 #[rv a1, iv 0, iv 2, iv 2] [])) (fun _ hr => XS.goto X290.here hx rfl (pc0 := 32) (pc' := 2) rfl (hb hby d18_32) (by decide) (by decide) hr) ?_
          refine Goes.step (T2 := T290) (g2 := (mkF m 3 #[rv a1, iv 0, iv 2, iv 2] [(.int (2 : Int32))])) (fun _ hr => XS.iloadN X290.here hx rfl (hb hby d18_2) rfl  hr) ?_
          refine Goes.step (T2 := T290) (g2 := (mkF m 4 #[rv a1, iv 0, iv 2, iv 2] [(.int (2 : Int32)), (.int (2 : Int32))])) (fun _ hr => XS.iloadN X290.here hx rfl (hb hby d18_3) rfl  hr) ?_
          refine Goes.step (T2 := T290) (g2 := (mkF m 35 #[rv a1, iv 0, iv 2, iv 2] [])) (fun _ hr => XS.icmpYes X290.here hx rfl (pc0 := 4) (pc' := 35) rfl (hb hby d18_4) rfl (flt (by decide : ¬ ((2 : Int32) < (2 : Int32)))).2.1 (by decide) (by decide) hr) ?_
          refine Goes.step (T2 := T290) (g2 := (mkF m 36 #[rv a1, iv 0, iv 2, iv 2] [(.int (1 : Int32))])) (fun _ hr => XS.iconst X290.here hx rfl (hb hby d18_35) hr) ?_
          exact Goes.ret (v := some (.int (1 : Int32))) X290 (by decide) (by decide) (fun h => by rw [Bd.returns] at h; cases h) ⟨by rw [show allD [c0, c1] = (1 : Int32) from (allD_go (dg_yes hc14_282 hc24_285) (allD_go (dg_yes hc14_288 hc24_291) rfl))], N290, e290⟩ (fun fs hr => retN X290 hx (t := .boolean) Bd.returns (by simp) (hb hby d18_36) hr)
def Q_rm_ad03 (Z : State) (a1 : Addr) (cs : Int32) (c0 : Int32) (c1 : Int32) (c2 : Int32) (c3 : Int32) (vf : Value) (h0 : Heap) (n0 : Nat) (v : Option Value) (h : Heap) (L : List Loc) : Prop := v = some (.int (allD [c0, c1, c2])) ∧ Fr n0 L ∧ h = h0
set_option maxRecDepth 65536 in
set_option maxHeartbeats 40000000 in
theorem rm_ad03 (l : Launch) (Z : State) (a0 : Array Value) (hw : ∀ d ∈ tables_1, d.before a0 Z = true) (ws : List Jvm.Cond) (a1 : Addr) (cs : Int32) (c0 : Int32) (c1 : Int32) (c2 : Int32) (c3 : Int32) (vf : Value) (h0 : Heap) (n0 : Nat) (Z0 : n0 ≤ h0.size) (O0 : Old Z n0 h0) (E_a1 : Exa Z h0 a1 "java/lang/String") (S_String_COMPACT_STRINGS_old : Sta Z Z.heap "java/lang/String" "COMPACT_STRINGS" "Z" (.int cs)) (S_Preconditions_SIOOBE_FORMATTER_old : Sta Z Z.heap "jdk/internal/util/Preconditions" "SIOOBE_FORMATTER" "Ljava/util/function/BiFunction;" vf) (S_StringUTF16__assertionsDisabled_old : Sta Z Z.heap "java/lang/StringUTF16" "$assertionsDisabled" "Z" (.int (1 : Int32))) (S_StringUTF16_HI_BYTE_SHIFT_old : Sta Z Z.heap "java/lang/StringUTF16" "HI_BYTE_SHIFT" "I" (.int (0 : Int32))) (S_StringUTF16_LO_BYTE_SHIFT_old : Sta Z Z.heap "java/lang/StringUTF16" "LO_BYTE_SHIFT" "I" (.int (8 : Int32))) (hcs : ¬ (cs = (0 : Int32))) (hvf : vf.isRef = true) (hb0 : B16 c0) (hb1 : B16 c1) (hb2 : B16 c2) (hb3 : B16 c3) (S0 : Sch Z h0 a1 c0 c1 c2 c3) :
    MetFree l Y18 (head1 (Jvm.Cond.code Y18 prog_32_method_41_code 4 (some .boolean) :: ws) ({ frames := 6, cells := 0, slots := 0, locals := 110 } : Room)) (fun a U => a = #[(.ref a1), (.int (0 : Int32)), (.int (3 : Int32))] ∧ Z.Warmed39 U.vm ∧ U.heap = h0) (fun _ _ _ _ _ => True) (fun _ U o U' => ∃ v L, o = .returned v ∧ Q_rm_ad03 Z a1 cs c0 c1 c2 c3 vf h0 n0 v U'.heap L ∧ FrameEnd U o U' L ({ frames := 6, cells := 0, slots := 0, locals := 110 } : Room).cells ({ frames := 6, cells := 0, slots := 0, locals := 110 } : Room).slots) := by
  refine MetFree.of_bodySF (plainFor_of_name pn_com_example_api_policy_gateway_apipolicygateway_proxy_HeaderFields) hisR ?_
  intro p e s m args below meth c s₁ Bd hml0 hP hK
  obtain ⟨rfl, hZ, hh⟩ := hP
  have hx := Bd.exec
  have hby := Bd.bytes
  have hml : c.maxLocals = 4 := hml0
  have hown : s.vm.findClass "com/example/api_policy_gateway/apipolicygateway/proxy/HeaderFields" = some m.cls := findClass_of_methodNamed Bd.named
  have hnm := (name_of_methodNamed Bd.named Bd.method).1
  have X0 : Stand p l e ({ frames := 6, cells := 0, slots := 0, locals := 110 } : Room) s m #[(.ref a1), (.int (0 : Int32)), (.int (3 : Int32))] below meth c s₁ [] 0 0 := Stand.of_body Bd
  have e0 : s₁.heap = h0 := by rw [← hh, Bd.state]; rfl
  have N0 := Fr.nil n0
  refine Goes.out (l := l) (c := c) (R := ({ frames := 6, cells := 0, slots := 0, locals := 110 } : Room)) (Q := Q_rm_ad03 Z a1 cs c0 c1 c2 c3 vf h0 n0) Bd.notSynchronized ?_
  refine Goes.cast (g2 := mkF m 0 #[rv a1, iv 0, iv 3, .unset] []) (by first | (simp [entryFrame, mkF, argsToLocals, Value.category]; done) | rfl) ?_
  have K0 : Keep h0 h0 [] := Keep.refl h0 _
  have hws : ∀ x ∈ ([] : List Addr), n0 ≤ x := all0
  refine Goes.step (T2 := s₁) (g2 := (mkF m 1 #[rv a1, iv 0, iv 3, .unset] [(.int (0 : Int32))])) (fun _ hr => XS.iloadN X0.here hx rfl (hb hby d18_0) rfl  hr) ?_
  refine Goes.step (T2 := s₁) (g2 := (mkF m 2 #[rv a1, iv 0, iv 3, iv 0] [])) (fun _ hr => XS.istoreN X0.here hx rfl (hb hby d18_1) rfl (l' := #[rv a1, iv 0, iv 3, iv 0]) rfl hr) ?_
  refine Goes.step (T2 := s₁) (g2 := (mkF m 3 #[rv a1, iv 0, iv 3, iv 0] [(.int (0 : Int32))])) (fun _ hr => XS.iloadN X0.here hx rfl (hb hby d18_2) rfl  hr) ?_
  refine Goes.step (T2 := s₁) (g2 := (mkF m 4 #[rv a1, iv 0, iv 3, iv 0] [(.int (3 : Int32)), (.int (0 : Int32))])) (fun _ hr => XS.iloadN X0.here hx rfl (hb hby d18_3) rfl  hr) ?_
  refine Goes.step (T2 := s₁) (g2 := (mkF m 7 #[rv a1, iv 0, iv 3, iv 0] [])) (fun _ hr => XS.icmpNo X0.here hx rfl (hb hby d18_4) rfl (tlt (by decide : (0 : Int32) < (3 : Int32))).2.1 hr) ?_
  refine Goes.step (T2 := s₁) (g2 := (mkF m 8 #[rv a1, iv 0, iv 3, iv 0] [(.ref a1)])) (fun _ hr => XS.aloadN X0.here hx rfl (hb hby d18_7) rfl rfl hr) ?_
  refine Goes.step (T2 := s₁) (g2 := (mkF m 9 #[rv a1, iv 0, iv 3, iv 0] [(.int (0 : Int32)), (.ref a1)])) (fun _ hr => XS.iloadN X0.here hx rfl (hb hby d18_8) rfl  hr) ?_
  have Zs292 : n0 ≤ h0.size := Nat.le_trans Z0 K0.1
  obtain ⟨cq293, kq293, q293a, q293b, q293c⟩ := isOf hZ e0 E_a1
  obtain ⟨_, _, ⟨T293, L293, k293, n293⟩, -, X293, ⟨Lc293, hQ293, l293, y293, z293⟩, st293⟩ := X0.virtualBack hx (y := Y17) (z := Y17) hown (mvT hZ (tw hw 59 rfl)) (mvT hZ (tw hw 60 rfl)) (notFace_of_selects (args := #[]) (mvT hZ (tw hw 62 rfl))) (mvT hZ (tw hw 62 rfl)) (mvT hZ (tw hw 61 rfl)) (by decide) (backOf (W := 0) (rm_cat0 l Z a0 hw [] a1 cs c0 c1 c2 c3 vf h0 n0 Zs292 (Old.keep O0 K0 hws) E_a1 S0 S_String_COMPACT_STRINGS_old S_Preconditions_SIOOBE_FORMATTER_old S_StringUTF16__assertionsDisabled_old S_StringUTF16_HI_BYTE_SHIFT_old S_StringUTF16_LO_BYTE_SHIFT_old hcs hvf hb0) hZ (tw hw 63 rfl) (tw hw 5 rfl) (by decide) (by decide)) q293a q293c (g := (mkF m 9 #[rv a1, iv 0, iv 3, iv 0] [(.int (0 : Int32)), (.ref a1)])) rfl (by rw [hml]; rfl) (Steps.refl _) (argsL := [(.int (0 : Int32))]) (rest := []) (lenOf pd_13 rfl) rfl (by show 2 * 0 + _ ≤ _; exact Nat.le_of_eq rfl) (hb hby d18_9) (fun _ _ => ⟨rfl, e0, (by decide : 0 + 0 ≤ _), (by decide : 0 + 0 ≤ _)⟩)
  dsimp only [Pt.U, Pt.locs, Pt.cells, Pt.slots] at X293 l293 y293 z293 st293 hQ293
  subst l293 y293 z293
  obtain ⟨rfl, N293q, e293⟩ := hQ293
  have N293 := Fr.app N0 N293q
  refine Goes.step (T2 := T293) (g2 := (mkF m 12 #[rv a1, iv 0, iv 3, iv 0] [(.int c0)])) (fun _ hr => st293.trans hr) ?_
  refine Goes.step (T2 := T293) (g2 := (mkF m 14 #[rv a1, iv 0, iv 3, iv 0] [(.int (48 : Int32)), (.int c0)])) (fun _ hr => XS.bipush X293.here hx rfl (hb hby d18_12) hr) ?_
  by_cases hc14_294 : c0 < (48 : Int32)
  · refine Goes.step (T2 := T293) (g2 := (mkF m 27 #[rv a1, iv 0, iv 3, iv 0] [])) (fun _ hr => XS.icmpYes X293.here hx rfl (pc0 := 14) (pc' := 27) rfl (hb hby d18_14) rfl (tlt hc14_294).1 (by decide) (by decide) hr) ?_
    refine Goes.step (T2 := T293) (g2 := (mkF m 28 #[rv a1, iv 0, iv 3, iv 0] [(.int (0 : Int32))])) (fun _ hr => XS.iconst X293.here hx rfl (hb hby d18_27) hr) ?_
    exact Goes.ret (v := some (.int (0 : Int32))) X293 (by decide) (by decide) (fun h => by rw [Bd.returns] at h; cases h) ⟨by rw [show allD [c0, c1, c2] = (0 : Int32) from (allD_no (dg_lo hc14_294))], N293, e293⟩ (fun fs hr => retN X293 hx (t := .boolean) Bd.returns (by simp) (hb hby d18_28) hr)
  · refine Goes.step (T2 := T293) (g2 := (mkF m 17 #[rv a1, iv 0, iv 3, iv 0] [])) (fun _ hr => XS.icmpNo X293.here hx rfl (hb hby d18_14) rfl (flt hc14_294).1 hr) ?_
    refine Goes.step (T2 := T293) (g2 := (mkF m 18 #[rv a1, iv 0, iv 3, iv 0] [(.ref a1)])) (fun _ hr => XS.aloadN X293.here hx rfl (hb hby d18_17) rfl rfl hr) ?_
    refine Goes.step (T2 := T293) (g2 := (mkF m 19 #[rv a1, iv 0, iv 3, iv 0] [(.int (0 : Int32)), (.ref a1)])) (fun _ hr => XS.iloadN X293.here hx rfl (hb hby d18_18) rfl  hr) ?_
    have Zs295 : n0 ≤ h0.size := Nat.le_trans Z0 K0.1
    obtain ⟨cq296, kq296, q296a, q296b, q296c⟩ := isOf hZ e293 E_a1
    obtain ⟨_, _, ⟨T296, L296, k296, n296⟩, -, X296, ⟨Lc296, hQ296, l296, y296, z296⟩, st296⟩ := X293.virtualBack hx (y := Y17) (z := Y17) hown (mvT hZ (tw hw 59 rfl)) (mvT hZ (tw hw 60 rfl)) (notFace_of_selects (args := #[]) (mvT hZ (tw hw 62 rfl))) (mvT hZ (tw hw 62 rfl)) (mvT hZ (tw hw 61 rfl)) (by decide) (backOf (W := 0) (rm_cat0 l Z a0 hw [] a1 cs c0 c1 c2 c3 vf h0 n0 Zs295 (Old.keep O0 K0 hws) E_a1 S0 S_String_COMPACT_STRINGS_old S_Preconditions_SIOOBE_FORMATTER_old S_StringUTF16__assertionsDisabled_old S_StringUTF16_HI_BYTE_SHIFT_old S_StringUTF16_LO_BYTE_SHIFT_old hcs hvf hb0) hZ (tw hw 63 rfl) (tw hw 5 rfl) (by decide) (by decide)) q296a q296c (g := (mkF m 19 #[rv a1, iv 0, iv 3, iv 0] [(.int (0 : Int32)), (.ref a1)])) rfl (by rw [hml]; rfl) (Steps.refl _) (argsL := [(.int (0 : Int32))]) (rest := []) (lenOf pd_13 rfl) rfl (by show 2 * 0 + _ ≤ _; exact Nat.le_of_eq rfl) (hb hby d18_19) (fun _ _ => ⟨rfl, e293, (by decide : 0 + 0 ≤ _), (by decide : 0 + 0 ≤ _)⟩)
    dsimp only [Pt.U, Pt.locs, Pt.cells, Pt.slots] at X296 l296 y296 z296 st296 hQ296
    subst l296 y296 z296
    obtain ⟨rfl, N296q, e296⟩ := hQ296
    have N296 := Fr.app N293 N296q
    refine Goes.step (T2 := T296) (g2 := (mkF m 22 #[rv a1, iv 0, iv 3, iv 0] [(.int c0)])) (fun _ hr => st296.trans hr) ?_
    refine Goes.step (T2 := T296) (g2 := (mkF m 24 #[rv a1, iv 0, iv 3, iv 0] [(.int (57 : Int32)), (.int c0)])) (fun _ hr => XS.bipush X296.here hx rfl (hb hby d18_22) hr) ?_
    by_cases hc24_297 : (57 : Int32) < c0
    · refine Goes.step (T2 := T296) (g2 := (mkF m 27 #[rv a1, iv 0, iv 3, iv 0] [])) (fun _ hr => XS.icmpNo X296.here hx rfl (hb hby d18_24) rfl (tlt hc24_297).2.2.2 hr) ?_
      refine Goes.step (T2 := T296) (g2 := (mkF m 28 #[rv a1, iv 0, iv 3, iv 0] [(.int (0 : Int32))])) (fun _ hr => XS.iconst X296.here hx rfl (hb hby d18_27) hr) ?_
      exact Goes.ret (v := some (.int (0 : Int32))) X296 (by decide) (by decide) (fun h => by rw [Bd.returns] at h; cases h) ⟨by rw [show allD [c0, c1, c2] = (0 : Int32) from (allD_no (dg_hi hc24_297))], N296, e296⟩ (fun fs hr => retN X296 hx (t := .boolean) Bd.returns (by simp) (hb hby d18_28) hr)
    · refine Goes.step (T2 := T296) (g2 := (mkF m 29 #[rv a1, iv 0, iv 3, iv 0] [])) (fun _ hr => XS.icmpYes X296.here hx rfl (pc0 := 24) (pc' := 29) rfl (hb hby d18_24) rfl (flt hc24_297).2.2.2 (by decide) (by decide) hr) ?_
      refine Goes.step (T2 := T296) (g2 := (mkF m 32 #[rv a1, iv 0, iv 3, iv 1] [])) (fun _ hr => XS.iinc X296.here hx rfl (hb hby d18_29) rfl (l' := #[rv a1, iv 0, iv 3, iv 1]) rfl hr) ?_
      refine Goes.step (T2 := T296) (g2 := (mkF m 2 #[rv a1, iv 0, iv 3, iv 1] [])) (fun _ hr => XS.goto X296.here hx rfl (pc0 := 32) (pc' := 2) rfl (hb hby d18_32) (by decide) (by decide) hr) ?_
      refine Goes.step (T2 := T296) (g2 := (mkF m 3 #[rv a1, iv 0, iv 3, iv 1] [(.int (1 : Int32))])) (fun _ hr => XS.iloadN X296.here hx rfl (hb hby d18_2) rfl  hr) ?_
      refine Goes.step (T2 := T296) (g2 := (mkF m 4 #[rv a1, iv 0, iv 3, iv 1] [(.int (3 : Int32)), (.int (1 : Int32))])) (fun _ hr => XS.iloadN X296.here hx rfl (hb hby d18_3) rfl  hr) ?_
      refine Goes.step (T2 := T296) (g2 := (mkF m 7 #[rv a1, iv 0, iv 3, iv 1] [])) (fun _ hr => XS.icmpNo X296.here hx rfl (hb hby d18_4) rfl (tlt (by decide : (1 : Int32) < (3 : Int32))).2.1 hr) ?_
      refine Goes.step (T2 := T296) (g2 := (mkF m 8 #[rv a1, iv 0, iv 3, iv 1] [(.ref a1)])) (fun _ hr => XS.aloadN X296.here hx rfl (hb hby d18_7) rfl rfl hr) ?_
      refine Goes.step (T2 := T296) (g2 := (mkF m 9 #[rv a1, iv 0, iv 3, iv 1] [(.int (1 : Int32)), (.ref a1)])) (fun _ hr => XS.iloadN X296.here hx rfl (hb hby d18_8) rfl  hr) ?_
      have Zs298 : n0 ≤ h0.size := Nat.le_trans Z0 K0.1
      obtain ⟨cq299, kq299, q299a, q299b, q299c⟩ := isOf hZ e296 E_a1
      obtain ⟨_, _, ⟨T299, L299, k299, n299⟩, -, X299, ⟨Lc299, hQ299, l299, y299, z299⟩, st299⟩ := X296.virtualBack hx (y := Y17) (z := Y17) hown (mvT hZ (tw hw 59 rfl)) (mvT hZ (tw hw 60 rfl)) (notFace_of_selects (args := #[]) (mvT hZ (tw hw 62 rfl))) (mvT hZ (tw hw 62 rfl)) (mvT hZ (tw hw 61 rfl)) (by decide) (backOf (W := 0) (rm_cat1 l Z a0 hw [] a1 cs c0 c1 c2 c3 vf h0 n0 Zs298 (Old.keep O0 K0 hws) E_a1 S0 S_String_COMPACT_STRINGS_old S_Preconditions_SIOOBE_FORMATTER_old S_StringUTF16__assertionsDisabled_old S_StringUTF16_HI_BYTE_SHIFT_old S_StringUTF16_LO_BYTE_SHIFT_old hcs hvf hb1) hZ (tw hw 63 rfl) (tw hw 5 rfl) (by decide) (by decide)) q299a q299c (g := (mkF m 9 #[rv a1, iv 0, iv 3, iv 1] [(.int (1 : Int32)), (.ref a1)])) rfl (by rw [hml]; rfl) (Steps.refl _) (argsL := [(.int (1 : Int32))]) (rest := []) (lenOf pd_13 rfl) rfl (by show 2 * 0 + _ ≤ _; exact Nat.le_of_eq rfl) (hb hby d18_9) (fun _ _ => ⟨rfl, e296, (by decide : 0 + 0 ≤ _), (by decide : 0 + 0 ≤ _)⟩)
      dsimp only [Pt.U, Pt.locs, Pt.cells, Pt.slots] at X299 l299 y299 z299 st299 hQ299
      subst l299 y299 z299
      obtain ⟨rfl, N299q, e299⟩ := hQ299
      have N299 := Fr.app N296 N299q
      refine Goes.step (T2 := T299) (g2 := (mkF m 12 #[rv a1, iv 0, iv 3, iv 1] [(.int c1)])) (fun _ hr => st299.trans hr) ?_
      refine Goes.step (T2 := T299) (g2 := (mkF m 14 #[rv a1, iv 0, iv 3, iv 1] [(.int (48 : Int32)), (.int c1)])) (fun _ hr => XS.bipush X299.here hx rfl (hb hby d18_12) hr) ?_
      by_cases hc14_300 : c1 < (48 : Int32)
      · refine Goes.step (T2 := T299) (g2 := (mkF m 27 #[rv a1, iv 0, iv 3, iv 1] [])) (fun _ hr => XS.icmpYes X299.here hx rfl (pc0 := 14) (pc' := 27) rfl (hb hby d18_14) rfl (tlt hc14_300).1 (by decide) (by decide) hr) ?_
        refine Goes.step (T2 := T299) (g2 := (mkF m 28 #[rv a1, iv 0, iv 3, iv 1] [(.int (0 : Int32))])) (fun _ hr => XS.iconst X299.here hx rfl (hb hby d18_27) hr) ?_
        exact Goes.ret (v := some (.int (0 : Int32))) X299 (by decide) (by decide) (fun h => by rw [Bd.returns] at h; cases h) ⟨by rw [show allD [c0, c1, c2] = (0 : Int32) from (allD_go (dg_yes hc14_294 hc24_297) (allD_no (dg_lo hc14_300)))], N299, e299⟩ (fun fs hr => retN X299 hx (t := .boolean) Bd.returns (by simp) (hb hby d18_28) hr)
      · refine Goes.step (T2 := T299) (g2 := (mkF m 17 #[rv a1, iv 0, iv 3, iv 1] [])) (fun _ hr => XS.icmpNo X299.here hx rfl (hb hby d18_14) rfl (flt hc14_300).1 hr) ?_
        refine Goes.step (T2 := T299) (g2 := (mkF m 18 #[rv a1, iv 0, iv 3, iv 1] [(.ref a1)])) (fun _ hr => XS.aloadN X299.here hx rfl (hb hby d18_17) rfl rfl hr) ?_
        refine Goes.step (T2 := T299) (g2 := (mkF m 19 #[rv a1, iv 0, iv 3, iv 1] [(.int (1 : Int32)), (.ref a1)])) (fun _ hr => XS.iloadN X299.here hx rfl (hb hby d18_18) rfl  hr) ?_
        have Zs301 : n0 ≤ h0.size := Nat.le_trans Z0 K0.1
        obtain ⟨cq302, kq302, q302a, q302b, q302c⟩ := isOf hZ e299 E_a1
        obtain ⟨_, _, ⟨T302, L302, k302, n302⟩, -, X302, ⟨Lc302, hQ302, l302, y302, z302⟩, st302⟩ := X299.virtualBack hx (y := Y17) (z := Y17) hown (mvT hZ (tw hw 59 rfl)) (mvT hZ (tw hw 60 rfl)) (notFace_of_selects (args := #[]) (mvT hZ (tw hw 62 rfl))) (mvT hZ (tw hw 62 rfl)) (mvT hZ (tw hw 61 rfl)) (by decide) (backOf (W := 0) (rm_cat1 l Z a0 hw [] a1 cs c0 c1 c2 c3 vf h0 n0 Zs301 (Old.keep O0 K0 hws) E_a1 S0 S_String_COMPACT_STRINGS_old S_Preconditions_SIOOBE_FORMATTER_old S_StringUTF16__assertionsDisabled_old S_StringUTF16_HI_BYTE_SHIFT_old S_StringUTF16_LO_BYTE_SHIFT_old hcs hvf hb1) hZ (tw hw 63 rfl) (tw hw 5 rfl) (by decide) (by decide)) q302a q302c (g := (mkF m 19 #[rv a1, iv 0, iv 3, iv 1] [(.int (1 : Int32)), (.ref a1)])) rfl (by rw [hml]; rfl) (Steps.refl _) (argsL := [(.int (1 : Int32))]) (rest := []) (lenOf pd_13 rfl) rfl (by show 2 * 0 + _ ≤ _; exact Nat.le_of_eq rfl) (hb hby d18_19) (fun _ _ => ⟨rfl, e299, (by decide : 0 + 0 ≤ _), (by decide : 0 + 0 ≤ _)⟩)
        dsimp only [Pt.U, Pt.locs, Pt.cells, Pt.slots] at X302 l302 y302 z302 st302 hQ302
        subst l302 y302 z302
        obtain ⟨rfl, N302q, e302⟩ := hQ302
        have N302 := Fr.app N299 N302q
        refine Goes.step (T2 := T302) (g2 := (mkF m 22 #[rv a1, iv 0, iv 3, iv 1] [(.int c1)])) (fun _ hr => st302.trans hr) ?_
        refine Goes.step (T2 := T302) (g2 := (mkF m 24 #[rv a1, iv 0, iv 3, iv 1] [(.int (57 : Int32)), (.int c1)])) (fun _ hr => XS.bipush X302.here hx rfl (hb hby d18_22) hr) ?_
        by_cases hc24_303 : (57 : Int32) < c1
        · refine Goes.step (T2 := T302) (g2 := (mkF m 27 #[rv a1, iv 0, iv 3, iv 1] [])) (fun _ hr => XS.icmpNo X302.here hx rfl (hb hby d18_24) rfl (tlt hc24_303).2.2.2 hr) ?_
          refine Goes.step (T2 := T302) (g2 := (mkF m 28 #[rv a1, iv 0, iv 3, iv 1] [(.int (0 : Int32))])) (fun _ hr => XS.iconst X302.here hx rfl (hb hby d18_27) hr) ?_
          exact Goes.ret (v := some (.int (0 : Int32))) X302 (by decide) (by decide) (fun h => by rw [Bd.returns] at h; cases h) ⟨by rw [show allD [c0, c1, c2] = (0 : Int32) from (allD_go (dg_yes hc14_294 hc24_297) (allD_no (dg_hi hc24_303)))], N302, e302⟩ (fun fs hr => retN X302 hx (t := .boolean) Bd.returns (by simp) (hb hby d18_28) hr)
        · refine Goes.step (T2 := T302) (g2 := (mkF m 29 #[rv a1, iv 0, iv 3, iv 1] [])) (fun _ hr => XS.icmpYes X302.here hx rfl (pc0 := 24) (pc' := 29) rfl (hb hby d18_24) rfl (flt hc24_303).2.2.2 (by decide) (by decide) hr) ?_
          refine Goes.step (T2 := T302) (g2 := (mkF m 32 #[rv a1, iv 0, iv 3, iv 2] [])) (fun _ hr => XS.iinc X302.here hx rfl (hb hby d18_29) rfl (l' := #[rv a1, iv 0, iv 3, iv 2]) rfl hr) ?_
          refine Goes.step (T2 := T302) (g2 := (mkF m 2 #[rv a1, iv 0, iv 3, iv 2] [])) (fun _ hr => XS.goto X302.here hx rfl (pc0 := 32) (pc' := 2) rfl (hb hby d18_32) (by decide) (by decide) hr) ?_
          refine Goes.step (T2 := T302) (g2 := (mkF m 3 #[rv a1, iv 0, iv 3, iv 2] [(.int (2 : Int32))])) (fun _ hr => XS.iloadN X302.here hx rfl (hb hby d18_2) rfl  hr) ?_
          refine Goes.step (T2 := T302) (g2 := (mkF m 4 #[rv a1, iv 0, iv 3, iv 2] [(.int (3 : Int32)), (.int (2 : Int32))])) (fun _ hr => XS.iloadN X302.here hx rfl (hb hby d18_3) rfl  hr) ?_
          refine Goes.step (T2 := T302) (g2 := (mkF m 7 #[rv a1, iv 0, iv 3, iv 2] [])) (fun _ hr => XS.icmpNo X302.here hx rfl (hb hby d18_4) rfl (tlt (by decide : (2 : Int32) < (3 : Int32))).2.1 hr) ?_
          refine Goes.step (T2 := T302) (g2 := (mkF m 8 #[rv a1, iv 0, iv 3, iv 2] [(.ref a1)])) (fun _ hr => XS.aloadN X302.here hx rfl (hb hby d18_7) rfl rfl hr) ?_
          refine Goes.step (T2 := T302) (g2 := (mkF m 9 #[rv a1, iv 0, iv 3, iv 2] [(.int (2 : Int32)), (.ref a1)])) (fun _ hr => XS.iloadN X302.here hx rfl (hb hby d18_8) rfl  hr) ?_
          have Zs304 : n0 ≤ h0.size := Nat.le_trans Z0 K0.1
          obtain ⟨cq305, kq305, q305a, q305b, q305c⟩ := isOf hZ e302 E_a1
          obtain ⟨_, _, ⟨T305, L305, k305, n305⟩, -, X305, ⟨Lc305, hQ305, l305, y305, z305⟩, st305⟩ := X302.virtualBack hx (y := Y17) (z := Y17) hown (mvT hZ (tw hw 59 rfl)) (mvT hZ (tw hw 60 rfl)) (notFace_of_selects (args := #[]) (mvT hZ (tw hw 62 rfl))) (mvT hZ (tw hw 62 rfl)) (mvT hZ (tw hw 61 rfl)) (by decide) (backOf (W := 0) (rm_cat2 l Z a0 hw [] a1 cs c0 c1 c2 c3 vf h0 n0 Zs304 (Old.keep O0 K0 hws) E_a1 S0 S_String_COMPACT_STRINGS_old S_Preconditions_SIOOBE_FORMATTER_old S_StringUTF16__assertionsDisabled_old S_StringUTF16_HI_BYTE_SHIFT_old S_StringUTF16_LO_BYTE_SHIFT_old hcs hvf hb2) hZ (tw hw 63 rfl) (tw hw 5 rfl) (by decide) (by decide)) q305a q305c (g := (mkF m 9 #[rv a1, iv 0, iv 3, iv 2] [(.int (2 : Int32)), (.ref a1)])) rfl (by rw [hml]; rfl) (Steps.refl _) (argsL := [(.int (2 : Int32))]) (rest := []) (lenOf pd_13 rfl) rfl (by show 2 * 0 + _ ≤ _; exact Nat.le_of_eq rfl) (hb hby d18_9) (fun _ _ => ⟨rfl, e302, (by decide : 0 + 0 ≤ _), (by decide : 0 + 0 ≤ _)⟩)
          dsimp only [Pt.U, Pt.locs, Pt.cells, Pt.slots] at X305 l305 y305 z305 st305 hQ305
          subst l305 y305 z305
          obtain ⟨rfl, N305q, e305⟩ := hQ305
          have N305 := Fr.app N302 N305q
          refine Goes.step (T2 := T305) (g2 := (mkF m 12 #[rv a1, iv 0, iv 3, iv 2] [(.int c2)])) (fun _ hr => st305.trans hr) ?_
          refine Goes.step (T2 := T305) (g2 := (mkF m 14 #[rv a1, iv 0, iv 3, iv 2] [(.int (48 : Int32)), (.int c2)])) (fun _ hr => XS.bipush X305.here hx rfl (hb hby d18_12) hr) ?_
          by_cases hc14_306 : c2 < (48 : Int32)
          · refine Goes.step (T2 := T305) (g2 := (mkF m 27 #[rv a1, iv 0, iv 3, iv 2] [])) (fun _ hr => XS.icmpYes X305.here hx rfl (pc0 := 14) (pc' := 27) rfl (hb hby d18_14) rfl (tlt hc14_306).1 (by decide) (by decide) hr) ?_
            refine Goes.step (T2 := T305) (g2 := (mkF m 28 #[rv a1, iv 0, iv 3, iv 2] [(.int (0 : Int32))])) (fun _ hr => XS.iconst X305.here hx rfl (hb hby d18_27) hr) ?_
            exact Goes.ret (v := some (.int (0 : Int32))) X305 (by decide) (by decide) (fun h => by rw [Bd.returns] at h; cases h) ⟨by rw [show allD [c0, c1, c2] = (0 : Int32) from (allD_go (dg_yes hc14_294 hc24_297) (allD_go (dg_yes hc14_300 hc24_303) (allD_no (dg_lo hc14_306))))], N305, e305⟩ (fun fs hr => retN X305 hx (t := .boolean) Bd.returns (by simp) (hb hby d18_28) hr)
          · refine Goes.step (T2 := T305) (g2 := (mkF m 17 #[rv a1, iv 0, iv 3, iv 2] [])) (fun _ hr => XS.icmpNo X305.here hx rfl (hb hby d18_14) rfl (flt hc14_306).1 hr) ?_
            refine Goes.step (T2 := T305) (g2 := (mkF m 18 #[rv a1, iv 0, iv 3, iv 2] [(.ref a1)])) (fun _ hr => XS.aloadN X305.here hx rfl (hb hby d18_17) rfl rfl hr) ?_
            refine Goes.step (T2 := T305) (g2 := (mkF m 19 #[rv a1, iv 0, iv 3, iv 2] [(.int (2 : Int32)), (.ref a1)])) (fun _ hr => XS.iloadN X305.here hx rfl (hb hby d18_18) rfl  hr) ?_
            have Zs307 : n0 ≤ h0.size := Nat.le_trans Z0 K0.1
            obtain ⟨cq308, kq308, q308a, q308b, q308c⟩ := isOf hZ e305 E_a1
            obtain ⟨_, _, ⟨T308, L308, k308, n308⟩, -, X308, ⟨Lc308, hQ308, l308, y308, z308⟩, st308⟩ := X305.virtualBack hx (y := Y17) (z := Y17) hown (mvT hZ (tw hw 59 rfl)) (mvT hZ (tw hw 60 rfl)) (notFace_of_selects (args := #[]) (mvT hZ (tw hw 62 rfl))) (mvT hZ (tw hw 62 rfl)) (mvT hZ (tw hw 61 rfl)) (by decide) (backOf (W := 0) (rm_cat2 l Z a0 hw [] a1 cs c0 c1 c2 c3 vf h0 n0 Zs307 (Old.keep O0 K0 hws) E_a1 S0 S_String_COMPACT_STRINGS_old S_Preconditions_SIOOBE_FORMATTER_old S_StringUTF16__assertionsDisabled_old S_StringUTF16_HI_BYTE_SHIFT_old S_StringUTF16_LO_BYTE_SHIFT_old hcs hvf hb2) hZ (tw hw 63 rfl) (tw hw 5 rfl) (by decide) (by decide)) q308a q308c (g := (mkF m 19 #[rv a1, iv 0, iv 3, iv 2] [(.int (2 : Int32)), (.ref a1)])) rfl (by rw [hml]; rfl) (Steps.refl _) (argsL := [(.int (2 : Int32))]) (rest := []) (lenOf pd_13 rfl) rfl (by show 2 * 0 + _ ≤ _; exact Nat.le_of_eq rfl) (hb hby d18_19) (fun _ _ => ⟨rfl, e305, (by decide : 0 + 0 ≤ _), (by decide : 0 + 0 ≤ _)⟩)
            dsimp only [Pt.U, Pt.locs, Pt.cells, Pt.slots] at X308 l308 y308 z308 st308 hQ308
            subst l308 y308 z308
            obtain ⟨rfl, N308q, e308⟩ := hQ308
            have N308 := Fr.app N305 N308q
            refine Goes.step (T2 := T308) (g2 := (mkF m 22 #[rv a1, iv 0, iv 3, iv 2] [(.int c2)])) (fun _ hr => st308.trans hr) ?_
            refine Goes.step (T2 := T308) (g2 := (mkF m 24 #[rv a1, iv 0, iv 3, iv 2] [(.int (57 : Int32)), (.int c2)])) (fun _ hr => XS.bipush X308.here hx rfl (hb hby d18_22) hr) ?_
            by_cases hc24_309 : (57 : Int32) < c2
            · refine Goes.step (T2 := T308) (g2 := (mkF m 27 #[rv a1, iv 0, iv 3, iv 2] [])) (fun _ hr => XS.icmpNo X308.here hx rfl (hb hby d18_24) rfl (tlt hc24_309).2.2.2 hr) ?_
              refine Goes.step (T2 := T308) (g2 := (mkF m 28 #[rv a1, iv 0, iv 3, iv 2] [(.int (0 : Int32))])) (fun _ hr => XS.iconst X308.here hx rfl (hb hby d18_27) hr) ?_
              exact Goes.ret (v := some (.int (0 : Int32))) X308 (by decide) (by decide) (fun h => by rw [Bd.returns] at h; cases h) ⟨by rw [show allD [c0, c1, c2] = (0 : Int32) from (allD_go (dg_yes hc14_294 hc24_297) (allD_go (dg_yes hc14_300 hc24_303) (allD_no (dg_hi hc24_309))))], N308, e308⟩ (fun fs hr => retN X308 hx (t := .boolean) Bd.returns (by simp) (hb hby d18_28) hr)
            · refine Goes.step (T2 := T308) (g2 := (mkF m 29 #[rv a1, iv 0, iv 3, iv 2] [])) (fun _ hr => XS.icmpYes X308.here hx rfl (pc0 := 24) (pc' := 29) rfl (hb hby d18_24) rfl (flt hc24_309).2.2.2 (by decide) (by decide) hr) ?_
              refine Goes.step (T2 := T308) (g2 := (mkF m 32 #[rv a1, iv 0, iv 3, iv 3] [])) (fun _ hr => XS.iinc X308.here hx rfl (hb hby d18_29) rfl (l' := #[rv a1, iv 0, iv 3, iv 3]) rfl hr) ?_
              refine Goes.step (T2 := T308) (g2 := (mkF m 2 #[rv a1, iv 0, iv 3, iv 3] [])) (fun _ hr => XS.goto X308.here hx rfl (pc0 := 32) (pc' := 2) rfl (hb hby d18_32) (by decide) (by decide) hr) ?_
              refine Goes.step (T2 := T308) (g2 := (mkF m 3 #[rv a1, iv 0, iv 3, iv 3] [(.int (3 : Int32))])) (fun _ hr => XS.iloadN X308.here hx rfl (hb hby d18_2) rfl  hr) ?_
              refine Goes.step (T2 := T308) (g2 := (mkF m 4 #[rv a1, iv 0, iv 3, iv 3] [(.int (3 : Int32)), (.int (3 : Int32))])) (fun _ hr => XS.iloadN X308.here hx rfl (hb hby d18_3) rfl  hr) ?_
              refine Goes.step (T2 := T308) (g2 := (mkF m 35 #[rv a1, iv 0, iv 3, iv 3] [])) (fun _ hr => XS.icmpYes X308.here hx rfl (pc0 := 4) (pc' := 35) rfl (hb hby d18_4) rfl (flt (by decide : ¬ ((3 : Int32) < (3 : Int32)))).2.1 (by decide) (by decide) hr) ?_
              refine Goes.step (T2 := T308) (g2 := (mkF m 36 #[rv a1, iv 0, iv 3, iv 3] [(.int (1 : Int32))])) (fun _ hr => XS.iconst X308.here hx rfl (hb hby d18_35) hr) ?_
              exact Goes.ret (v := some (.int (1 : Int32))) X308 (by decide) (by decide) (fun h => by rw [Bd.returns] at h; cases h) ⟨by rw [show allD [c0, c1, c2] = (1 : Int32) from (allD_go (dg_yes hc14_294 hc24_297) (allD_go (dg_yes hc14_300 hc24_303) (allD_go (dg_yes hc14_306 hc24_309) rfl)))], N308, e308⟩ (fun fs hr => retN X308 hx (t := .boolean) Bd.returns (by simp) (hb hby d18_36) hr)
def Q_rm_ad04 (Z : State) (a1 : Addr) (cs : Int32) (c0 : Int32) (c1 : Int32) (c2 : Int32) (c3 : Int32) (vf : Value) (h0 : Heap) (n0 : Nat) (v : Option Value) (h : Heap) (L : List Loc) : Prop := v = some (.int (allD [c0, c1, c2, c3])) ∧ Fr n0 L ∧ h = h0
set_option maxRecDepth 65536 in
set_option maxHeartbeats 40000000 in
theorem rm_ad04 (l : Launch) (Z : State) (a0 : Array Value) (hw : ∀ d ∈ tables_1, d.before a0 Z = true) (ws : List Jvm.Cond) (a1 : Addr) (cs : Int32) (c0 : Int32) (c1 : Int32) (c2 : Int32) (c3 : Int32) (vf : Value) (h0 : Heap) (n0 : Nat) (Z0 : n0 ≤ h0.size) (O0 : Old Z n0 h0) (E_a1 : Exa Z h0 a1 "java/lang/String") (S_String_COMPACT_STRINGS_old : Sta Z Z.heap "java/lang/String" "COMPACT_STRINGS" "Z" (.int cs)) (S_Preconditions_SIOOBE_FORMATTER_old : Sta Z Z.heap "jdk/internal/util/Preconditions" "SIOOBE_FORMATTER" "Ljava/util/function/BiFunction;" vf) (S_StringUTF16__assertionsDisabled_old : Sta Z Z.heap "java/lang/StringUTF16" "$assertionsDisabled" "Z" (.int (1 : Int32))) (S_StringUTF16_HI_BYTE_SHIFT_old : Sta Z Z.heap "java/lang/StringUTF16" "HI_BYTE_SHIFT" "I" (.int (0 : Int32))) (S_StringUTF16_LO_BYTE_SHIFT_old : Sta Z Z.heap "java/lang/StringUTF16" "LO_BYTE_SHIFT" "I" (.int (8 : Int32))) (hcs : ¬ (cs = (0 : Int32))) (hvf : vf.isRef = true) (hb0 : B16 c0) (hb1 : B16 c1) (hb2 : B16 c2) (hb3 : B16 c3) (S0 : Sch Z h0 a1 c0 c1 c2 c3) :
    MetFree l Y18 (head1 (Jvm.Cond.code Y18 prog_32_method_41_code 4 (some .boolean) :: ws) ({ frames := 6, cells := 0, slots := 0, locals := 110 } : Room)) (fun a U => a = #[(.ref a1), (.int (0 : Int32)), (.int (4 : Int32))] ∧ Z.Warmed39 U.vm ∧ U.heap = h0) (fun _ _ _ _ _ => True) (fun _ U o U' => ∃ v L, o = .returned v ∧ Q_rm_ad04 Z a1 cs c0 c1 c2 c3 vf h0 n0 v U'.heap L ∧ FrameEnd U o U' L ({ frames := 6, cells := 0, slots := 0, locals := 110 } : Room).cells ({ frames := 6, cells := 0, slots := 0, locals := 110 } : Room).slots) := by
  refine MetFree.of_bodySF (plainFor_of_name pn_com_example_api_policy_gateway_apipolicygateway_proxy_HeaderFields) hisR ?_
  intro p e s m args below meth c s₁ Bd hml0 hP hK
  obtain ⟨rfl, hZ, hh⟩ := hP
  have hx := Bd.exec
  have hby := Bd.bytes
  have hml : c.maxLocals = 4 := hml0
  have hown : s.vm.findClass "com/example/api_policy_gateway/apipolicygateway/proxy/HeaderFields" = some m.cls := findClass_of_methodNamed Bd.named
  have hnm := (name_of_methodNamed Bd.named Bd.method).1
  have X0 : Stand p l e ({ frames := 6, cells := 0, slots := 0, locals := 110 } : Room) s m #[(.ref a1), (.int (0 : Int32)), (.int (4 : Int32))] below meth c s₁ [] 0 0 := Stand.of_body Bd
  have e0 : s₁.heap = h0 := by rw [← hh, Bd.state]; rfl
  have N0 := Fr.nil n0
  refine Goes.out (l := l) (c := c) (R := ({ frames := 6, cells := 0, slots := 0, locals := 110 } : Room)) (Q := Q_rm_ad04 Z a1 cs c0 c1 c2 c3 vf h0 n0) Bd.notSynchronized ?_
  refine Goes.cast (g2 := mkF m 0 #[rv a1, iv 0, iv 4, .unset] []) (by first | (simp [entryFrame, mkF, argsToLocals, Value.category]; done) | rfl) ?_
  have K0 : Keep h0 h0 [] := Keep.refl h0 _
  have hws : ∀ x ∈ ([] : List Addr), n0 ≤ x := all0
  refine Goes.step (T2 := s₁) (g2 := (mkF m 1 #[rv a1, iv 0, iv 4, .unset] [(.int (0 : Int32))])) (fun _ hr => XS.iloadN X0.here hx rfl (hb hby d18_0) rfl  hr) ?_
  refine Goes.step (T2 := s₁) (g2 := (mkF m 2 #[rv a1, iv 0, iv 4, iv 0] [])) (fun _ hr => XS.istoreN X0.here hx rfl (hb hby d18_1) rfl (l' := #[rv a1, iv 0, iv 4, iv 0]) rfl hr) ?_
  refine Goes.step (T2 := s₁) (g2 := (mkF m 3 #[rv a1, iv 0, iv 4, iv 0] [(.int (0 : Int32))])) (fun _ hr => XS.iloadN X0.here hx rfl (hb hby d18_2) rfl  hr) ?_
  refine Goes.step (T2 := s₁) (g2 := (mkF m 4 #[rv a1, iv 0, iv 4, iv 0] [(.int (4 : Int32)), (.int (0 : Int32))])) (fun _ hr => XS.iloadN X0.here hx rfl (hb hby d18_3) rfl  hr) ?_
  refine Goes.step (T2 := s₁) (g2 := (mkF m 7 #[rv a1, iv 0, iv 4, iv 0] [])) (fun _ hr => XS.icmpNo X0.here hx rfl (hb hby d18_4) rfl (tlt (by decide : (0 : Int32) < (4 : Int32))).2.1 hr) ?_
  refine Goes.step (T2 := s₁) (g2 := (mkF m 8 #[rv a1, iv 0, iv 4, iv 0] [(.ref a1)])) (fun _ hr => XS.aloadN X0.here hx rfl (hb hby d18_7) rfl rfl hr) ?_
  refine Goes.step (T2 := s₁) (g2 := (mkF m 9 #[rv a1, iv 0, iv 4, iv 0] [(.int (0 : Int32)), (.ref a1)])) (fun _ hr => XS.iloadN X0.here hx rfl (hb hby d18_8) rfl  hr) ?_
  have Zs310 : n0 ≤ h0.size := Nat.le_trans Z0 K0.1
  obtain ⟨cq311, kq311, q311a, q311b, q311c⟩ := isOf hZ e0 E_a1
  obtain ⟨_, _, ⟨T311, L311, k311, n311⟩, -, X311, ⟨Lc311, hQ311, l311, y311, z311⟩, st311⟩ := X0.virtualBack hx (y := Y17) (z := Y17) hown (mvT hZ (tw hw 59 rfl)) (mvT hZ (tw hw 60 rfl)) (notFace_of_selects (args := #[]) (mvT hZ (tw hw 62 rfl))) (mvT hZ (tw hw 62 rfl)) (mvT hZ (tw hw 61 rfl)) (by decide) (backOf (W := 0) (rm_cat0 l Z a0 hw [] a1 cs c0 c1 c2 c3 vf h0 n0 Zs310 (Old.keep O0 K0 hws) E_a1 S0 S_String_COMPACT_STRINGS_old S_Preconditions_SIOOBE_FORMATTER_old S_StringUTF16__assertionsDisabled_old S_StringUTF16_HI_BYTE_SHIFT_old S_StringUTF16_LO_BYTE_SHIFT_old hcs hvf hb0) hZ (tw hw 63 rfl) (tw hw 5 rfl) (by decide) (by decide)) q311a q311c (g := (mkF m 9 #[rv a1, iv 0, iv 4, iv 0] [(.int (0 : Int32)), (.ref a1)])) rfl (by rw [hml]; rfl) (Steps.refl _) (argsL := [(.int (0 : Int32))]) (rest := []) (lenOf pd_13 rfl) rfl (by show 2 * 0 + _ ≤ _; exact Nat.le_of_eq rfl) (hb hby d18_9) (fun _ _ => ⟨rfl, e0, (by decide : 0 + 0 ≤ _), (by decide : 0 + 0 ≤ _)⟩)
  dsimp only [Pt.U, Pt.locs, Pt.cells, Pt.slots] at X311 l311 y311 z311 st311 hQ311
  subst l311 y311 z311
  obtain ⟨rfl, N311q, e311⟩ := hQ311
  have N311 := Fr.app N0 N311q
  refine Goes.step (T2 := T311) (g2 := (mkF m 12 #[rv a1, iv 0, iv 4, iv 0] [(.int c0)])) (fun _ hr => st311.trans hr) ?_
  refine Goes.step (T2 := T311) (g2 := (mkF m 14 #[rv a1, iv 0, iv 4, iv 0] [(.int (48 : Int32)), (.int c0)])) (fun _ hr => XS.bipush X311.here hx rfl (hb hby d18_12) hr) ?_
  by_cases hc14_312 : c0 < (48 : Int32)
  · refine Goes.step (T2 := T311) (g2 := (mkF m 27 #[rv a1, iv 0, iv 4, iv 0] [])) (fun _ hr => XS.icmpYes X311.here hx rfl (pc0 := 14) (pc' := 27) rfl (hb hby d18_14) rfl (tlt hc14_312).1 (by decide) (by decide) hr) ?_
    refine Goes.step (T2 := T311) (g2 := (mkF m 28 #[rv a1, iv 0, iv 4, iv 0] [(.int (0 : Int32))])) (fun _ hr => XS.iconst X311.here hx rfl (hb hby d18_27) hr) ?_
    exact Goes.ret (v := some (.int (0 : Int32))) X311 (by decide) (by decide) (fun h => by rw [Bd.returns] at h; cases h) ⟨by rw [show allD [c0, c1, c2, c3] = (0 : Int32) from (allD_no (dg_lo hc14_312))], N311, e311⟩ (fun fs hr => retN X311 hx (t := .boolean) Bd.returns (by simp) (hb hby d18_28) hr)
  · refine Goes.step (T2 := T311) (g2 := (mkF m 17 #[rv a1, iv 0, iv 4, iv 0] [])) (fun _ hr => XS.icmpNo X311.here hx rfl (hb hby d18_14) rfl (flt hc14_312).1 hr) ?_
    refine Goes.step (T2 := T311) (g2 := (mkF m 18 #[rv a1, iv 0, iv 4, iv 0] [(.ref a1)])) (fun _ hr => XS.aloadN X311.here hx rfl (hb hby d18_17) rfl rfl hr) ?_
    refine Goes.step (T2 := T311) (g2 := (mkF m 19 #[rv a1, iv 0, iv 4, iv 0] [(.int (0 : Int32)), (.ref a1)])) (fun _ hr => XS.iloadN X311.here hx rfl (hb hby d18_18) rfl  hr) ?_
    have Zs313 : n0 ≤ h0.size := Nat.le_trans Z0 K0.1
    obtain ⟨cq314, kq314, q314a, q314b, q314c⟩ := isOf hZ e311 E_a1
    obtain ⟨_, _, ⟨T314, L314, k314, n314⟩, -, X314, ⟨Lc314, hQ314, l314, y314, z314⟩, st314⟩ := X311.virtualBack hx (y := Y17) (z := Y17) hown (mvT hZ (tw hw 59 rfl)) (mvT hZ (tw hw 60 rfl)) (notFace_of_selects (args := #[]) (mvT hZ (tw hw 62 rfl))) (mvT hZ (tw hw 62 rfl)) (mvT hZ (tw hw 61 rfl)) (by decide) (backOf (W := 0) (rm_cat0 l Z a0 hw [] a1 cs c0 c1 c2 c3 vf h0 n0 Zs313 (Old.keep O0 K0 hws) E_a1 S0 S_String_COMPACT_STRINGS_old S_Preconditions_SIOOBE_FORMATTER_old S_StringUTF16__assertionsDisabled_old S_StringUTF16_HI_BYTE_SHIFT_old S_StringUTF16_LO_BYTE_SHIFT_old hcs hvf hb0) hZ (tw hw 63 rfl) (tw hw 5 rfl) (by decide) (by decide)) q314a q314c (g := (mkF m 19 #[rv a1, iv 0, iv 4, iv 0] [(.int (0 : Int32)), (.ref a1)])) rfl (by rw [hml]; rfl) (Steps.refl _) (argsL := [(.int (0 : Int32))]) (rest := []) (lenOf pd_13 rfl) rfl (by show 2 * 0 + _ ≤ _; exact Nat.le_of_eq rfl) (hb hby d18_19) (fun _ _ => ⟨rfl, e311, (by decide : 0 + 0 ≤ _), (by decide : 0 + 0 ≤ _)⟩)
    dsimp only [Pt.U, Pt.locs, Pt.cells, Pt.slots] at X314 l314 y314 z314 st314 hQ314
    subst l314 y314 z314
    obtain ⟨rfl, N314q, e314⟩ := hQ314
    have N314 := Fr.app N311 N314q
    refine Goes.step (T2 := T314) (g2 := (mkF m 22 #[rv a1, iv 0, iv 4, iv 0] [(.int c0)])) (fun _ hr => st314.trans hr) ?_
    refine Goes.step (T2 := T314) (g2 := (mkF m 24 #[rv a1, iv 0, iv 4, iv 0] [(.int (57 : Int32)), (.int c0)])) (fun _ hr => XS.bipush X314.here hx rfl (hb hby d18_22) hr) ?_
    by_cases hc24_315 : (57 : Int32) < c0
    · refine Goes.step (T2 := T314) (g2 := (mkF m 27 #[rv a1, iv 0, iv 4, iv 0] [])) (fun _ hr => XS.icmpNo X314.here hx rfl (hb hby d18_24) rfl (tlt hc24_315).2.2.2 hr) ?_
      refine Goes.step (T2 := T314) (g2 := (mkF m 28 #[rv a1, iv 0, iv 4, iv 0] [(.int (0 : Int32))])) (fun _ hr => XS.iconst X314.here hx rfl (hb hby d18_27) hr) ?_
      exact Goes.ret (v := some (.int (0 : Int32))) X314 (by decide) (by decide) (fun h => by rw [Bd.returns] at h; cases h) ⟨by rw [show allD [c0, c1, c2, c3] = (0 : Int32) from (allD_no (dg_hi hc24_315))], N314, e314⟩ (fun fs hr => retN X314 hx (t := .boolean) Bd.returns (by simp) (hb hby d18_28) hr)
    · refine Goes.step (T2 := T314) (g2 := (mkF m 29 #[rv a1, iv 0, iv 4, iv 0] [])) (fun _ hr => XS.icmpYes X314.here hx rfl (pc0 := 24) (pc' := 29) rfl (hb hby d18_24) rfl (flt hc24_315).2.2.2 (by decide) (by decide) hr) ?_
      refine Goes.step (T2 := T314) (g2 := (mkF m 32 #[rv a1, iv 0, iv 4, iv 1] [])) (fun _ hr => XS.iinc X314.here hx rfl (hb hby d18_29) rfl (l' := #[rv a1, iv 0, iv 4, iv 1]) rfl hr) ?_
      refine Goes.step (T2 := T314) (g2 := (mkF m 2 #[rv a1, iv 0, iv 4, iv 1] [])) (fun _ hr => XS.goto X314.here hx rfl (pc0 := 32) (pc' := 2) rfl (hb hby d18_32) (by decide) (by decide) hr) ?_
      refine Goes.step (T2 := T314) (g2 := (mkF m 3 #[rv a1, iv 0, iv 4, iv 1] [(.int (1 : Int32))])) (fun _ hr => XS.iloadN X314.here hx rfl (hb hby d18_2) rfl  hr) ?_
      refine Goes.step (T2 := T314) (g2 := (mkF m 4 #[rv a1, iv 0, iv 4, iv 1] [(.int (4 : Int32)), (.int (1 : Int32))])) (fun _ hr => XS.iloadN X314.here hx rfl (hb hby d18_3) rfl  hr) ?_
      refine Goes.step (T2 := T314) (g2 := (mkF m 7 #[rv a1, iv 0, iv 4, iv 1] [])) (fun _ hr => XS.icmpNo X314.here hx rfl (hb hby d18_4) rfl (tlt (by decide : (1 : Int32) < (4 : Int32))).2.1 hr) ?_
      refine Goes.step (T2 := T314) (g2 := (mkF m 8 #[rv a1, iv 0, iv 4, iv 1] [(.ref a1)])) (fun _ hr => XS.aloadN X314.here hx rfl (hb hby d18_7) rfl rfl hr) ?_
      refine Goes.step (T2 := T314) (g2 := (mkF m 9 #[rv a1, iv 0, iv 4, iv 1] [(.int (1 : Int32)), (.ref a1)])) (fun _ hr => XS.iloadN X314.here hx rfl (hb hby d18_8) rfl  hr) ?_
      have Zs316 : n0 ≤ h0.size := Nat.le_trans Z0 K0.1
      obtain ⟨cq317, kq317, q317a, q317b, q317c⟩ := isOf hZ e314 E_a1
      obtain ⟨_, _, ⟨T317, L317, k317, n317⟩, -, X317, ⟨Lc317, hQ317, l317, y317, z317⟩, st317⟩ := X314.virtualBack hx (y := Y17) (z := Y17) hown (mvT hZ (tw hw 59 rfl)) (mvT hZ (tw hw 60 rfl)) (notFace_of_selects (args := #[]) (mvT hZ (tw hw 62 rfl))) (mvT hZ (tw hw 62 rfl)) (mvT hZ (tw hw 61 rfl)) (by decide) (backOf (W := 0) (rm_cat1 l Z a0 hw [] a1 cs c0 c1 c2 c3 vf h0 n0 Zs316 (Old.keep O0 K0 hws) E_a1 S0 S_String_COMPACT_STRINGS_old S_Preconditions_SIOOBE_FORMATTER_old S_StringUTF16__assertionsDisabled_old S_StringUTF16_HI_BYTE_SHIFT_old S_StringUTF16_LO_BYTE_SHIFT_old hcs hvf hb1) hZ (tw hw 63 rfl) (tw hw 5 rfl) (by decide) (by decide)) q317a q317c (g := (mkF m 9 #[rv a1, iv 0, iv 4, iv 1] [(.int (1 : Int32)), (.ref a1)])) rfl (by rw [hml]; rfl) (Steps.refl _) (argsL := [(.int (1 : Int32))]) (rest := []) (lenOf pd_13 rfl) rfl (by show 2 * 0 + _ ≤ _; exact Nat.le_of_eq rfl) (hb hby d18_9) (fun _ _ => ⟨rfl, e314, (by decide : 0 + 0 ≤ _), (by decide : 0 + 0 ≤ _)⟩)
      dsimp only [Pt.U, Pt.locs, Pt.cells, Pt.slots] at X317 l317 y317 z317 st317 hQ317
      subst l317 y317 z317
      obtain ⟨rfl, N317q, e317⟩ := hQ317
      have N317 := Fr.app N314 N317q
      refine Goes.step (T2 := T317) (g2 := (mkF m 12 #[rv a1, iv 0, iv 4, iv 1] [(.int c1)])) (fun _ hr => st317.trans hr) ?_
      refine Goes.step (T2 := T317) (g2 := (mkF m 14 #[rv a1, iv 0, iv 4, iv 1] [(.int (48 : Int32)), (.int c1)])) (fun _ hr => XS.bipush X317.here hx rfl (hb hby d18_12) hr) ?_
      by_cases hc14_318 : c1 < (48 : Int32)
      · refine Goes.step (T2 := T317) (g2 := (mkF m 27 #[rv a1, iv 0, iv 4, iv 1] [])) (fun _ hr => XS.icmpYes X317.here hx rfl (pc0 := 14) (pc' := 27) rfl (hb hby d18_14) rfl (tlt hc14_318).1 (by decide) (by decide) hr) ?_
        refine Goes.step (T2 := T317) (g2 := (mkF m 28 #[rv a1, iv 0, iv 4, iv 1] [(.int (0 : Int32))])) (fun _ hr => XS.iconst X317.here hx rfl (hb hby d18_27) hr) ?_
        exact Goes.ret (v := some (.int (0 : Int32))) X317 (by decide) (by decide) (fun h => by rw [Bd.returns] at h; cases h) ⟨by rw [show allD [c0, c1, c2, c3] = (0 : Int32) from (allD_go (dg_yes hc14_312 hc24_315) (allD_no (dg_lo hc14_318)))], N317, e317⟩ (fun fs hr => retN X317 hx (t := .boolean) Bd.returns (by simp) (hb hby d18_28) hr)
      · refine Goes.step (T2 := T317) (g2 := (mkF m 17 #[rv a1, iv 0, iv 4, iv 1] [])) (fun _ hr => XS.icmpNo X317.here hx rfl (hb hby d18_14) rfl (flt hc14_318).1 hr) ?_
        refine Goes.step (T2 := T317) (g2 := (mkF m 18 #[rv a1, iv 0, iv 4, iv 1] [(.ref a1)])) (fun _ hr => XS.aloadN X317.here hx rfl (hb hby d18_17) rfl rfl hr) ?_
        refine Goes.step (T2 := T317) (g2 := (mkF m 19 #[rv a1, iv 0, iv 4, iv 1] [(.int (1 : Int32)), (.ref a1)])) (fun _ hr => XS.iloadN X317.here hx rfl (hb hby d18_18) rfl  hr) ?_
        have Zs319 : n0 ≤ h0.size := Nat.le_trans Z0 K0.1
        obtain ⟨cq320, kq320, q320a, q320b, q320c⟩ := isOf hZ e317 E_a1
        obtain ⟨_, _, ⟨T320, L320, k320, n320⟩, -, X320, ⟨Lc320, hQ320, l320, y320, z320⟩, st320⟩ := X317.virtualBack hx (y := Y17) (z := Y17) hown (mvT hZ (tw hw 59 rfl)) (mvT hZ (tw hw 60 rfl)) (notFace_of_selects (args := #[]) (mvT hZ (tw hw 62 rfl))) (mvT hZ (tw hw 62 rfl)) (mvT hZ (tw hw 61 rfl)) (by decide) (backOf (W := 0) (rm_cat1 l Z a0 hw [] a1 cs c0 c1 c2 c3 vf h0 n0 Zs319 (Old.keep O0 K0 hws) E_a1 S0 S_String_COMPACT_STRINGS_old S_Preconditions_SIOOBE_FORMATTER_old S_StringUTF16__assertionsDisabled_old S_StringUTF16_HI_BYTE_SHIFT_old S_StringUTF16_LO_BYTE_SHIFT_old hcs hvf hb1) hZ (tw hw 63 rfl) (tw hw 5 rfl) (by decide) (by decide)) q320a q320c (g := (mkF m 19 #[rv a1, iv 0, iv 4, iv 1] [(.int (1 : Int32)), (.ref a1)])) rfl (by rw [hml]; rfl) (Steps.refl _) (argsL := [(.int (1 : Int32))]) (rest := []) (lenOf pd_13 rfl) rfl (by show 2 * 0 + _ ≤ _; exact Nat.le_of_eq rfl) (hb hby d18_19) (fun _ _ => ⟨rfl, e317, (by decide : 0 + 0 ≤ _), (by decide : 0 + 0 ≤ _)⟩)
        dsimp only [Pt.U, Pt.locs, Pt.cells, Pt.slots] at X320 l320 y320 z320 st320 hQ320
        subst l320 y320 z320
        obtain ⟨rfl, N320q, e320⟩ := hQ320
        have N320 := Fr.app N317 N320q
        refine Goes.step (T2 := T320) (g2 := (mkF m 22 #[rv a1, iv 0, iv 4, iv 1] [(.int c1)])) (fun _ hr => st320.trans hr) ?_
        refine Goes.step (T2 := T320) (g2 := (mkF m 24 #[rv a1, iv 0, iv 4, iv 1] [(.int (57 : Int32)), (.int c1)])) (fun _ hr => XS.bipush X320.here hx rfl (hb hby d18_22) hr) ?_
        by_cases hc24_321 : (57 : Int32) < c1
        · refine Goes.step (T2 := T320) (g2 := (mkF m 27 #[rv a1, iv 0, iv 4, iv 1] [])) (fun _ hr => XS.icmpNo X320.here hx rfl (hb hby d18_24) rfl (tlt hc24_321).2.2.2 hr) ?_
          refine Goes.step (T2 := T320) (g2 := (mkF m 28 #[rv a1, iv 0, iv 4, iv 1] [(.int (0 : Int32))])) (fun _ hr => XS.iconst X320.here hx rfl (hb hby d18_27) hr) ?_
          exact Goes.ret (v := some (.int (0 : Int32))) X320 (by decide) (by decide) (fun h => by rw [Bd.returns] at h; cases h) ⟨by rw [show allD [c0, c1, c2, c3] = (0 : Int32) from (allD_go (dg_yes hc14_312 hc24_315) (allD_no (dg_hi hc24_321)))], N320, e320⟩ (fun fs hr => retN X320 hx (t := .boolean) Bd.returns (by simp) (hb hby d18_28) hr)
        · refine Goes.step (T2 := T320) (g2 := (mkF m 29 #[rv a1, iv 0, iv 4, iv 1] [])) (fun _ hr => XS.icmpYes X320.here hx rfl (pc0 := 24) (pc' := 29) rfl (hb hby d18_24) rfl (flt hc24_321).2.2.2 (by decide) (by decide) hr) ?_
          refine Goes.step (T2 := T320) (g2 := (mkF m 32 #[rv a1, iv 0, iv 4, iv 2] [])) (fun _ hr => XS.iinc X320.here hx rfl (hb hby d18_29) rfl (l' := #[rv a1, iv 0, iv 4, iv 2]) rfl hr) ?_
          refine Goes.step (T2 := T320) (g2 := (mkF m 2 #[rv a1, iv 0, iv 4, iv 2] [])) (fun _ hr => XS.goto X320.here hx rfl (pc0 := 32) (pc' := 2) rfl (hb hby d18_32) (by decide) (by decide) hr) ?_
          refine Goes.step (T2 := T320) (g2 := (mkF m 3 #[rv a1, iv 0, iv 4, iv 2] [(.int (2 : Int32))])) (fun _ hr => XS.iloadN X320.here hx rfl (hb hby d18_2) rfl  hr) ?_
          refine Goes.step (T2 := T320) (g2 := (mkF m 4 #[rv a1, iv 0, iv 4, iv 2] [(.int (4 : Int32)), (.int (2 : Int32))])) (fun _ hr => XS.iloadN X320.here hx rfl (hb hby d18_3) rfl  hr) ?_
          refine Goes.step (T2 := T320) (g2 := (mkF m 7 #[rv a1, iv 0, iv 4, iv 2] [])) (fun _ hr => XS.icmpNo X320.here hx rfl (hb hby d18_4) rfl (tlt (by decide : (2 : Int32) < (4 : Int32))).2.1 hr) ?_
          refine Goes.step (T2 := T320) (g2 := (mkF m 8 #[rv a1, iv 0, iv 4, iv 2] [(.ref a1)])) (fun _ hr => XS.aloadN X320.here hx rfl (hb hby d18_7) rfl rfl hr) ?_
          refine Goes.step (T2 := T320) (g2 := (mkF m 9 #[rv a1, iv 0, iv 4, iv 2] [(.int (2 : Int32)), (.ref a1)])) (fun _ hr => XS.iloadN X320.here hx rfl (hb hby d18_8) rfl  hr) ?_
          have Zs322 : n0 ≤ h0.size := Nat.le_trans Z0 K0.1
          obtain ⟨cq323, kq323, q323a, q323b, q323c⟩ := isOf hZ e320 E_a1
          obtain ⟨_, _, ⟨T323, L323, k323, n323⟩, -, X323, ⟨Lc323, hQ323, l323, y323, z323⟩, st323⟩ := X320.virtualBack hx (y := Y17) (z := Y17) hown (mvT hZ (tw hw 59 rfl)) (mvT hZ (tw hw 60 rfl)) (notFace_of_selects (args := #[]) (mvT hZ (tw hw 62 rfl))) (mvT hZ (tw hw 62 rfl)) (mvT hZ (tw hw 61 rfl)) (by decide) (backOf (W := 0) (rm_cat2 l Z a0 hw [] a1 cs c0 c1 c2 c3 vf h0 n0 Zs322 (Old.keep O0 K0 hws) E_a1 S0 S_String_COMPACT_STRINGS_old S_Preconditions_SIOOBE_FORMATTER_old S_StringUTF16__assertionsDisabled_old S_StringUTF16_HI_BYTE_SHIFT_old S_StringUTF16_LO_BYTE_SHIFT_old hcs hvf hb2) hZ (tw hw 63 rfl) (tw hw 5 rfl) (by decide) (by decide)) q323a q323c (g := (mkF m 9 #[rv a1, iv 0, iv 4, iv 2] [(.int (2 : Int32)), (.ref a1)])) rfl (by rw [hml]; rfl) (Steps.refl _) (argsL := [(.int (2 : Int32))]) (rest := []) (lenOf pd_13 rfl) rfl (by show 2 * 0 + _ ≤ _; exact Nat.le_of_eq rfl) (hb hby d18_9) (fun _ _ => ⟨rfl, e320, (by decide : 0 + 0 ≤ _), (by decide : 0 + 0 ≤ _)⟩)
          dsimp only [Pt.U, Pt.locs, Pt.cells, Pt.slots] at X323 l323 y323 z323 st323 hQ323
          subst l323 y323 z323
          obtain ⟨rfl, N323q, e323⟩ := hQ323
          have N323 := Fr.app N320 N323q
          refine Goes.step (T2 := T323) (g2 := (mkF m 12 #[rv a1, iv 0, iv 4, iv 2] [(.int c2)])) (fun _ hr => st323.trans hr) ?_
          refine Goes.step (T2 := T323) (g2 := (mkF m 14 #[rv a1, iv 0, iv 4, iv 2] [(.int (48 : Int32)), (.int c2)])) (fun _ hr => XS.bipush X323.here hx rfl (hb hby d18_12) hr) ?_
          by_cases hc14_324 : c2 < (48 : Int32)
          · refine Goes.step (T2 := T323) (g2 := (mkF m 27 #[rv a1, iv 0, iv 4, iv 2] [])) (fun _ hr => XS.icmpYes X323.here hx rfl (pc0 := 14) (pc' := 27) rfl (hb hby d18_14) rfl (tlt hc14_324).1 (by decide) (by decide) hr) ?_
            refine Goes.step (T2 := T323) (g2 := (mkF m 28 #[rv a1, iv 0, iv 4, iv 2] [(.int (0 : Int32))])) (fun _ hr => XS.iconst X323.here hx rfl (hb hby d18_27) hr) ?_
            exact Goes.ret (v := some (.int (0 : Int32))) X323 (by decide) (by decide) (fun h => by rw [Bd.returns] at h; cases h) ⟨by rw [show allD [c0, c1, c2, c3] = (0 : Int32) from (allD_go (dg_yes hc14_312 hc24_315) (allD_go (dg_yes hc14_318 hc24_321) (allD_no (dg_lo hc14_324))))], N323, e323⟩ (fun fs hr => retN X323 hx (t := .boolean) Bd.returns (by simp) (hb hby d18_28) hr)
          · refine Goes.step (T2 := T323) (g2 := (mkF m 17 #[rv a1, iv 0, iv 4, iv 2] [])) (fun _ hr => XS.icmpNo X323.here hx rfl (hb hby d18_14) rfl (flt hc14_324).1 hr) ?_
            refine Goes.step (T2 := T323) (g2 := (mkF m 18 #[rv a1, iv 0, iv 4, iv 2] [(.ref a1)])) (fun _ hr => XS.aloadN X323.here hx rfl (hb hby d18_17) rfl rfl hr) ?_
            refine Goes.step (T2 := T323) (g2 := (mkF m 19 #[rv a1, iv 0, iv 4, iv 2] [(.int (2 : Int32)), (.ref a1)])) (fun _ hr => XS.iloadN X323.here hx rfl (hb hby d18_18) rfl  hr) ?_
            have Zs325 : n0 ≤ h0.size := Nat.le_trans Z0 K0.1
            obtain ⟨cq326, kq326, q326a, q326b, q326c⟩ := isOf hZ e323 E_a1
            obtain ⟨_, _, ⟨T326, L326, k326, n326⟩, -, X326, ⟨Lc326, hQ326, l326, y326, z326⟩, st326⟩ := X323.virtualBack hx (y := Y17) (z := Y17) hown (mvT hZ (tw hw 59 rfl)) (mvT hZ (tw hw 60 rfl)) (notFace_of_selects (args := #[]) (mvT hZ (tw hw 62 rfl))) (mvT hZ (tw hw 62 rfl)) (mvT hZ (tw hw 61 rfl)) (by decide) (backOf (W := 0) (rm_cat2 l Z a0 hw [] a1 cs c0 c1 c2 c3 vf h0 n0 Zs325 (Old.keep O0 K0 hws) E_a1 S0 S_String_COMPACT_STRINGS_old S_Preconditions_SIOOBE_FORMATTER_old S_StringUTF16__assertionsDisabled_old S_StringUTF16_HI_BYTE_SHIFT_old S_StringUTF16_LO_BYTE_SHIFT_old hcs hvf hb2) hZ (tw hw 63 rfl) (tw hw 5 rfl) (by decide) (by decide)) q326a q326c (g := (mkF m 19 #[rv a1, iv 0, iv 4, iv 2] [(.int (2 : Int32)), (.ref a1)])) rfl (by rw [hml]; rfl) (Steps.refl _) (argsL := [(.int (2 : Int32))]) (rest := []) (lenOf pd_13 rfl) rfl (by show 2 * 0 + _ ≤ _; exact Nat.le_of_eq rfl) (hb hby d18_19) (fun _ _ => ⟨rfl, e323, (by decide : 0 + 0 ≤ _), (by decide : 0 + 0 ≤ _)⟩)
            dsimp only [Pt.U, Pt.locs, Pt.cells, Pt.slots] at X326 l326 y326 z326 st326 hQ326
            subst l326 y326 z326
            obtain ⟨rfl, N326q, e326⟩ := hQ326
            have N326 := Fr.app N323 N326q
            refine Goes.step (T2 := T326) (g2 := (mkF m 22 #[rv a1, iv 0, iv 4, iv 2] [(.int c2)])) (fun _ hr => st326.trans hr) ?_
            refine Goes.step (T2 := T326) (g2 := (mkF m 24 #[rv a1, iv 0, iv 4, iv 2] [(.int (57 : Int32)), (.int c2)])) (fun _ hr => XS.bipush X326.here hx rfl (hb hby d18_22) hr) ?_
            by_cases hc24_327 : (57 : Int32) < c2
            · refine Goes.step (T2 := T326) (g2 := (mkF m 27 #[rv a1, iv 0, iv 4, iv 2] [])) (fun _ hr => XS.icmpNo X326.here hx rfl (hb hby d18_24) rfl (tlt hc24_327).2.2.2 hr) ?_
              refine Goes.step (T2 := T326) (g2 := (mkF m 28 #[rv a1, iv 0, iv 4, iv 2] [(.int (0 : Int32))])) (fun _ hr => XS.iconst X326.here hx rfl (hb hby d18_27) hr) ?_
              exact Goes.ret (v := some (.int (0 : Int32))) X326 (by decide) (by decide) (fun h => by rw [Bd.returns] at h; cases h) ⟨by rw [show allD [c0, c1, c2, c3] = (0 : Int32) from (allD_go (dg_yes hc14_312 hc24_315) (allD_go (dg_yes hc14_318 hc24_321) (allD_no (dg_hi hc24_327))))], N326, e326⟩ (fun fs hr => retN X326 hx (t := .boolean) Bd.returns (by simp) (hb hby d18_28) hr)
            · refine Goes.step (T2 := T326) (g2 := (mkF m 29 #[rv a1, iv 0, iv 4, iv 2] [])) (fun _ hr => XS.icmpYes X326.here hx rfl (pc0 := 24) (pc' := 29) rfl (hb hby d18_24) rfl (flt hc24_327).2.2.2 (by decide) (by decide) hr) ?_
              refine Goes.step (T2 := T326) (g2 := (mkF m 32 #[rv a1, iv 0, iv 4, iv 3] [])) (fun _ hr => XS.iinc X326.here hx rfl (hb hby d18_29) rfl (l' := #[rv a1, iv 0, iv 4, iv 3]) rfl hr) ?_
              refine Goes.step (T2 := T326) (g2 := (mkF m 2 #[rv a1, iv 0, iv 4, iv 3] [])) (fun _ hr => XS.goto X326.here hx rfl (pc0 := 32) (pc' := 2) rfl (hb hby d18_32) (by decide) (by decide) hr) ?_
              refine Goes.step (T2 := T326) (g2 := (mkF m 3 #[rv a1, iv 0, iv 4, iv 3] [(.int (3 : Int32))])) (fun _ hr => XS.iloadN X326.here hx rfl (hb hby d18_2) rfl  hr) ?_
              refine Goes.step (T2 := T326) (g2 := (mkF m 4 #[rv a1, iv 0, iv 4, iv 3] [(.int (4 : Int32)), (.int (3 : Int32))])) (fun _ hr => XS.iloadN X326.here hx rfl (hb hby d18_3) rfl  hr) ?_
              refine Goes.step (T2 := T326) (g2 := (mkF m 7 #[rv a1, iv 0, iv 4, iv 3] [])) (fun _ hr => XS.icmpNo X326.here hx rfl (hb hby d18_4) rfl (tlt (by decide : (3 : Int32) < (4 : Int32))).2.1 hr) ?_
              refine Goes.step (T2 := T326) (g2 := (mkF m 8 #[rv a1, iv 0, iv 4, iv 3] [(.ref a1)])) (fun _ hr => XS.aloadN X326.here hx rfl (hb hby d18_7) rfl rfl hr) ?_
              refine Goes.step (T2 := T326) (g2 := (mkF m 9 #[rv a1, iv 0, iv 4, iv 3] [(.int (3 : Int32)), (.ref a1)])) (fun _ hr => XS.iloadN X326.here hx rfl (hb hby d18_8) rfl  hr) ?_
              have Zs328 : n0 ≤ h0.size := Nat.le_trans Z0 K0.1
              obtain ⟨cq329, kq329, q329a, q329b, q329c⟩ := isOf hZ e326 E_a1
              obtain ⟨_, _, ⟨T329, L329, k329, n329⟩, -, X329, ⟨Lc329, hQ329, l329, y329, z329⟩, st329⟩ := X326.virtualBack hx (y := Y17) (z := Y17) hown (mvT hZ (tw hw 59 rfl)) (mvT hZ (tw hw 60 rfl)) (notFace_of_selects (args := #[]) (mvT hZ (tw hw 62 rfl))) (mvT hZ (tw hw 62 rfl)) (mvT hZ (tw hw 61 rfl)) (by decide) (backOf (W := 0) (rm_cat3 l Z a0 hw [] a1 cs c0 c1 c2 c3 vf h0 n0 Zs328 (Old.keep O0 K0 hws) E_a1 S0 S_String_COMPACT_STRINGS_old S_Preconditions_SIOOBE_FORMATTER_old S_StringUTF16__assertionsDisabled_old S_StringUTF16_HI_BYTE_SHIFT_old S_StringUTF16_LO_BYTE_SHIFT_old hcs hvf hb3) hZ (tw hw 63 rfl) (tw hw 5 rfl) (by decide) (by decide)) q329a q329c (g := (mkF m 9 #[rv a1, iv 0, iv 4, iv 3] [(.int (3 : Int32)), (.ref a1)])) rfl (by rw [hml]; rfl) (Steps.refl _) (argsL := [(.int (3 : Int32))]) (rest := []) (lenOf pd_13 rfl) rfl (by show 2 * 0 + _ ≤ _; exact Nat.le_of_eq rfl) (hb hby d18_9) (fun _ _ => ⟨rfl, e326, (by decide : 0 + 0 ≤ _), (by decide : 0 + 0 ≤ _)⟩)
              dsimp only [Pt.U, Pt.locs, Pt.cells, Pt.slots] at X329 l329 y329 z329 st329 hQ329
              subst l329 y329 z329
              obtain ⟨rfl, N329q, e329⟩ := hQ329
              have N329 := Fr.app N326 N329q
              refine Goes.step (T2 := T329) (g2 := (mkF m 12 #[rv a1, iv 0, iv 4, iv 3] [(.int c3)])) (fun _ hr => st329.trans hr) ?_
              refine Goes.step (T2 := T329) (g2 := (mkF m 14 #[rv a1, iv 0, iv 4, iv 3] [(.int (48 : Int32)), (.int c3)])) (fun _ hr => XS.bipush X329.here hx rfl (hb hby d18_12) hr) ?_
              by_cases hc14_330 : c3 < (48 : Int32)
              · refine Goes.step (T2 := T329) (g2 := (mkF m 27 #[rv a1, iv 0, iv 4, iv 3] [])) (fun _ hr => XS.icmpYes X329.here hx rfl (pc0 := 14) (pc' := 27) rfl (hb hby d18_14) rfl (tlt hc14_330).1 (by decide) (by decide) hr) ?_
                refine Goes.step (T2 := T329) (g2 := (mkF m 28 #[rv a1, iv 0, iv 4, iv 3] [(.int (0 : Int32))])) (fun _ hr => XS.iconst X329.here hx rfl (hb hby d18_27) hr) ?_
                exact Goes.ret (v := some (.int (0 : Int32))) X329 (by decide) (by decide) (fun h => by rw [Bd.returns] at h; cases h) ⟨by rw [show allD [c0, c1, c2, c3] = (0 : Int32) from (allD_go (dg_yes hc14_312 hc24_315) (allD_go (dg_yes hc14_318 hc24_321) (allD_go (dg_yes hc14_324 hc24_327) (allD_no (dg_lo hc14_330)))))], N329, e329⟩ (fun fs hr => retN X329 hx (t := .boolean) Bd.returns (by simp) (hb hby d18_28) hr)
              · refine Goes.step (T2 := T329) (g2 := (mkF m 17 #[rv a1, iv 0, iv 4, iv 3] [])) (fun _ hr => XS.icmpNo X329.here hx rfl (hb hby d18_14) rfl (flt hc14_330).1 hr) ?_
                refine Goes.step (T2 := T329) (g2 := (mkF m 18 #[rv a1, iv 0, iv 4, iv 3] [(.ref a1)])) (fun _ hr => XS.aloadN X329.here hx rfl (hb hby d18_17) rfl rfl hr) ?_
                refine Goes.step (T2 := T329) (g2 := (mkF m 19 #[rv a1, iv 0, iv 4, iv 3] [(.int (3 : Int32)), (.ref a1)])) (fun _ hr => XS.iloadN X329.here hx rfl (hb hby d18_18) rfl  hr) ?_
                have Zs331 : n0 ≤ h0.size := Nat.le_trans Z0 K0.1
                obtain ⟨cq332, kq332, q332a, q332b, q332c⟩ := isOf hZ e329 E_a1
                obtain ⟨_, _, ⟨T332, L332, k332, n332⟩, -, X332, ⟨Lc332, hQ332, l332, y332, z332⟩, st332⟩ := X329.virtualBack hx (y := Y17) (z := Y17) hown (mvT hZ (tw hw 59 rfl)) (mvT hZ (tw hw 60 rfl)) (notFace_of_selects (args := #[]) (mvT hZ (tw hw 62 rfl))) (mvT hZ (tw hw 62 rfl)) (mvT hZ (tw hw 61 rfl)) (by decide) (backOf (W := 0) (rm_cat3 l Z a0 hw [] a1 cs c0 c1 c2 c3 vf h0 n0 Zs331 (Old.keep O0 K0 hws) E_a1 S0 S_String_COMPACT_STRINGS_old S_Preconditions_SIOOBE_FORMATTER_old S_StringUTF16__assertionsDisabled_old S_StringUTF16_HI_BYTE_SHIFT_old S_StringUTF16_LO_BYTE_SHIFT_old hcs hvf hb3) hZ (tw hw 63 rfl) (tw hw 5 rfl) (by decide) (by decide)) q332a q332c (g := (mkF m 19 #[rv a1, iv 0, iv 4, iv 3] [(.int (3 : Int32)), (.ref a1)])) rfl (by rw [hml]; rfl) (Steps.refl _) (argsL := [(.int (3 : Int32))]) (rest := []) (lenOf pd_13 rfl) rfl (by show 2 * 0 + _ ≤ _; exact Nat.le_of_eq rfl) (hb hby d18_19) (fun _ _ => ⟨rfl, e329, (by decide : 0 + 0 ≤ _), (by decide : 0 + 0 ≤ _)⟩)
                dsimp only [Pt.U, Pt.locs, Pt.cells, Pt.slots] at X332 l332 y332 z332 st332 hQ332
                subst l332 y332 z332
                obtain ⟨rfl, N332q, e332⟩ := hQ332
                have N332 := Fr.app N329 N332q
                refine Goes.step (T2 := T332) (g2 := (mkF m 22 #[rv a1, iv 0, iv 4, iv 3] [(.int c3)])) (fun _ hr => st332.trans hr) ?_
                refine Goes.step (T2 := T332) (g2 := (mkF m 24 #[rv a1, iv 0, iv 4, iv 3] [(.int (57 : Int32)), (.int c3)])) (fun _ hr => XS.bipush X332.here hx rfl (hb hby d18_22) hr) ?_
                by_cases hc24_333 : (57 : Int32) < c3
                · refine Goes.step (T2 := T332) (g2 := (mkF m 27 #[rv a1, iv 0, iv 4, iv 3] [])) (fun _ hr => XS.icmpNo X332.here hx rfl (hb hby d18_24) rfl (tlt hc24_333).2.2.2 hr) ?_
                  refine Goes.step (T2 := T332) (g2 := (mkF m 28 #[rv a1, iv 0, iv 4, iv 3] [(.int (0 : Int32))])) (fun _ hr => XS.iconst X332.here hx rfl (hb hby d18_27) hr) ?_
                  exact Goes.ret (v := some (.int (0 : Int32))) X332 (by decide) (by decide) (fun h => by rw [Bd.returns] at h; cases h) ⟨by rw [show allD [c0, c1, c2, c3] = (0 : Int32) from (allD_go (dg_yes hc14_312 hc24_315) (allD_go (dg_yes hc14_318 hc24_321) (allD_go (dg_yes hc14_324 hc24_327) (allD_no (dg_hi hc24_333)))))], N332, e332⟩ (fun fs hr => retN X332 hx (t := .boolean) Bd.returns (by simp) (hb hby d18_28) hr)
                · refine Goes.step (T2 := T332) (g2 := (mkF m 29 #[rv a1, iv 0, iv 4, iv 3] [])) (fun _ hr => XS.icmpYes X332.here hx rfl (pc0 := 24) (pc' := 29) rfl (hb hby d18_24) rfl (flt hc24_333).2.2.2 (by decide) (by decide) hr) ?_
                  refine Goes.step (T2 := T332) (g2 := (mkF m 32 #[rv a1, iv 0, iv 4, iv 4] [])) (fun _ hr => XS.iinc X332.here hx rfl (hb hby d18_29) rfl (l' := #[rv a1, iv 0, iv 4, iv 4]) rfl hr) ?_
                  refine Goes.step (T2 := T332) (g2 := (mkF m 2 #[rv a1, iv 0, iv 4, iv 4] [])) (fun _ hr => XS.goto X332.here hx rfl (pc0 := 32) (pc' := 2) rfl (hb hby d18_32) (by decide) (by decide) hr) ?_
                  refine Goes.step (T2 := T332) (g2 := (mkF m 3 #[rv a1, iv 0, iv 4, iv 4] [(.int (4 : Int32))])) (fun _ hr => XS.iloadN X332.here hx rfl (hb hby d18_2) rfl  hr) ?_
                  refine Goes.step (T2 := T332) (g2 := (mkF m 4 #[rv a1, iv 0, iv 4, iv 4] [(.int (4 : Int32)), (.int (4 : Int32))])) (fun _ hr => XS.iloadN X332.here hx rfl (hb hby d18_3) rfl  hr) ?_
                  refine Goes.step (T2 := T332) (g2 := (mkF m 35 #[rv a1, iv 0, iv 4, iv 4] [])) (fun _ hr => XS.icmpYes X332.here hx rfl (pc0 := 4) (pc' := 35) rfl (hb hby d18_4) rfl (flt (by decide : ¬ ((4 : Int32) < (4 : Int32)))).2.1 (by decide) (by decide) hr) ?_
                  refine Goes.step (T2 := T332) (g2 := (mkF m 36 #[rv a1, iv 0, iv 4, iv 4] [(.int (1 : Int32))])) (fun _ hr => XS.iconst X332.here hx rfl (hb hby d18_35) hr) ?_
                  exact Goes.ret (v := some (.int (1 : Int32))) X332 (by decide) (by decide) (fun h => by rw [Bd.returns] at h; cases h) ⟨by rw [show allD [c0, c1, c2, c3] = (1 : Int32) from (allD_go (dg_yes hc14_312 hc24_315) (allD_go (dg_yes hc14_318 hc24_321) (allD_go (dg_yes hc14_324 hc24_327) (allD_go (dg_yes hc14_330 hc24_333) rfl))))], N332, e332⟩ (fun fs hr => retN X332 hx (t := .boolean) Bd.returns (by simp) (hb hby d18_36) hr)
def Q_rm_ad10 (Z : State) (a1 : Addr) (cs : Int32) (c0 : Int32) (c1 : Int32) (c2 : Int32) (c3 : Int32) (vf : Value) (h0 : Heap) (n0 : Nat) (v : Option Value) (h : Heap) (L : List Loc) : Prop := v = some (.int (allD [])) ∧ Fr n0 L ∧ h = h0
set_option maxRecDepth 65536 in
set_option maxHeartbeats 40000000 in
theorem rm_ad10 (l : Launch) (Z : State) (a0 : Array Value) (hw : ∀ d ∈ tables_1, d.before a0 Z = true) (ws : List Jvm.Cond) (a1 : Addr) (cs : Int32) (c0 : Int32) (c1 : Int32) (c2 : Int32) (c3 : Int32) (vf : Value) (h0 : Heap) (n0 : Nat) (Z0 : n0 ≤ h0.size) (O0 : Old Z n0 h0) (E_a1 : Exa Z h0 a1 "java/lang/String") (S_String_COMPACT_STRINGS_old : Sta Z Z.heap "java/lang/String" "COMPACT_STRINGS" "Z" (.int cs)) (S_Preconditions_SIOOBE_FORMATTER_old : Sta Z Z.heap "jdk/internal/util/Preconditions" "SIOOBE_FORMATTER" "Ljava/util/function/BiFunction;" vf) (S_StringUTF16__assertionsDisabled_old : Sta Z Z.heap "java/lang/StringUTF16" "$assertionsDisabled" "Z" (.int (1 : Int32))) (S_StringUTF16_HI_BYTE_SHIFT_old : Sta Z Z.heap "java/lang/StringUTF16" "HI_BYTE_SHIFT" "I" (.int (0 : Int32))) (S_StringUTF16_LO_BYTE_SHIFT_old : Sta Z Z.heap "java/lang/StringUTF16" "LO_BYTE_SHIFT" "I" (.int (8 : Int32))) (hcs : ¬ (cs = (0 : Int32))) (hvf : vf.isRef = true) (hb0 : B16 c0) (hb1 : B16 c1) (hb2 : B16 c2) (hb3 : B16 c3) (S0 : Sch Z h0 a1 c0 c1 c2 c3) :
    MetFree l Y18 (head1 (Jvm.Cond.code Y18 prog_32_method_41_code 4 (some .boolean) :: ws) ({ frames := 6, cells := 0, slots := 0, locals := 110 } : Room)) (fun a U => a = #[(.ref a1), (.int (1 : Int32)), (.int (0 : Int32))] ∧ Z.Warmed39 U.vm ∧ U.heap = h0) (fun _ _ _ _ _ => True) (fun _ U o U' => ∃ v L, o = .returned v ∧ Q_rm_ad10 Z a1 cs c0 c1 c2 c3 vf h0 n0 v U'.heap L ∧ FrameEnd U o U' L ({ frames := 6, cells := 0, slots := 0, locals := 110 } : Room).cells ({ frames := 6, cells := 0, slots := 0, locals := 110 } : Room).slots) := by
  refine MetFree.of_bodySF (plainFor_of_name pn_com_example_api_policy_gateway_apipolicygateway_proxy_HeaderFields) hisR ?_
  intro p e s m args below meth c s₁ Bd hml0 hP hK
  obtain ⟨rfl, hZ, hh⟩ := hP
  have hx := Bd.exec
  have hby := Bd.bytes
  have hml : c.maxLocals = 4 := hml0
  have hown : s.vm.findClass "com/example/api_policy_gateway/apipolicygateway/proxy/HeaderFields" = some m.cls := findClass_of_methodNamed Bd.named
  have hnm := (name_of_methodNamed Bd.named Bd.method).1
  have X0 : Stand p l e ({ frames := 6, cells := 0, slots := 0, locals := 110 } : Room) s m #[(.ref a1), (.int (1 : Int32)), (.int (0 : Int32))] below meth c s₁ [] 0 0 := Stand.of_body Bd
  have e0 : s₁.heap = h0 := by rw [← hh, Bd.state]; rfl
  have N0 := Fr.nil n0
  refine Goes.out (l := l) (c := c) (R := ({ frames := 6, cells := 0, slots := 0, locals := 110 } : Room)) (Q := Q_rm_ad10 Z a1 cs c0 c1 c2 c3 vf h0 n0) Bd.notSynchronized ?_
  refine Goes.cast (g2 := mkF m 0 #[rv a1, iv 1, iv 0, .unset] []) (by first | (simp [entryFrame, mkF, argsToLocals, Value.category]; done) | rfl) ?_
  have K0 : Keep h0 h0 [] := Keep.refl h0 _
  have hws : ∀ x ∈ ([] : List Addr), n0 ≤ x := all0
  refine Goes.step (T2 := s₁) (g2 := (mkF m 1 #[rv a1, iv 1, iv 0, .unset] [(.int (1 : Int32))])) (fun _ hr => XS.iloadN X0.here hx rfl (hb hby d18_0) rfl  hr) ?_
  refine Goes.step (T2 := s₁) (g2 := (mkF m 2 #[rv a1, iv 1, iv 0, iv 1] [])) (fun _ hr => XS.istoreN X0.here hx rfl (hb hby d18_1) rfl (l' := #[rv a1, iv 1, iv 0, iv 1]) rfl hr) ?_
  refine Goes.step (T2 := s₁) (g2 := (mkF m 3 #[rv a1, iv 1, iv 0, iv 1] [(.int (1 : Int32))])) (fun _ hr => XS.iloadN X0.here hx rfl (hb hby d18_2) rfl  hr) ?_
  refine Goes.step (T2 := s₁) (g2 := (mkF m 4 #[rv a1, iv 1, iv 0, iv 1] [(.int (0 : Int32)), (.int (1 : Int32))])) (fun _ hr => XS.iloadN X0.here hx rfl (hb hby d18_3) rfl  hr) ?_
  refine Goes.step (T2 := s₁) (g2 := (mkF m 35 #[rv a1, iv 1, iv 0, iv 1] [])) (fun _ hr => XS.icmpYes X0.here hx rfl (pc0 := 4) (pc' := 35) rfl (hb hby d18_4) rfl (flt (by decide : ¬ ((1 : Int32) < (0 : Int32)))).2.1 (by decide) (by decide) hr) ?_
  refine Goes.step (T2 := s₁) (g2 := (mkF m 36 #[rv a1, iv 1, iv 0, iv 1] [(.int (1 : Int32))])) (fun _ hr => XS.iconst X0.here hx rfl (hb hby d18_35) hr) ?_
  exact Goes.ret (v := some (.int (1 : Int32))) X0 (by decide) (by decide) (fun h => by rw [Bd.returns] at h; cases h) ⟨by rw [show allD [] = (1 : Int32) from rfl], N0, e0⟩ (fun fs hr => retN X0 hx (t := .boolean) Bd.returns (by simp) (hb hby d18_36) hr)
def Q_rm_ad11 (Z : State) (a1 : Addr) (cs : Int32) (c0 : Int32) (c1 : Int32) (c2 : Int32) (c3 : Int32) (vf : Value) (h0 : Heap) (n0 : Nat) (v : Option Value) (h : Heap) (L : List Loc) : Prop := v = some (.int (allD [])) ∧ Fr n0 L ∧ h = h0
set_option maxRecDepth 65536 in
set_option maxHeartbeats 40000000 in
theorem rm_ad11 (l : Launch) (Z : State) (a0 : Array Value) (hw : ∀ d ∈ tables_1, d.before a0 Z = true) (ws : List Jvm.Cond) (a1 : Addr) (cs : Int32) (c0 : Int32) (c1 : Int32) (c2 : Int32) (c3 : Int32) (vf : Value) (h0 : Heap) (n0 : Nat) (Z0 : n0 ≤ h0.size) (O0 : Old Z n0 h0) (E_a1 : Exa Z h0 a1 "java/lang/String") (S_String_COMPACT_STRINGS_old : Sta Z Z.heap "java/lang/String" "COMPACT_STRINGS" "Z" (.int cs)) (S_Preconditions_SIOOBE_FORMATTER_old : Sta Z Z.heap "jdk/internal/util/Preconditions" "SIOOBE_FORMATTER" "Ljava/util/function/BiFunction;" vf) (S_StringUTF16__assertionsDisabled_old : Sta Z Z.heap "java/lang/StringUTF16" "$assertionsDisabled" "Z" (.int (1 : Int32))) (S_StringUTF16_HI_BYTE_SHIFT_old : Sta Z Z.heap "java/lang/StringUTF16" "HI_BYTE_SHIFT" "I" (.int (0 : Int32))) (S_StringUTF16_LO_BYTE_SHIFT_old : Sta Z Z.heap "java/lang/StringUTF16" "LO_BYTE_SHIFT" "I" (.int (8 : Int32))) (hcs : ¬ (cs = (0 : Int32))) (hvf : vf.isRef = true) (hb0 : B16 c0) (hb1 : B16 c1) (hb2 : B16 c2) (hb3 : B16 c3) (S0 : Sch Z h0 a1 c0 c1 c2 c3) :
    MetFree l Y18 (head1 (Jvm.Cond.code Y18 prog_32_method_41_code 4 (some .boolean) :: ws) ({ frames := 6, cells := 0, slots := 0, locals := 110 } : Room)) (fun a U => a = #[(.ref a1), (.int (1 : Int32)), (.int (1 : Int32))] ∧ Z.Warmed39 U.vm ∧ U.heap = h0) (fun _ _ _ _ _ => True) (fun _ U o U' => ∃ v L, o = .returned v ∧ Q_rm_ad11 Z a1 cs c0 c1 c2 c3 vf h0 n0 v U'.heap L ∧ FrameEnd U o U' L ({ frames := 6, cells := 0, slots := 0, locals := 110 } : Room).cells ({ frames := 6, cells := 0, slots := 0, locals := 110 } : Room).slots) := by
  refine MetFree.of_bodySF (plainFor_of_name pn_com_example_api_policy_gateway_apipolicygateway_proxy_HeaderFields) hisR ?_
  intro p e s m args below meth c s₁ Bd hml0 hP hK
  obtain ⟨rfl, hZ, hh⟩ := hP
  have hx := Bd.exec
  have hby := Bd.bytes
  have hml : c.maxLocals = 4 := hml0
  have hown : s.vm.findClass "com/example/api_policy_gateway/apipolicygateway/proxy/HeaderFields" = some m.cls := findClass_of_methodNamed Bd.named
  have hnm := (name_of_methodNamed Bd.named Bd.method).1
  have X0 : Stand p l e ({ frames := 6, cells := 0, slots := 0, locals := 110 } : Room) s m #[(.ref a1), (.int (1 : Int32)), (.int (1 : Int32))] below meth c s₁ [] 0 0 := Stand.of_body Bd
  have e0 : s₁.heap = h0 := by rw [← hh, Bd.state]; rfl
  have N0 := Fr.nil n0
  refine Goes.out (l := l) (c := c) (R := ({ frames := 6, cells := 0, slots := 0, locals := 110 } : Room)) (Q := Q_rm_ad11 Z a1 cs c0 c1 c2 c3 vf h0 n0) Bd.notSynchronized ?_
  refine Goes.cast (g2 := mkF m 0 #[rv a1, iv 1, iv 1, .unset] []) (by first | (simp [entryFrame, mkF, argsToLocals, Value.category]; done) | rfl) ?_
  have K0 : Keep h0 h0 [] := Keep.refl h0 _
  have hws : ∀ x ∈ ([] : List Addr), n0 ≤ x := all0
  refine Goes.step (T2 := s₁) (g2 := (mkF m 1 #[rv a1, iv 1, iv 1, .unset] [(.int (1 : Int32))])) (fun _ hr => XS.iloadN X0.here hx rfl (hb hby d18_0) rfl  hr) ?_
  refine Goes.step (T2 := s₁) (g2 := (mkF m 2 #[rv a1, iv 1, iv 1, iv 1] [])) (fun _ hr => XS.istoreN X0.here hx rfl (hb hby d18_1) rfl (l' := #[rv a1, iv 1, iv 1, iv 1]) rfl hr) ?_
  refine Goes.step (T2 := s₁) (g2 := (mkF m 3 #[rv a1, iv 1, iv 1, iv 1] [(.int (1 : Int32))])) (fun _ hr => XS.iloadN X0.here hx rfl (hb hby d18_2) rfl  hr) ?_
  refine Goes.step (T2 := s₁) (g2 := (mkF m 4 #[rv a1, iv 1, iv 1, iv 1] [(.int (1 : Int32)), (.int (1 : Int32))])) (fun _ hr => XS.iloadN X0.here hx rfl (hb hby d18_3) rfl  hr) ?_
  refine Goes.step (T2 := s₁) (g2 := (mkF m 35 #[rv a1, iv 1, iv 1, iv 1] [])) (fun _ hr => XS.icmpYes X0.here hx rfl (pc0 := 4) (pc' := 35) rfl (hb hby d18_4) rfl (flt (by decide : ¬ ((1 : Int32) < (1 : Int32)))).2.1 (by decide) (by decide) hr) ?_
  refine Goes.step (T2 := s₁) (g2 := (mkF m 36 #[rv a1, iv 1, iv 1, iv 1] [(.int (1 : Int32))])) (fun _ hr => XS.iconst X0.here hx rfl (hb hby d18_35) hr) ?_
  exact Goes.ret (v := some (.int (1 : Int32))) X0 (by decide) (by decide) (fun h => by rw [Bd.returns] at h; cases h) ⟨by rw [show allD [] = (1 : Int32) from rfl], N0, e0⟩ (fun fs hr => retN X0 hx (t := .boolean) Bd.returns (by simp) (hb hby d18_36) hr)
def Q_rm_ad12 (Z : State) (a1 : Addr) (cs : Int32) (c0 : Int32) (c1 : Int32) (c2 : Int32) (c3 : Int32) (vf : Value) (h0 : Heap) (n0 : Nat) (v : Option Value) (h : Heap) (L : List Loc) : Prop := v = some (.int (allD [c1])) ∧ Fr n0 L ∧ h = h0
set_option maxRecDepth 65536 in
set_option maxHeartbeats 40000000 in
theorem rm_ad12 (l : Launch) (Z : State) (a0 : Array Value) (hw : ∀ d ∈ tables_1, d.before a0 Z = true) (ws : List Jvm.Cond) (a1 : Addr) (cs : Int32) (c0 : Int32) (c1 : Int32) (c2 : Int32) (c3 : Int32) (vf : Value) (h0 : Heap) (n0 : Nat) (Z0 : n0 ≤ h0.size) (O0 : Old Z n0 h0) (E_a1 : Exa Z h0 a1 "java/lang/String") (S_String_COMPACT_STRINGS_old : Sta Z Z.heap "java/lang/String" "COMPACT_STRINGS" "Z" (.int cs)) (S_Preconditions_SIOOBE_FORMATTER_old : Sta Z Z.heap "jdk/internal/util/Preconditions" "SIOOBE_FORMATTER" "Ljava/util/function/BiFunction;" vf) (S_StringUTF16__assertionsDisabled_old : Sta Z Z.heap "java/lang/StringUTF16" "$assertionsDisabled" "Z" (.int (1 : Int32))) (S_StringUTF16_HI_BYTE_SHIFT_old : Sta Z Z.heap "java/lang/StringUTF16" "HI_BYTE_SHIFT" "I" (.int (0 : Int32))) (S_StringUTF16_LO_BYTE_SHIFT_old : Sta Z Z.heap "java/lang/StringUTF16" "LO_BYTE_SHIFT" "I" (.int (8 : Int32))) (hcs : ¬ (cs = (0 : Int32))) (hvf : vf.isRef = true) (hb0 : B16 c0) (hb1 : B16 c1) (hb2 : B16 c2) (hb3 : B16 c3) (S0 : Sch Z h0 a1 c0 c1 c2 c3) :
    MetFree l Y18 (head1 (Jvm.Cond.code Y18 prog_32_method_41_code 4 (some .boolean) :: ws) ({ frames := 6, cells := 0, slots := 0, locals := 110 } : Room)) (fun a U => a = #[(.ref a1), (.int (1 : Int32)), (.int (2 : Int32))] ∧ Z.Warmed39 U.vm ∧ U.heap = h0) (fun _ _ _ _ _ => True) (fun _ U o U' => ∃ v L, o = .returned v ∧ Q_rm_ad12 Z a1 cs c0 c1 c2 c3 vf h0 n0 v U'.heap L ∧ FrameEnd U o U' L ({ frames := 6, cells := 0, slots := 0, locals := 110 } : Room).cells ({ frames := 6, cells := 0, slots := 0, locals := 110 } : Room).slots) := by
  refine MetFree.of_bodySF (plainFor_of_name pn_com_example_api_policy_gateway_apipolicygateway_proxy_HeaderFields) hisR ?_
  intro p e s m args below meth c s₁ Bd hml0 hP hK
  obtain ⟨rfl, hZ, hh⟩ := hP
  have hx := Bd.exec
  have hby := Bd.bytes
  have hml : c.maxLocals = 4 := hml0
  have hown : s.vm.findClass "com/example/api_policy_gateway/apipolicygateway/proxy/HeaderFields" = some m.cls := findClass_of_methodNamed Bd.named
  have hnm := (name_of_methodNamed Bd.named Bd.method).1
  have X0 : Stand p l e ({ frames := 6, cells := 0, slots := 0, locals := 110 } : Room) s m #[(.ref a1), (.int (1 : Int32)), (.int (2 : Int32))] below meth c s₁ [] 0 0 := Stand.of_body Bd
  have e0 : s₁.heap = h0 := by rw [← hh, Bd.state]; rfl
  have N0 := Fr.nil n0
  refine Goes.out (l := l) (c := c) (R := ({ frames := 6, cells := 0, slots := 0, locals := 110 } : Room)) (Q := Q_rm_ad12 Z a1 cs c0 c1 c2 c3 vf h0 n0) Bd.notSynchronized ?_
  refine Goes.cast (g2 := mkF m 0 #[rv a1, iv 1, iv 2, .unset] []) (by first | (simp [entryFrame, mkF, argsToLocals, Value.category]; done) | rfl) ?_
  have K0 : Keep h0 h0 [] := Keep.refl h0 _
  have hws : ∀ x ∈ ([] : List Addr), n0 ≤ x := all0
  refine Goes.step (T2 := s₁) (g2 := (mkF m 1 #[rv a1, iv 1, iv 2, .unset] [(.int (1 : Int32))])) (fun _ hr => XS.iloadN X0.here hx rfl (hb hby d18_0) rfl  hr) ?_
  refine Goes.step (T2 := s₁) (g2 := (mkF m 2 #[rv a1, iv 1, iv 2, iv 1] [])) (fun _ hr => XS.istoreN X0.here hx rfl (hb hby d18_1) rfl (l' := #[rv a1, iv 1, iv 2, iv 1]) rfl hr) ?_
  refine Goes.step (T2 := s₁) (g2 := (mkF m 3 #[rv a1, iv 1, iv 2, iv 1] [(.int (1 : Int32))])) (fun _ hr => XS.iloadN X0.here hx rfl (hb hby d18_2) rfl  hr) ?_
  refine Goes.step (T2 := s₁) (g2 := (mkF m 4 #[rv a1, iv 1, iv 2, iv 1] [(.int (2 : Int32)), (.int (1 : Int32))])) (fun _ hr => XS.iloadN X0.here hx rfl (hb hby d18_3) rfl  hr) ?_
  refine Goes.step (T2 := s₁) (g2 := (mkF m 7 #[rv a1, iv 1, iv 2, iv 1] [])) (fun _ hr => XS.icmpNo X0.here hx rfl (hb hby d18_4) rfl (tlt (by decide : (1 : Int32) < (2 : Int32))).2.1 hr) ?_
  refine Goes.step (T2 := s₁) (g2 := (mkF m 8 #[rv a1, iv 1, iv 2, iv 1] [(.ref a1)])) (fun _ hr => XS.aloadN X0.here hx rfl (hb hby d18_7) rfl rfl hr) ?_
  refine Goes.step (T2 := s₁) (g2 := (mkF m 9 #[rv a1, iv 1, iv 2, iv 1] [(.int (1 : Int32)), (.ref a1)])) (fun _ hr => XS.iloadN X0.here hx rfl (hb hby d18_8) rfl  hr) ?_
  have Zs334 : n0 ≤ h0.size := Nat.le_trans Z0 K0.1
  obtain ⟨cq335, kq335, q335a, q335b, q335c⟩ := isOf hZ e0 E_a1
  obtain ⟨_, _, ⟨T335, L335, k335, n335⟩, -, X335, ⟨Lc335, hQ335, l335, y335, z335⟩, st335⟩ := X0.virtualBack hx (y := Y17) (z := Y17) hown (mvT hZ (tw hw 59 rfl)) (mvT hZ (tw hw 60 rfl)) (notFace_of_selects (args := #[]) (mvT hZ (tw hw 62 rfl))) (mvT hZ (tw hw 62 rfl)) (mvT hZ (tw hw 61 rfl)) (by decide) (backOf (W := 0) (rm_cat1 l Z a0 hw [] a1 cs c0 c1 c2 c3 vf h0 n0 Zs334 (Old.keep O0 K0 hws) E_a1 S0 S_String_COMPACT_STRINGS_old S_Preconditions_SIOOBE_FORMATTER_old S_StringUTF16__assertionsDisabled_old S_StringUTF16_HI_BYTE_SHIFT_old S_StringUTF16_LO_BYTE_SHIFT_old hcs hvf hb1) hZ (tw hw 63 rfl) (tw hw 5 rfl) (by decide) (by decide)) q335a q335c (g := (mkF m 9 #[rv a1, iv 1, iv 2, iv 1] [(.int (1 : Int32)), (.ref a1)])) rfl (by rw [hml]; rfl) (Steps.refl _) (argsL := [(.int (1 : Int32))]) (rest := []) (lenOf pd_13 rfl) rfl (by show 2 * 0 + _ ≤ _; exact Nat.le_of_eq rfl) (hb hby d18_9) (fun _ _ => ⟨rfl, e0, (by decide : 0 + 0 ≤ _), (by decide : 0 + 0 ≤ _)⟩)
  dsimp only [Pt.U, Pt.locs, Pt.cells, Pt.slots] at X335 l335 y335 z335 st335 hQ335
  subst l335 y335 z335
  obtain ⟨rfl, N335q, e335⟩ := hQ335
  have N335 := Fr.app N0 N335q
  refine Goes.step (T2 := T335) (g2 := (mkF m 12 #[rv a1, iv 1, iv 2, iv 1] [(.int c1)])) (fun _ hr => st335.trans hr) ?_
  refine Goes.step (T2 := T335) (g2 := (mkF m 14 #[rv a1, iv 1, iv 2, iv 1] [(.int (48 : Int32)), (.int c1)])) (fun _ hr => XS.bipush X335.here hx rfl (hb hby d18_12) hr) ?_
  by_cases hc14_336 : c1 < (48 : Int32)
  · refine Goes.step (T2 := T335) (g2 := (mkF m 27 #[rv a1, iv 1, iv 2, iv 1] [])) (fun _ hr => XS.icmpYes X335.here hx rfl (pc0 := 14) (pc' := 27) rfl (hb hby d18_14) rfl (tlt hc14_336).1 (by decide) (by decide) hr) ?_
    refine Goes.step (T2 := T335) (g2 := (mkF m 28 #[rv a1, iv 1, iv 2, iv 1] [(.int (0 : Int32))])) (fun _ hr => XS.iconst X335.here hx rfl (hb hby d18_27) hr) ?_
    exact Goes.ret (v := some (.int (0 : Int32))) X335 (by decide) (by decide) (fun h => by rw [Bd.returns] at h; cases h) ⟨by rw [show allD [c1] = (0 : Int32) from (allD_no (dg_lo hc14_336))], N335, e335⟩ (fun fs hr => retN X335 hx (t := .boolean) Bd.returns (by simp) (hb hby d18_28) hr)
  · refine Goes.step (T2 := T335) (g2 := (mkF m 17 #[rv a1, iv 1, iv 2, iv 1] [])) (fun _ hr => XS.icmpNo X335.here hx rfl (hb hby d18_14) rfl (flt hc14_336).1 hr) ?_
    refine Goes.step (T2 := T335) (g2 := (mkF m 18 #[rv a1, iv 1, iv 2, iv 1] [(.ref a1)])) (fun _ hr => XS.aloadN X335.here hx rfl (hb hby d18_17) rfl rfl hr) ?_
    refine Goes.step (T2 := T335) (g2 := (mkF m 19 #[rv a1, iv 1, iv 2, iv 1] [(.int (1 : Int32)), (.ref a1)])) (fun _ hr => XS.iloadN X335.here hx rfl (hb hby d18_18) rfl  hr) ?_
    have Zs337 : n0 ≤ h0.size := Nat.le_trans Z0 K0.1
    obtain ⟨cq338, kq338, q338a, q338b, q338c⟩ := isOf hZ e335 E_a1
    obtain ⟨_, _, ⟨T338, L338, k338, n338⟩, -, X338, ⟨Lc338, hQ338, l338, y338, z338⟩, st338⟩ := X335.virtualBack hx (y := Y17) (z := Y17) hown (mvT hZ (tw hw 59 rfl)) (mvT hZ (tw hw 60 rfl)) (notFace_of_selects (args := #[]) (mvT hZ (tw hw 62 rfl))) (mvT hZ (tw hw 62 rfl)) (mvT hZ (tw hw 61 rfl)) (by decide) (backOf (W := 0) (rm_cat1 l Z a0 hw [] a1 cs c0 c1 c2 c3 vf h0 n0 Zs337 (Old.keep O0 K0 hws) E_a1 S0 S_String_COMPACT_STRINGS_old S_Preconditions_SIOOBE_FORMATTER_old S_StringUTF16__assertionsDisabled_old S_StringUTF16_HI_BYTE_SHIFT_old S_StringUTF16_LO_BYTE_SHIFT_old hcs hvf hb1) hZ (tw hw 63 rfl) (tw hw 5 rfl) (by decide) (by decide)) q338a q338c (g := (mkF m 19 #[rv a1, iv 1, iv 2, iv 1] [(.int (1 : Int32)), (.ref a1)])) rfl (by rw [hml]; rfl) (Steps.refl _) (argsL := [(.int (1 : Int32))]) (rest := []) (lenOf pd_13 rfl) rfl (by show 2 * 0 + _ ≤ _; exact Nat.le_of_eq rfl) (hb hby d18_19) (fun _ _ => ⟨rfl, e335, (by decide : 0 + 0 ≤ _), (by decide : 0 + 0 ≤ _)⟩)
    dsimp only [Pt.U, Pt.locs, Pt.cells, Pt.slots] at X338 l338 y338 z338 st338 hQ338
    subst l338 y338 z338
    obtain ⟨rfl, N338q, e338⟩ := hQ338
    have N338 := Fr.app N335 N338q
    refine Goes.step (T2 := T338) (g2 := (mkF m 22 #[rv a1, iv 1, iv 2, iv 1] [(.int c1)])) (fun _ hr => st338.trans hr) ?_
    refine Goes.step (T2 := T338) (g2 := (mkF m 24 #[rv a1, iv 1, iv 2, iv 1] [(.int (57 : Int32)), (.int c1)])) (fun _ hr => XS.bipush X338.here hx rfl (hb hby d18_22) hr) ?_
    by_cases hc24_339 : (57 : Int32) < c1
    · refine Goes.step (T2 := T338) (g2 := (mkF m 27 #[rv a1, iv 1, iv 2, iv 1] [])) (fun _ hr => XS.icmpNo X338.here hx rfl (hb hby d18_24) rfl (tlt hc24_339).2.2.2 hr) ?_
      refine Goes.step (T2 := T338) (g2 := (mkF m 28 #[rv a1, iv 1, iv 2, iv 1] [(.int (0 : Int32))])) (fun _ hr => XS.iconst X338.here hx rfl (hb hby d18_27) hr) ?_
      exact Goes.ret (v := some (.int (0 : Int32))) X338 (by decide) (by decide) (fun h => by rw [Bd.returns] at h; cases h) ⟨by rw [show allD [c1] = (0 : Int32) from (allD_no (dg_hi hc24_339))], N338, e338⟩ (fun fs hr => retN X338 hx (t := .boolean) Bd.returns (by simp) (hb hby d18_28) hr)
    · refine Goes.step (T2 := T338) (g2 := (mkF m 29 #[rv a1, iv 1, iv 2, iv 1] [])) (fun _ hr => XS.icmpYes X338.here hx rfl (pc0 := 24) (pc' := 29) rfl (hb hby d18_24) rfl (flt hc24_339).2.2.2 (by decide) (by decide) hr) ?_
      refine Goes.step (T2 := T338) (g2 := (mkF m 32 #[rv a1, iv 1, iv 2, iv 2] [])) (fun _ hr => XS.iinc X338.here hx rfl (hb hby d18_29) rfl (l' := #[rv a1, iv 1, iv 2, iv 2]) rfl hr) ?_
      refine Goes.step (T2 := T338) (g2 := (mkF m 2 #[rv a1, iv 1, iv 2, iv 2] [])) (fun _ hr => XS.goto X338.here hx rfl (pc0 := 32) (pc' := 2) rfl (hb hby d18_32) (by decide) (by decide) hr) ?_
      refine Goes.step (T2 := T338) (g2 := (mkF m 3 #[rv a1, iv 1, iv 2, iv 2] [(.int (2 : Int32))])) (fun _ hr => XS.iloadN X338.here hx rfl (hb hby d18_2) rfl  hr) ?_
      refine Goes.step (T2 := T338) (g2 := (mkF m 4 #[rv a1, iv 1, iv 2, iv 2] [(.int (2 : Int32)), (.int (2 : Int32))])) (fun _ hr => XS.iloadN X338.here hx rfl (hb hby d18_3) rfl  hr) ?_
      refine Goes.step (T2 := T338) (g2 := (mkF m 35 #[rv a1, iv 1, iv 2, iv 2] [])) (fun _ hr => XS.icmpYes X338.here hx rfl (pc0 := 4) (pc' := 35) rfl (hb hby d18_4) rfl (flt (by decide : ¬ ((2 : Int32) < (2 : Int32)))).2.1 (by decide) (by decide) hr) ?_
      refine Goes.step (T2 := T338) (g2 := (mkF m 36 #[rv a1, iv 1, iv 2, iv 2] [(.int (1 : Int32))])) (fun _ hr => XS.iconst X338.here hx rfl (hb hby d18_35) hr) ?_
      exact Goes.ret (v := some (.int (1 : Int32))) X338 (by decide) (by decide) (fun h => by rw [Bd.returns] at h; cases h) ⟨by rw [show allD [c1] = (1 : Int32) from (allD_go (dg_yes hc14_336 hc24_339) rfl)], N338, e338⟩ (fun fs hr => retN X338 hx (t := .boolean) Bd.returns (by simp) (hb hby d18_36) hr)
def Q_rm_ad13 (Z : State) (a1 : Addr) (cs : Int32) (c0 : Int32) (c1 : Int32) (c2 : Int32) (c3 : Int32) (vf : Value) (h0 : Heap) (n0 : Nat) (v : Option Value) (h : Heap) (L : List Loc) : Prop := v = some (.int (allD [c1, c2])) ∧ Fr n0 L ∧ h = h0
set_option maxRecDepth 65536 in
set_option maxHeartbeats 40000000 in
theorem rm_ad13 (l : Launch) (Z : State) (a0 : Array Value) (hw : ∀ d ∈ tables_1, d.before a0 Z = true) (ws : List Jvm.Cond) (a1 : Addr) (cs : Int32) (c0 : Int32) (c1 : Int32) (c2 : Int32) (c3 : Int32) (vf : Value) (h0 : Heap) (n0 : Nat) (Z0 : n0 ≤ h0.size) (O0 : Old Z n0 h0) (E_a1 : Exa Z h0 a1 "java/lang/String") (S_String_COMPACT_STRINGS_old : Sta Z Z.heap "java/lang/String" "COMPACT_STRINGS" "Z" (.int cs)) (S_Preconditions_SIOOBE_FORMATTER_old : Sta Z Z.heap "jdk/internal/util/Preconditions" "SIOOBE_FORMATTER" "Ljava/util/function/BiFunction;" vf) (S_StringUTF16__assertionsDisabled_old : Sta Z Z.heap "java/lang/StringUTF16" "$assertionsDisabled" "Z" (.int (1 : Int32))) (S_StringUTF16_HI_BYTE_SHIFT_old : Sta Z Z.heap "java/lang/StringUTF16" "HI_BYTE_SHIFT" "I" (.int (0 : Int32))) (S_StringUTF16_LO_BYTE_SHIFT_old : Sta Z Z.heap "java/lang/StringUTF16" "LO_BYTE_SHIFT" "I" (.int (8 : Int32))) (hcs : ¬ (cs = (0 : Int32))) (hvf : vf.isRef = true) (hb0 : B16 c0) (hb1 : B16 c1) (hb2 : B16 c2) (hb3 : B16 c3) (S0 : Sch Z h0 a1 c0 c1 c2 c3) :
    MetFree l Y18 (head1 (Jvm.Cond.code Y18 prog_32_method_41_code 4 (some .boolean) :: ws) ({ frames := 6, cells := 0, slots := 0, locals := 110 } : Room)) (fun a U => a = #[(.ref a1), (.int (1 : Int32)), (.int (3 : Int32))] ∧ Z.Warmed39 U.vm ∧ U.heap = h0) (fun _ _ _ _ _ => True) (fun _ U o U' => ∃ v L, o = .returned v ∧ Q_rm_ad13 Z a1 cs c0 c1 c2 c3 vf h0 n0 v U'.heap L ∧ FrameEnd U o U' L ({ frames := 6, cells := 0, slots := 0, locals := 110 } : Room).cells ({ frames := 6, cells := 0, slots := 0, locals := 110 } : Room).slots) := by
  refine MetFree.of_bodySF (plainFor_of_name pn_com_example_api_policy_gateway_apipolicygateway_proxy_HeaderFields) hisR ?_
  intro p e s m args below meth c s₁ Bd hml0 hP hK
  obtain ⟨rfl, hZ, hh⟩ := hP
  have hx := Bd.exec
  have hby := Bd.bytes
  have hml : c.maxLocals = 4 := hml0
  have hown : s.vm.findClass "com/example/api_policy_gateway/apipolicygateway/proxy/HeaderFields" = some m.cls := findClass_of_methodNamed Bd.named
  have hnm := (name_of_methodNamed Bd.named Bd.method).1
  have X0 : Stand p l e ({ frames := 6, cells := 0, slots := 0, locals := 110 } : Room) s m #[(.ref a1), (.int (1 : Int32)), (.int (3 : Int32))] below meth c s₁ [] 0 0 := Stand.of_body Bd
  have e0 : s₁.heap = h0 := by rw [← hh, Bd.state]; rfl
  have N0 := Fr.nil n0
  refine Goes.out (l := l) (c := c) (R := ({ frames := 6, cells := 0, slots := 0, locals := 110 } : Room)) (Q := Q_rm_ad13 Z a1 cs c0 c1 c2 c3 vf h0 n0) Bd.notSynchronized ?_
  refine Goes.cast (g2 := mkF m 0 #[rv a1, iv 1, iv 3, .unset] []) (by first | (simp [entryFrame, mkF, argsToLocals, Value.category]; done) | rfl) ?_
  have K0 : Keep h0 h0 [] := Keep.refl h0 _
  have hws : ∀ x ∈ ([] : List Addr), n0 ≤ x := all0
  refine Goes.step (T2 := s₁) (g2 := (mkF m 1 #[rv a1, iv 1, iv 3, .unset] [(.int (1 : Int32))])) (fun _ hr => XS.iloadN X0.here hx rfl (hb hby d18_0) rfl  hr) ?_
  refine Goes.step (T2 := s₁) (g2 := (mkF m 2 #[rv a1, iv 1, iv 3, iv 1] [])) (fun _ hr => XS.istoreN X0.here hx rfl (hb hby d18_1) rfl (l' := #[rv a1, iv 1, iv 3, iv 1]) rfl hr) ?_
  refine Goes.step (T2 := s₁) (g2 := (mkF m 3 #[rv a1, iv 1, iv 3, iv 1] [(.int (1 : Int32))])) (fun _ hr => XS.iloadN X0.here hx rfl (hb hby d18_2) rfl  hr) ?_
  refine Goes.step (T2 := s₁) (g2 := (mkF m 4 #[rv a1, iv 1, iv 3, iv 1] [(.int (3 : Int32)), (.int (1 : Int32))])) (fun _ hr => XS.iloadN X0.here hx rfl (hb hby d18_3) rfl  hr) ?_
  refine Goes.step (T2 := s₁) (g2 := (mkF m 7 #[rv a1, iv 1, iv 3, iv 1] [])) (fun _ hr => XS.icmpNo X0.here hx rfl (hb hby d18_4) rfl (tlt (by decide : (1 : Int32) < (3 : Int32))).2.1 hr) ?_
  refine Goes.step (T2 := s₁) (g2 := (mkF m 8 #[rv a1, iv 1, iv 3, iv 1] [(.ref a1)])) (fun _ hr => XS.aloadN X0.here hx rfl (hb hby d18_7) rfl rfl hr) ?_
  refine Goes.step (T2 := s₁) (g2 := (mkF m 9 #[rv a1, iv 1, iv 3, iv 1] [(.int (1 : Int32)), (.ref a1)])) (fun _ hr => XS.iloadN X0.here hx rfl (hb hby d18_8) rfl  hr) ?_
  have Zs340 : n0 ≤ h0.size := Nat.le_trans Z0 K0.1
  obtain ⟨cq341, kq341, q341a, q341b, q341c⟩ := isOf hZ e0 E_a1
  obtain ⟨_, _, ⟨T341, L341, k341, n341⟩, -, X341, ⟨Lc341, hQ341, l341, y341, z341⟩, st341⟩ := X0.virtualBack hx (y := Y17) (z := Y17) hown (mvT hZ (tw hw 59 rfl)) (mvT hZ (tw hw 60 rfl)) (notFace_of_selects (args := #[]) (mvT hZ (tw hw 62 rfl))) (mvT hZ (tw hw 62 rfl)) (mvT hZ (tw hw 61 rfl)) (by decide) (backOf (W := 0) (rm_cat1 l Z a0 hw [] a1 cs c0 c1 c2 c3 vf h0 n0 Zs340 (Old.keep O0 K0 hws) E_a1 S0 S_String_COMPACT_STRINGS_old S_Preconditions_SIOOBE_FORMATTER_old S_StringUTF16__assertionsDisabled_old S_StringUTF16_HI_BYTE_SHIFT_old S_StringUTF16_LO_BYTE_SHIFT_old hcs hvf hb1) hZ (tw hw 63 rfl) (tw hw 5 rfl) (by decide) (by decide)) q341a q341c (g := (mkF m 9 #[rv a1, iv 1, iv 3, iv 1] [(.int (1 : Int32)), (.ref a1)])) rfl (by rw [hml]; rfl) (Steps.refl _) (argsL := [(.int (1 : Int32))]) (rest := []) (lenOf pd_13 rfl) rfl (by show 2 * 0 + _ ≤ _; exact Nat.le_of_eq rfl) (hb hby d18_9) (fun _ _ => ⟨rfl, e0, (by decide : 0 + 0 ≤ _), (by decide : 0 + 0 ≤ _)⟩)
  dsimp only [Pt.U, Pt.locs, Pt.cells, Pt.slots] at X341 l341 y341 z341 st341 hQ341
  subst l341 y341 z341
  obtain ⟨rfl, N341q, e341⟩ := hQ341
  have N341 := Fr.app N0 N341q
  refine Goes.step (T2 := T341) (g2 := (mkF m 12 #[rv a1, iv 1, iv 3, iv 1] [(.int c1)])) (fun _ hr => st341.trans hr) ?_
  refine Goes.step (T2 := T341) (g2 := (mkF m 14 #[rv a1, iv 1, iv 3, iv 1] [(.int (48 : Int32)), (.int c1)])) (fun _ hr => XS.bipush X341.here hx rfl (hb hby d18_12) hr) ?_
  by_cases hc14_342 : c1 < (48 : Int32)
  · refine Goes.step (T2 := T341) (g2 := (mkF m 27 #[rv a1, iv 1, iv 3, iv 1] [])) (fun _ hr => XS.icmpYes X341.here hx rfl (pc0 := 14) (pc' := 27) rfl (hb hby d18_14) rfl (tlt hc14_342).1 (by decide) (by decide) hr) ?_
    refine Goes.step (T2 := T341) (g2 := (mkF m 28 #[rv a1, iv 1, iv 3, iv 1] [(.int (0 : Int32))])) (fun _ hr => XS.iconst X341.here hx rfl (hb hby d18_27) hr) ?_
    exact Goes.ret (v := some (.int (0 : Int32))) X341 (by decide) (by decide) (fun h => by rw [Bd.returns] at h; cases h) ⟨by rw [show allD [c1, c2] = (0 : Int32) from (allD_no (dg_lo hc14_342))], N341, e341⟩ (fun fs hr => retN X341 hx (t := .boolean) Bd.returns (by simp) (hb hby d18_28) hr)
  · refine Goes.step (T2 := T341) (g2 := (mkF m 17 #[rv a1, iv 1, iv 3, iv 1] [])) (fun _ hr => XS.icmpNo X341.here hx rfl (hb hby d18_14) rfl (flt hc14_342).1 hr) ?_
    refine Goes.step (T2 := T341) (g2 := (mkF m 18 #[rv a1, iv 1, iv 3, iv 1] [(.ref a1)])) (fun _ hr => XS.aloadN X341.here hx rfl (hb hby d18_17) rfl rfl hr) ?_
    refine Goes.step (T2 := T341) (g2 := (mkF m 19 #[rv a1, iv 1, iv 3, iv 1] [(.int (1 : Int32)), (.ref a1)])) (fun _ hr => XS.iloadN X341.here hx rfl (hb hby d18_18) rfl  hr) ?_
    have Zs343 : n0 ≤ h0.size := Nat.le_trans Z0 K0.1
    obtain ⟨cq344, kq344, q344a, q344b, q344c⟩ := isOf hZ e341 E_a1
    obtain ⟨_, _, ⟨T344, L344, k344, n344⟩, -, X344, ⟨Lc344, hQ344, l344, y344, z344⟩, st344⟩ := X341.virtualBack hx (y := Y17) (z := Y17) hown (mvT hZ (tw hw 59 rfl)) (mvT hZ (tw hw 60 rfl)) (notFace_of_selects (args := #[]) (mvT hZ (tw hw 62 rfl))) (mvT hZ (tw hw 62 rfl)) (mvT hZ (tw hw 61 rfl)) (by decide) (backOf (W := 0) (rm_cat1 l Z a0 hw [] a1 cs c0 c1 c2 c3 vf h0 n0 Zs343 (Old.keep O0 K0 hws) E_a1 S0 S_String_COMPACT_STRINGS_old S_Preconditions_SIOOBE_FORMATTER_old S_StringUTF16__assertionsDisabled_old S_StringUTF16_HI_BYTE_SHIFT_old S_StringUTF16_LO_BYTE_SHIFT_old hcs hvf hb1) hZ (tw hw 63 rfl) (tw hw 5 rfl) (by decide) (by decide)) q344a q344c (g := (mkF m 19 #[rv a1, iv 1, iv 3, iv 1] [(.int (1 : Int32)), (.ref a1)])) rfl (by rw [hml]; rfl) (Steps.refl _) (argsL := [(.int (1 : Int32))]) (rest := []) (lenOf pd_13 rfl) rfl (by show 2 * 0 + _ ≤ _; exact Nat.le_of_eq rfl) (hb hby d18_19) (fun _ _ => ⟨rfl, e341, (by decide : 0 + 0 ≤ _), (by decide : 0 + 0 ≤ _)⟩)
    dsimp only [Pt.U, Pt.locs, Pt.cells, Pt.slots] at X344 l344 y344 z344 st344 hQ344
    subst l344 y344 z344
    obtain ⟨rfl, N344q, e344⟩ := hQ344
    have N344 := Fr.app N341 N344q
    refine Goes.step (T2 := T344) (g2 := (mkF m 22 #[rv a1, iv 1, iv 3, iv 1] [(.int c1)])) (fun _ hr => st344.trans hr) ?_
    refine Goes.step (T2 := T344) (g2 := (mkF m 24 #[rv a1, iv 1, iv 3, iv 1] [(.int (57 : Int32)), (.int c1)])) (fun _ hr => XS.bipush X344.here hx rfl (hb hby d18_22) hr) ?_
    by_cases hc24_345 : (57 : Int32) < c1
    · refine Goes.step (T2 := T344) (g2 := (mkF m 27 #[rv a1, iv 1, iv 3, iv 1] [])) (fun _ hr => XS.icmpNo X344.here hx rfl (hb hby d18_24) rfl (tlt hc24_345).2.2.2 hr) ?_
      refine Goes.step (T2 := T344) (g2 := (mkF m 28 #[rv a1, iv 1, iv 3, iv 1] [(.int (0 : Int32))])) (fun _ hr => XS.iconst X344.here hx rfl (hb hby d18_27) hr) ?_
      exact Goes.ret (v := some (.int (0 : Int32))) X344 (by decide) (by decide) (fun h => by rw [Bd.returns] at h; cases h) ⟨by rw [show allD [c1, c2] = (0 : Int32) from (allD_no (dg_hi hc24_345))], N344, e344⟩ (fun fs hr => retN X344 hx (t := .boolean) Bd.returns (by simp) (hb hby d18_28) hr)
    · refine Goes.step (T2 := T344) (g2 := (mkF m 29 #[rv a1, iv 1, iv 3, iv 1] [])) (fun _ hr => XS.icmpYes X344.here hx rfl (pc0 := 24) (pc' := 29) rfl (hb hby d18_24) rfl (flt hc24_345).2.2.2 (by decide) (by decide) hr) ?_
      refine Goes.step (T2 := T344) (g2 := (mkF m 32 #[rv a1, iv 1, iv 3, iv 2] [])) (fun _ hr => XS.iinc X344.here hx rfl (hb hby d18_29) rfl (l' := #[rv a1, iv 1, iv 3, iv 2]) rfl hr) ?_
      refine Goes.step (T2 := T344) (g2 := (mkF m 2 #[rv a1, iv 1, iv 3, iv 2] [])) (fun _ hr => XS.goto X344.here hx rfl (pc0 := 32) (pc' := 2) rfl (hb hby d18_32) (by decide) (by decide) hr) ?_
      refine Goes.step (T2 := T344) (g2 := (mkF m 3 #[rv a1, iv 1, iv 3, iv 2] [(.int (2 : Int32))])) (fun _ hr => XS.iloadN X344.here hx rfl (hb hby d18_2) rfl  hr) ?_
      refine Goes.step (T2 := T344) (g2 := (mkF m 4 #[rv a1, iv 1, iv 3, iv 2] [(.int (3 : Int32)), (.int (2 : Int32))])) (fun _ hr => XS.iloadN X344.here hx rfl (hb hby d18_3) rfl  hr) ?_
      refine Goes.step (T2 := T344) (g2 := (mkF m 7 #[rv a1, iv 1, iv 3, iv 2] [])) (fun _ hr => XS.icmpNo X344.here hx rfl (hb hby d18_4) rfl (tlt (by decide : (2 : Int32) < (3 : Int32))).2.1 hr) ?_
      refine Goes.step (T2 := T344) (g2 := (mkF m 8 #[rv a1, iv 1, iv 3, iv 2] [(.ref a1)])) (fun _ hr => XS.aloadN X344.here hx rfl (hb hby d18_7) rfl rfl hr) ?_
      refine Goes.step (T2 := T344) (g2 := (mkF m 9 #[rv a1, iv 1, iv 3, iv 2] [(.int (2 : Int32)), (.ref a1)])) (fun _ hr => XS.iloadN X344.here hx rfl (hb hby d18_8) rfl  hr) ?_
      have Zs346 : n0 ≤ h0.size := Nat.le_trans Z0 K0.1
      obtain ⟨cq347, kq347, q347a, q347b, q347c⟩ := isOf hZ e344 E_a1
      obtain ⟨_, _, ⟨T347, L347, k347, n347⟩, -, X347, ⟨Lc347, hQ347, l347, y347, z347⟩, st347⟩ := X344.virtualBack hx (y := Y17) (z := Y17) hown (mvT hZ (tw hw 59 rfl)) (mvT hZ (tw hw 60 rfl)) (notFace_of_selects (args := #[]) (mvT hZ (tw hw 62 rfl))) (mvT hZ (tw hw 62 rfl)) (mvT hZ (tw hw 61 rfl)) (by decide) (backOf (W := 0) (rm_cat2 l Z a0 hw [] a1 cs c0 c1 c2 c3 vf h0 n0 Zs346 (Old.keep O0 K0 hws) E_a1 S0 S_String_COMPACT_STRINGS_old S_Preconditions_SIOOBE_FORMATTER_old S_StringUTF16__assertionsDisabled_old S_StringUTF16_HI_BYTE_SHIFT_old S_StringUTF16_LO_BYTE_SHIFT_old hcs hvf hb2) hZ (tw hw 63 rfl) (tw hw 5 rfl) (by decide) (by decide)) q347a q347c (g := (mkF m 9 #[rv a1, iv 1, iv 3, iv 2] [(.int (2 : Int32)), (.ref a1)])) rfl (by rw [hml]; rfl) (Steps.refl _) (argsL := [(.int (2 : Int32))]) (rest := []) (lenOf pd_13 rfl) rfl (by show 2 * 0 + _ ≤ _; exact Nat.le_of_eq rfl) (hb hby d18_9) (fun _ _ => ⟨rfl, e344, (by decide : 0 + 0 ≤ _), (by decide : 0 + 0 ≤ _)⟩)
      dsimp only [Pt.U, Pt.locs, Pt.cells, Pt.slots] at X347 l347 y347 z347 st347 hQ347
      subst l347 y347 z347
      obtain ⟨rfl, N347q, e347⟩ := hQ347
      have N347 := Fr.app N344 N347q
      refine Goes.step (T2 := T347) (g2 := (mkF m 12 #[rv a1, iv 1, iv 3, iv 2] [(.int c2)])) (fun _ hr => st347.trans hr) ?_
      refine Goes.step (T2 := T347) (g2 := (mkF m 14 #[rv a1, iv 1, iv 3, iv 2] [(.int (48 : Int32)), (.int c2)])) (fun _ hr => XS.bipush X347.here hx rfl (hb hby d18_12) hr) ?_
      by_cases hc14_348 : c2 < (48 : Int32)
      · refine Goes.step (T2 := T347) (g2 := (mkF m 27 #[rv a1, iv 1, iv 3, iv 2] [])) (fun _ hr => XS.icmpYes X347.here hx rfl (pc0 := 14) (pc' := 27) rfl (hb hby d18_14) rfl (tlt hc14_348).1 (by decide) (by decide) hr) ?_
        refine Goes.step (T2 := T347) (g2 := (mkF m 28 #[rv a1, iv 1, iv 3, iv 2] [(.int (0 : Int32))])) (fun _ hr => XS.iconst X347.here hx rfl (hb hby d18_27) hr) ?_
        exact Goes.ret (v := some (.int (0 : Int32))) X347 (by decide) (by decide) (fun h => by rw [Bd.returns] at h; cases h) ⟨by rw [show allD [c1, c2] = (0 : Int32) from (allD_go (dg_yes hc14_342 hc24_345) (allD_no (dg_lo hc14_348)))], N347, e347⟩ (fun fs hr => retN X347 hx (t := .boolean) Bd.returns (by simp) (hb hby d18_28) hr)
      · refine Goes.step (T2 := T347) (g2 := (mkF m 17 #[rv a1, iv 1, iv 3, iv 2] [])) (fun _ hr => XS.icmpNo X347.here hx rfl (hb hby d18_14) rfl (flt hc14_348).1 hr) ?_
        refine Goes.step (T2 := T347) (g2 := (mkF m 18 #[rv a1, iv 1, iv 3, iv 2] [(.ref a1)])) (fun _ hr => XS.aloadN X347.here hx rfl (hb hby d18_17) rfl rfl hr) ?_
        refine Goes.step (T2 := T347) (g2 := (mkF m 19 #[rv a1, iv 1, iv 3, iv 2] [(.int (2 : Int32)), (.ref a1)])) (fun _ hr => XS.iloadN X347.here hx rfl (hb hby d18_18) rfl  hr) ?_
        have Zs349 : n0 ≤ h0.size := Nat.le_trans Z0 K0.1
        obtain ⟨cq350, kq350, q350a, q350b, q350c⟩ := isOf hZ e347 E_a1
        obtain ⟨_, _, ⟨T350, L350, k350, n350⟩, -, X350, ⟨Lc350, hQ350, l350, y350, z350⟩, st350⟩ := X347.virtualBack hx (y := Y17) (z := Y17) hown (mvT hZ (tw hw 59 rfl)) (mvT hZ (tw hw 60 rfl)) (notFace_of_selects (args := #[]) (mvT hZ (tw hw 62 rfl))) (mvT hZ (tw hw 62 rfl)) (mvT hZ (tw hw 61 rfl)) (by decide) (backOf (W := 0) (rm_cat2 l Z a0 hw [] a1 cs c0 c1 c2 c3 vf h0 n0 Zs349 (Old.keep O0 K0 hws) E_a1 S0 S_String_COMPACT_STRINGS_old S_Preconditions_SIOOBE_FORMATTER_old S_StringUTF16__assertionsDisabled_old S_StringUTF16_HI_BYTE_SHIFT_old S_StringUTF16_LO_BYTE_SHIFT_old hcs hvf hb2) hZ (tw hw 63 rfl) (tw hw 5 rfl) (by decide) (by decide)) q350a q350c (g := (mkF m 19 #[rv a1, iv 1, iv 3, iv 2] [(.int (2 : Int32)), (.ref a1)])) rfl (by rw [hml]; rfl) (Steps.refl _) (argsL := [(.int (2 : Int32))]) (rest := []) (lenOf pd_13 rfl) rfl (by show 2 * 0 + _ ≤ _; exact Nat.le_of_eq rfl) (hb hby d18_19) (fun _ _ => ⟨rfl, e347, (by decide : 0 + 0 ≤ _), (by decide : 0 + 0 ≤ _)⟩)
        dsimp only [Pt.U, Pt.locs, Pt.cells, Pt.slots] at X350 l350 y350 z350 st350 hQ350
        subst l350 y350 z350
        obtain ⟨rfl, N350q, e350⟩ := hQ350
        have N350 := Fr.app N347 N350q
        refine Goes.step (T2 := T350) (g2 := (mkF m 22 #[rv a1, iv 1, iv 3, iv 2] [(.int c2)])) (fun _ hr => st350.trans hr) ?_
        refine Goes.step (T2 := T350) (g2 := (mkF m 24 #[rv a1, iv 1, iv 3, iv 2] [(.int (57 : Int32)), (.int c2)])) (fun _ hr => XS.bipush X350.here hx rfl (hb hby d18_22) hr) ?_
        by_cases hc24_351 : (57 : Int32) < c2
        · refine Goes.step (T2 := T350) (g2 := (mkF m 27 #[rv a1, iv 1, iv 3, iv 2] [])) (fun _ hr => XS.icmpNo X350.here hx rfl (hb hby d18_24) rfl (tlt hc24_351).2.2.2 hr) ?_
          refine Goes.step (T2 := T350) (g2 := (mkF m 28 #[rv a1, iv 1, iv 3, iv 2] [(.int (0 : Int32))])) (fun _ hr => XS.iconst X350.here hx rfl (hb hby d18_27) hr) ?_
          exact Goes.ret (v := some (.int (0 : Int32))) X350 (by decide) (by decide) (fun h => by rw [Bd.returns] at h; cases h) ⟨by rw [show allD [c1, c2] = (0 : Int32) from (allD_go (dg_yes hc14_342 hc24_345) (allD_no (dg_hi hc24_351)))], N350, e350⟩ (fun fs hr => retN X350 hx (t := .boolean) Bd.returns (by simp) (hb hby d18_28) hr)
        · refine Goes.step (T2 := T350) (g2 := (mkF m 29 #[rv a1, iv 1, iv 3, iv 2] [])) (fun _ hr => XS.icmpYes X350.here hx rfl (pc0 := 24) (pc' := 29) rfl (hb hby d18_24) rfl (flt hc24_351).2.2.2 (by decide) (by decide) hr) ?_
          refine Goes.step (T2 := T350) (g2 := (mkF m 32 #[rv a1, iv 1, iv 3, iv 3] [])) (fun _ hr => XS.iinc X350.here hx rfl (hb hby d18_29) rfl (l' := #[rv a1, iv 1, iv 3, iv 3]) rfl hr) ?_
          refine Goes.step (T2 := T350) (g2 := (mkF m 2 #[rv a1, iv 1, iv 3, iv 3] [])) (fun _ hr => XS.goto X350.here hx rfl (pc0 := 32) (pc' := 2) rfl (hb hby d18_32) (by decide) (by decide) hr) ?_
          refine Goes.step (T2 := T350) (g2 := (mkF m 3 #[rv a1, iv 1, iv 3, iv 3] [(.int (3 : Int32))])) (fun _ hr => XS.iloadN X350.here hx rfl (hb hby d18_2) rfl  hr) ?_
          refine Goes.step (T2 := T350) (g2 := (mkF m 4 #[rv a1, iv 1, iv 3, iv 3] [(.int (3 : Int32)), (.int (3 : Int32))])) (fun _ hr => XS.iloadN X350.here hx rfl (hb hby d18_3) rfl  hr) ?_
          refine Goes.step (T2 := T350) (g2 := (mkF m 35 #[rv a1, iv 1, iv 3, iv 3] [])) (fun _ hr => XS.icmpYes X350.here hx rfl (pc0 := 4) (pc' := 35) rfl (hb hby d18_4) rfl (flt (by decide : ¬ ((3 : Int32) < (3 : Int32)))).2.1 (by decide) (by decide) hr) ?_
          refine Goes.step (T2 := T350) (g2 := (mkF m 36 #[rv a1, iv 1, iv 3, iv 3] [(.int (1 : Int32))])) (fun _ hr => XS.iconst X350.here hx rfl (hb hby d18_35) hr) ?_
          exact Goes.ret (v := some (.int (1 : Int32))) X350 (by decide) (by decide) (fun h => by rw [Bd.returns] at h; cases h) ⟨by rw [show allD [c1, c2] = (1 : Int32) from (allD_go (dg_yes hc14_342 hc24_345) (allD_go (dg_yes hc14_348 hc24_351) rfl))], N350, e350⟩ (fun fs hr => retN X350 hx (t := .boolean) Bd.returns (by simp) (hb hby d18_36) hr)
def Q_rm_ad14 (Z : State) (a1 : Addr) (cs : Int32) (c0 : Int32) (c1 : Int32) (c2 : Int32) (c3 : Int32) (vf : Value) (h0 : Heap) (n0 : Nat) (v : Option Value) (h : Heap) (L : List Loc) : Prop := v = some (.int (allD [c1, c2, c3])) ∧ Fr n0 L ∧ h = h0
set_option maxRecDepth 65536 in
set_option maxHeartbeats 40000000 in
theorem rm_ad14 (l : Launch) (Z : State) (a0 : Array Value) (hw : ∀ d ∈ tables_1, d.before a0 Z = true) (ws : List Jvm.Cond) (a1 : Addr) (cs : Int32) (c0 : Int32) (c1 : Int32) (c2 : Int32) (c3 : Int32) (vf : Value) (h0 : Heap) (n0 : Nat) (Z0 : n0 ≤ h0.size) (O0 : Old Z n0 h0) (E_a1 : Exa Z h0 a1 "java/lang/String") (S_String_COMPACT_STRINGS_old : Sta Z Z.heap "java/lang/String" "COMPACT_STRINGS" "Z" (.int cs)) (S_Preconditions_SIOOBE_FORMATTER_old : Sta Z Z.heap "jdk/internal/util/Preconditions" "SIOOBE_FORMATTER" "Ljava/util/function/BiFunction;" vf) (S_StringUTF16__assertionsDisabled_old : Sta Z Z.heap "java/lang/StringUTF16" "$assertionsDisabled" "Z" (.int (1 : Int32))) (S_StringUTF16_HI_BYTE_SHIFT_old : Sta Z Z.heap "java/lang/StringUTF16" "HI_BYTE_SHIFT" "I" (.int (0 : Int32))) (S_StringUTF16_LO_BYTE_SHIFT_old : Sta Z Z.heap "java/lang/StringUTF16" "LO_BYTE_SHIFT" "I" (.int (8 : Int32))) (hcs : ¬ (cs = (0 : Int32))) (hvf : vf.isRef = true) (hb0 : B16 c0) (hb1 : B16 c1) (hb2 : B16 c2) (hb3 : B16 c3) (S0 : Sch Z h0 a1 c0 c1 c2 c3) :
    MetFree l Y18 (head1 (Jvm.Cond.code Y18 prog_32_method_41_code 4 (some .boolean) :: ws) ({ frames := 6, cells := 0, slots := 0, locals := 110 } : Room)) (fun a U => a = #[(.ref a1), (.int (1 : Int32)), (.int (4 : Int32))] ∧ Z.Warmed39 U.vm ∧ U.heap = h0) (fun _ _ _ _ _ => True) (fun _ U o U' => ∃ v L, o = .returned v ∧ Q_rm_ad14 Z a1 cs c0 c1 c2 c3 vf h0 n0 v U'.heap L ∧ FrameEnd U o U' L ({ frames := 6, cells := 0, slots := 0, locals := 110 } : Room).cells ({ frames := 6, cells := 0, slots := 0, locals := 110 } : Room).slots) := by
  refine MetFree.of_bodySF (plainFor_of_name pn_com_example_api_policy_gateway_apipolicygateway_proxy_HeaderFields) hisR ?_
  intro p e s m args below meth c s₁ Bd hml0 hP hK
  obtain ⟨rfl, hZ, hh⟩ := hP
  have hx := Bd.exec
  have hby := Bd.bytes
  have hml : c.maxLocals = 4 := hml0
  have hown : s.vm.findClass "com/example/api_policy_gateway/apipolicygateway/proxy/HeaderFields" = some m.cls := findClass_of_methodNamed Bd.named
  have hnm := (name_of_methodNamed Bd.named Bd.method).1
  have X0 : Stand p l e ({ frames := 6, cells := 0, slots := 0, locals := 110 } : Room) s m #[(.ref a1), (.int (1 : Int32)), (.int (4 : Int32))] below meth c s₁ [] 0 0 := Stand.of_body Bd
  have e0 : s₁.heap = h0 := by rw [← hh, Bd.state]; rfl
  have N0 := Fr.nil n0
  refine Goes.out (l := l) (c := c) (R := ({ frames := 6, cells := 0, slots := 0, locals := 110 } : Room)) (Q := Q_rm_ad14 Z a1 cs c0 c1 c2 c3 vf h0 n0) Bd.notSynchronized ?_
  refine Goes.cast (g2 := mkF m 0 #[rv a1, iv 1, iv 4, .unset] []) (by first | (simp [entryFrame, mkF, argsToLocals, Value.category]; done) | rfl) ?_
  have K0 : Keep h0 h0 [] := Keep.refl h0 _
  have hws : ∀ x ∈ ([] : List Addr), n0 ≤ x := all0
  refine Goes.step (T2 := s₁) (g2 := (mkF m 1 #[rv a1, iv 1, iv 4, .unset] [(.int (1 : Int32))])) (fun _ hr => XS.iloadN X0.here hx rfl (hb hby d18_0) rfl  hr) ?_
  refine Goes.step (T2 := s₁) (g2 := (mkF m 2 #[rv a1, iv 1, iv 4, iv 1] [])) (fun _ hr => XS.istoreN X0.here hx rfl (hb hby d18_1) rfl (l' := #[rv a1, iv 1, iv 4, iv 1]) rfl hr) ?_
  refine Goes.step (T2 := s₁) (g2 := (mkF m 3 #[rv a1, iv 1, iv 4, iv 1] [(.int (1 : Int32))])) (fun _ hr => XS.iloadN X0.here hx rfl (hb hby d18_2) rfl  hr) ?_
  refine Goes.step (T2 := s₁) (g2 := (mkF m 4 #[rv a1, iv 1, iv 4, iv 1] [(.int (4 : Int32)), (.int (1 : Int32))])) (fun _ hr => XS.iloadN X0.here hx rfl (hb hby d18_3) rfl  hr) ?_
  refine Goes.step (T2 := s₁) (g2 := (mkF m 7 #[rv a1, iv 1, iv 4, iv 1] [])) (fun _ hr => XS.icmpNo X0.here hx rfl (hb hby d18_4) rfl (tlt (by decide : (1 : Int32) < (4 : Int32))).2.1 hr) ?_
  refine Goes.step (T2 := s₁) (g2 := (mkF m 8 #[rv a1, iv 1, iv 4, iv 1] [(.ref a1)])) (fun _ hr => XS.aloadN X0.here hx rfl (hb hby d18_7) rfl rfl hr) ?_
  refine Goes.step (T2 := s₁) (g2 := (mkF m 9 #[rv a1, iv 1, iv 4, iv 1] [(.int (1 : Int32)), (.ref a1)])) (fun _ hr => XS.iloadN X0.here hx rfl (hb hby d18_8) rfl  hr) ?_
  have Zs352 : n0 ≤ h0.size := Nat.le_trans Z0 K0.1
  obtain ⟨cq353, kq353, q353a, q353b, q353c⟩ := isOf hZ e0 E_a1
  obtain ⟨_, _, ⟨T353, L353, k353, n353⟩, -, X353, ⟨Lc353, hQ353, l353, y353, z353⟩, st353⟩ := X0.virtualBack hx (y := Y17) (z := Y17) hown (mvT hZ (tw hw 59 rfl)) (mvT hZ (tw hw 60 rfl)) (notFace_of_selects (args := #[]) (mvT hZ (tw hw 62 rfl))) (mvT hZ (tw hw 62 rfl)) (mvT hZ (tw hw 61 rfl)) (by decide) (backOf (W := 0) (rm_cat1 l Z a0 hw [] a1 cs c0 c1 c2 c3 vf h0 n0 Zs352 (Old.keep O0 K0 hws) E_a1 S0 S_String_COMPACT_STRINGS_old S_Preconditions_SIOOBE_FORMATTER_old S_StringUTF16__assertionsDisabled_old S_StringUTF16_HI_BYTE_SHIFT_old S_StringUTF16_LO_BYTE_SHIFT_old hcs hvf hb1) hZ (tw hw 63 rfl) (tw hw 5 rfl) (by decide) (by decide)) q353a q353c (g := (mkF m 9 #[rv a1, iv 1, iv 4, iv 1] [(.int (1 : Int32)), (.ref a1)])) rfl (by rw [hml]; rfl) (Steps.refl _) (argsL := [(.int (1 : Int32))]) (rest := []) (lenOf pd_13 rfl) rfl (by show 2 * 0 + _ ≤ _; exact Nat.le_of_eq rfl) (hb hby d18_9) (fun _ _ => ⟨rfl, e0, (by decide : 0 + 0 ≤ _), (by decide : 0 + 0 ≤ _)⟩)
  dsimp only [Pt.U, Pt.locs, Pt.cells, Pt.slots] at X353 l353 y353 z353 st353 hQ353
  subst l353 y353 z353
  obtain ⟨rfl, N353q, e353⟩ := hQ353
  have N353 := Fr.app N0 N353q
  refine Goes.step (T2 := T353) (g2 := (mkF m 12 #[rv a1, iv 1, iv 4, iv 1] [(.int c1)])) (fun _ hr => st353.trans hr) ?_
  refine Goes.step (T2 := T353) (g2 := (mkF m 14 #[rv a1, iv 1, iv 4, iv 1] [(.int (48 : Int32)), (.int c1)])) (fun _ hr => XS.bipush X353.here hx rfl (hb hby d18_12) hr) ?_
  by_cases hc14_354 : c1 < (48 : Int32)
  · refine Goes.step (T2 := T353) (g2 := (mkF m 27 #[rv a1, iv 1, iv 4, iv 1] [])) (fun _ hr => XS.icmpYes X353.here hx rfl (pc0 := 14) (pc' := 27) rfl (hb hby d18_14) rfl (tlt hc14_354).1 (by decide) (by decide) hr) ?_
    refine Goes.step (T2 := T353) (g2 := (mkF m 28 #[rv a1, iv 1, iv 4, iv 1] [(.int (0 : Int32))])) (fun _ hr => XS.iconst X353.here hx rfl (hb hby d18_27) hr) ?_
    exact Goes.ret (v := some (.int (0 : Int32))) X353 (by decide) (by decide) (fun h => by rw [Bd.returns] at h; cases h) ⟨by rw [show allD [c1, c2, c3] = (0 : Int32) from (allD_no (dg_lo hc14_354))], N353, e353⟩ (fun fs hr => retN X353 hx (t := .boolean) Bd.returns (by simp) (hb hby d18_28) hr)
  · refine Goes.step (T2 := T353) (g2 := (mkF m 17 #[rv a1, iv 1, iv 4, iv 1] [])) (fun _ hr => XS.icmpNo X353.here hx rfl (hb hby d18_14) rfl (flt hc14_354).1 hr) ?_
    refine Goes.step (T2 := T353) (g2 := (mkF m 18 #[rv a1, iv 1, iv 4, iv 1] [(.ref a1)])) (fun _ hr => XS.aloadN X353.here hx rfl (hb hby d18_17) rfl rfl hr) ?_
    refine Goes.step (T2 := T353) (g2 := (mkF m 19 #[rv a1, iv 1, iv 4, iv 1] [(.int (1 : Int32)), (.ref a1)])) (fun _ hr => XS.iloadN X353.here hx rfl (hb hby d18_18) rfl  hr) ?_
    have Zs355 : n0 ≤ h0.size := Nat.le_trans Z0 K0.1
    obtain ⟨cq356, kq356, q356a, q356b, q356c⟩ := isOf hZ e353 E_a1
    obtain ⟨_, _, ⟨T356, L356, k356, n356⟩, -, X356, ⟨Lc356, hQ356, l356, y356, z356⟩, st356⟩ := X353.virtualBack hx (y := Y17) (z := Y17) hown (mvT hZ (tw hw 59 rfl)) (mvT hZ (tw hw 60 rfl)) (notFace_of_selects (args := #[]) (mvT hZ (tw hw 62 rfl))) (mvT hZ (tw hw 62 rfl)) (mvT hZ (tw hw 61 rfl)) (by decide) (backOf (W := 0) (rm_cat1 l Z a0 hw [] a1 cs c0 c1 c2 c3 vf h0 n0 Zs355 (Old.keep O0 K0 hws) E_a1 S0 S_String_COMPACT_STRINGS_old S_Preconditions_SIOOBE_FORMATTER_old S_StringUTF16__assertionsDisabled_old S_StringUTF16_HI_BYTE_SHIFT_old S_StringUTF16_LO_BYTE_SHIFT_old hcs hvf hb1) hZ (tw hw 63 rfl) (tw hw 5 rfl) (by decide) (by decide)) q356a q356c (g := (mkF m 19 #[rv a1, iv 1, iv 4, iv 1] [(.int (1 : Int32)), (.ref a1)])) rfl (by rw [hml]; rfl) (Steps.refl _) (argsL := [(.int (1 : Int32))]) (rest := []) (lenOf pd_13 rfl) rfl (by show 2 * 0 + _ ≤ _; exact Nat.le_of_eq rfl) (hb hby d18_19) (fun _ _ => ⟨rfl, e353, (by decide : 0 + 0 ≤ _), (by decide : 0 + 0 ≤ _)⟩)
    dsimp only [Pt.U, Pt.locs, Pt.cells, Pt.slots] at X356 l356 y356 z356 st356 hQ356
    subst l356 y356 z356
    obtain ⟨rfl, N356q, e356⟩ := hQ356
    have N356 := Fr.app N353 N356q
    refine Goes.step (T2 := T356) (g2 := (mkF m 22 #[rv a1, iv 1, iv 4, iv 1] [(.int c1)])) (fun _ hr => st356.trans hr) ?_
    refine Goes.step (T2 := T356) (g2 := (mkF m 24 #[rv a1, iv 1, iv 4, iv 1] [(.int (57 : Int32)), (.int c1)])) (fun _ hr => XS.bipush X356.here hx rfl (hb hby d18_22) hr) ?_
    by_cases hc24_357 : (57 : Int32) < c1
    · refine Goes.step (T2 := T356) (g2 := (mkF m 27 #[rv a1, iv 1, iv 4, iv 1] [])) (fun _ hr => XS.icmpNo X356.here hx rfl (hb hby d18_24) rfl (tlt hc24_357).2.2.2 hr) ?_
      refine Goes.step (T2 := T356) (g2 := (mkF m 28 #[rv a1, iv 1, iv 4, iv 1] [(.int (0 : Int32))])) (fun _ hr => XS.iconst X356.here hx rfl (hb hby d18_27) hr) ?_
      exact Goes.ret (v := some (.int (0 : Int32))) X356 (by decide) (by decide) (fun h => by rw [Bd.returns] at h; cases h) ⟨by rw [show allD [c1, c2, c3] = (0 : Int32) from (allD_no (dg_hi hc24_357))], N356, e356⟩ (fun fs hr => retN X356 hx (t := .boolean) Bd.returns (by simp) (hb hby d18_28) hr)
    · refine Goes.step (T2 := T356) (g2 := (mkF m 29 #[rv a1, iv 1, iv 4, iv 1] [])) (fun _ hr => XS.icmpYes X356.here hx rfl (pc0 := 24) (pc' := 29) rfl (hb hby d18_24) rfl (flt hc24_357).2.2.2 (by decide) (by decide) hr) ?_
      refine Goes.step (T2 := T356) (g2 := (mkF m 32 #[rv a1, iv 1, iv 4, iv 2] [])) (fun _ hr => XS.iinc X356.here hx rfl (hb hby d18_29) rfl (l' := #[rv a1, iv 1, iv 4, iv 2]) rfl hr) ?_
      refine Goes.step (T2 := T356) (g2 := (mkF m 2 #[rv a1, iv 1, iv 4, iv 2] [])) (fun _ hr => XS.goto X356.here hx rfl (pc0 := 32) (pc' := 2) rfl (hb hby d18_32) (by decide) (by decide) hr) ?_
      refine Goes.step (T2 := T356) (g2 := (mkF m 3 #[rv a1, iv 1, iv 4, iv 2] [(.int (2 : Int32))])) (fun _ hr => XS.iloadN X356.here hx rfl (hb hby d18_2) rfl  hr) ?_
      refine Goes.step (T2 := T356) (g2 := (mkF m 4 #[rv a1, iv 1, iv 4, iv 2] [(.int (4 : Int32)), (.int (2 : Int32))])) (fun _ hr => XS.iloadN X356.here hx rfl (hb hby d18_3) rfl  hr) ?_
      refine Goes.step (T2 := T356) (g2 := (mkF m 7 #[rv a1, iv 1, iv 4, iv 2] [])) (fun _ hr => XS.icmpNo X356.here hx rfl (hb hby d18_4) rfl (tlt (by decide : (2 : Int32) < (4 : Int32))).2.1 hr) ?_
      refine Goes.step (T2 := T356) (g2 := (mkF m 8 #[rv a1, iv 1, iv 4, iv 2] [(.ref a1)])) (fun _ hr => XS.aloadN X356.here hx rfl (hb hby d18_7) rfl rfl hr) ?_
      refine Goes.step (T2 := T356) (g2 := (mkF m 9 #[rv a1, iv 1, iv 4, iv 2] [(.int (2 : Int32)), (.ref a1)])) (fun _ hr => XS.iloadN X356.here hx rfl (hb hby d18_8) rfl  hr) ?_
      have Zs358 : n0 ≤ h0.size := Nat.le_trans Z0 K0.1
      obtain ⟨cq359, kq359, q359a, q359b, q359c⟩ := isOf hZ e356 E_a1
      obtain ⟨_, _, ⟨T359, L359, k359, n359⟩, -, X359, ⟨Lc359, hQ359, l359, y359, z359⟩, st359⟩ := X356.virtualBack hx (y := Y17) (z := Y17) hown (mvT hZ (tw hw 59 rfl)) (mvT hZ (tw hw 60 rfl)) (notFace_of_selects (args := #[]) (mvT hZ (tw hw 62 rfl))) (mvT hZ (tw hw 62 rfl)) (mvT hZ (tw hw 61 rfl)) (by decide) (backOf (W := 0) (rm_cat2 l Z a0 hw [] a1 cs c0 c1 c2 c3 vf h0 n0 Zs358 (Old.keep O0 K0 hws) E_a1 S0 S_String_COMPACT_STRINGS_old S_Preconditions_SIOOBE_FORMATTER_old S_StringUTF16__assertionsDisabled_old S_StringUTF16_HI_BYTE_SHIFT_old S_StringUTF16_LO_BYTE_SHIFT_old hcs hvf hb2) hZ (tw hw 63 rfl) (tw hw 5 rfl) (by decide) (by decide)) q359a q359c (g := (mkF m 9 #[rv a1, iv 1, iv 4, iv 2] [(.int (2 : Int32)), (.ref a1)])) rfl (by rw [hml]; rfl) (Steps.refl _) (argsL := [(.int (2 : Int32))]) (rest := []) (lenOf pd_13 rfl) rfl (by show 2 * 0 + _ ≤ _; exact Nat.le_of_eq rfl) (hb hby d18_9) (fun _ _ => ⟨rfl, e356, (by decide : 0 + 0 ≤ _), (by decide : 0 + 0 ≤ _)⟩)
      dsimp only [Pt.U, Pt.locs, Pt.cells, Pt.slots] at X359 l359 y359 z359 st359 hQ359
      subst l359 y359 z359
      obtain ⟨rfl, N359q, e359⟩ := hQ359
      have N359 := Fr.app N356 N359q
      refine Goes.step (T2 := T359) (g2 := (mkF m 12 #[rv a1, iv 1, iv 4, iv 2] [(.int c2)])) (fun _ hr => st359.trans hr) ?_
      refine Goes.step (T2 := T359) (g2 := (mkF m 14 #[rv a1, iv 1, iv 4, iv 2] [(.int (48 : Int32)), (.int c2)])) (fun _ hr => XS.bipush X359.here hx rfl (hb hby d18_12) hr) ?_
      by_cases hc14_360 : c2 < (48 : Int32)
      · refine Goes.step (T2 := T359) (g2 := (mkF m 27 #[rv a1, iv 1, iv 4, iv 2] [])) (fun _ hr => XS.icmpYes X359.here hx rfl (pc0 := 14) (pc' := 27) rfl (hb hby d18_14) rfl (tlt hc14_360).1 (by decide) (by decide) hr) ?_
        refine Goes.step (T2 := T359) (g2 := (mkF m 28 #[rv a1, iv 1, iv 4, iv 2] [(.int (0 : Int32))])) (fun _ hr => XS.iconst X359.here hx rfl (hb hby d18_27) hr) ?_
        exact Goes.ret (v := some (.int (0 : Int32))) X359 (by decide) (by decide) (fun h => by rw [Bd.returns] at h; cases h) ⟨by rw [show allD [c1, c2, c3] = (0 : Int32) from (allD_go (dg_yes hc14_354 hc24_357) (allD_no (dg_lo hc14_360)))], N359, e359⟩ (fun fs hr => retN X359 hx (t := .boolean) Bd.returns (by simp) (hb hby d18_28) hr)
      · refine Goes.step (T2 := T359) (g2 := (mkF m 17 #[rv a1, iv 1, iv 4, iv 2] [])) (fun _ hr => XS.icmpNo X359.here hx rfl (hb hby d18_14) rfl (flt hc14_360).1 hr) ?_
        refine Goes.step (T2 := T359) (g2 := (mkF m 18 #[rv a1, iv 1, iv 4, iv 2] [(.ref a1)])) (fun _ hr => XS.aloadN X359.here hx rfl (hb hby d18_17) rfl rfl hr) ?_
        refine Goes.step (T2 := T359) (g2 := (mkF m 19 #[rv a1, iv 1, iv 4, iv 2] [(.int (2 : Int32)), (.ref a1)])) (fun _ hr => XS.iloadN X359.here hx rfl (hb hby d18_18) rfl  hr) ?_
        have Zs361 : n0 ≤ h0.size := Nat.le_trans Z0 K0.1
        obtain ⟨cq362, kq362, q362a, q362b, q362c⟩ := isOf hZ e359 E_a1
        obtain ⟨_, _, ⟨T362, L362, k362, n362⟩, -, X362, ⟨Lc362, hQ362, l362, y362, z362⟩, st362⟩ := X359.virtualBack hx (y := Y17) (z := Y17) hown (mvT hZ (tw hw 59 rfl)) (mvT hZ (tw hw 60 rfl)) (notFace_of_selects (args := #[]) (mvT hZ (tw hw 62 rfl))) (mvT hZ (tw hw 62 rfl)) (mvT hZ (tw hw 61 rfl)) (by decide) (backOf (W := 0) (rm_cat2 l Z a0 hw [] a1 cs c0 c1 c2 c3 vf h0 n0 Zs361 (Old.keep O0 K0 hws) E_a1 S0 S_String_COMPACT_STRINGS_old S_Preconditions_SIOOBE_FORMATTER_old S_StringUTF16__assertionsDisabled_old S_StringUTF16_HI_BYTE_SHIFT_old S_StringUTF16_LO_BYTE_SHIFT_old hcs hvf hb2) hZ (tw hw 63 rfl) (tw hw 5 rfl) (by decide) (by decide)) q362a q362c (g := (mkF m 19 #[rv a1, iv 1, iv 4, iv 2] [(.int (2 : Int32)), (.ref a1)])) rfl (by rw [hml]; rfl) (Steps.refl _) (argsL := [(.int (2 : Int32))]) (rest := []) (lenOf pd_13 rfl) rfl (by show 2 * 0 + _ ≤ _; exact Nat.le_of_eq rfl) (hb hby d18_19) (fun _ _ => ⟨rfl, e359, (by decide : 0 + 0 ≤ _), (by decide : 0 + 0 ≤ _)⟩)
        dsimp only [Pt.U, Pt.locs, Pt.cells, Pt.slots] at X362 l362 y362 z362 st362 hQ362
        subst l362 y362 z362
        obtain ⟨rfl, N362q, e362⟩ := hQ362
        have N362 := Fr.app N359 N362q
        refine Goes.step (T2 := T362) (g2 := (mkF m 22 #[rv a1, iv 1, iv 4, iv 2] [(.int c2)])) (fun _ hr => st362.trans hr) ?_
        refine Goes.step (T2 := T362) (g2 := (mkF m 24 #[rv a1, iv 1, iv 4, iv 2] [(.int (57 : Int32)), (.int c2)])) (fun _ hr => XS.bipush X362.here hx rfl (hb hby d18_22) hr) ?_
        by_cases hc24_363 : (57 : Int32) < c2
        · refine Goes.step (T2 := T362) (g2 := (mkF m 27 #[rv a1, iv 1, iv 4, iv 2] [])) (fun _ hr => XS.icmpNo X362.here hx rfl (hb hby d18_24) rfl (tlt hc24_363).2.2.2 hr) ?_
          refine Goes.step (T2 := T362) (g2 := (mkF m 28 #[rv a1, iv 1, iv 4, iv 2] [(.int (0 : Int32))])) (fun _ hr => XS.iconst X362.here hx rfl (hb hby d18_27) hr) ?_
          exact Goes.ret (v := some (.int (0 : Int32))) X362 (by decide) (by decide) (fun h => by rw [Bd.returns] at h; cases h) ⟨by rw [show allD [c1, c2, c3] = (0 : Int32) from (allD_go (dg_yes hc14_354 hc24_357) (allD_no (dg_hi hc24_363)))], N362, e362⟩ (fun fs hr => retN X362 hx (t := .boolean) Bd.returns (by simp) (hb hby d18_28) hr)
        · refine Goes.step (T2 := T362) (g2 := (mkF m 29 #[rv a1, iv 1, iv 4, iv 2] [])) (fun _ hr => XS.icmpYes X362.here hx rfl (pc0 := 24) (pc' := 29) rfl (hb hby d18_24) rfl (flt hc24_363).2.2.2 (by decide) (by decide) hr) ?_
          refine Goes.step (T2 := T362) (g2 := (mkF m 32 #[rv a1, iv 1, iv 4, iv 3] [])) (fun _ hr => XS.iinc X362.here hx rfl (hb hby d18_29) rfl (l' := #[rv a1, iv 1, iv 4, iv 3]) rfl hr) ?_
          refine Goes.step (T2 := T362) (g2 := (mkF m 2 #[rv a1, iv 1, iv 4, iv 3] [])) (fun _ hr => XS.goto X362.here hx rfl (pc0 := 32) (pc' := 2) rfl (hb hby d18_32) (by decide) (by decide) hr) ?_
          refine Goes.step (T2 := T362) (g2 := (mkF m 3 #[rv a1, iv 1, iv 4, iv 3] [(.int (3 : Int32))])) (fun _ hr => XS.iloadN X362.here hx rfl (hb hby d18_2) rfl  hr) ?_
          refine Goes.step (T2 := T362) (g2 := (mkF m 4 #[rv a1, iv 1, iv 4, iv 3] [(.int (4 : Int32)), (.int (3 : Int32))])) (fun _ hr => XS.iloadN X362.here hx rfl (hb hby d18_3) rfl  hr) ?_
          refine Goes.step (T2 := T362) (g2 := (mkF m 7 #[rv a1, iv 1, iv 4, iv 3] [])) (fun _ hr => XS.icmpNo X362.here hx rfl (hb hby d18_4) rfl (tlt (by decide : (3 : Int32) < (4 : Int32))).2.1 hr) ?_
          refine Goes.step (T2 := T362) (g2 := (mkF m 8 #[rv a1, iv 1, iv 4, iv 3] [(.ref a1)])) (fun _ hr => XS.aloadN X362.here hx rfl (hb hby d18_7) rfl rfl hr) ?_
          refine Goes.step (T2 := T362) (g2 := (mkF m 9 #[rv a1, iv 1, iv 4, iv 3] [(.int (3 : Int32)), (.ref a1)])) (fun _ hr => XS.iloadN X362.here hx rfl (hb hby d18_8) rfl  hr) ?_
          have Zs364 : n0 ≤ h0.size := Nat.le_trans Z0 K0.1
          obtain ⟨cq365, kq365, q365a, q365b, q365c⟩ := isOf hZ e362 E_a1
          obtain ⟨_, _, ⟨T365, L365, k365, n365⟩, -, X365, ⟨Lc365, hQ365, l365, y365, z365⟩, st365⟩ := X362.virtualBack hx (y := Y17) (z := Y17) hown (mvT hZ (tw hw 59 rfl)) (mvT hZ (tw hw 60 rfl)) (notFace_of_selects (args := #[]) (mvT hZ (tw hw 62 rfl))) (mvT hZ (tw hw 62 rfl)) (mvT hZ (tw hw 61 rfl)) (by decide) (backOf (W := 0) (rm_cat3 l Z a0 hw [] a1 cs c0 c1 c2 c3 vf h0 n0 Zs364 (Old.keep O0 K0 hws) E_a1 S0 S_String_COMPACT_STRINGS_old S_Preconditions_SIOOBE_FORMATTER_old S_StringUTF16__assertionsDisabled_old S_StringUTF16_HI_BYTE_SHIFT_old S_StringUTF16_LO_BYTE_SHIFT_old hcs hvf hb3) hZ (tw hw 63 rfl) (tw hw 5 rfl) (by decide) (by decide)) q365a q365c (g := (mkF m 9 #[rv a1, iv 1, iv 4, iv 3] [(.int (3 : Int32)), (.ref a1)])) rfl (by rw [hml]; rfl) (Steps.refl _) (argsL := [(.int (3 : Int32))]) (rest := []) (lenOf pd_13 rfl) rfl (by show 2 * 0 + _ ≤ _; exact Nat.le_of_eq rfl) (hb hby d18_9) (fun _ _ => ⟨rfl, e362, (by decide : 0 + 0 ≤ _), (by decide : 0 + 0 ≤ _)⟩)
          dsimp only [Pt.U, Pt.locs, Pt.cells, Pt.slots] at X365 l365 y365 z365 st365 hQ365
          subst l365 y365 z365
          obtain ⟨rfl, N365q, e365⟩ := hQ365
          have N365 := Fr.app N362 N365q
          refine Goes.step (T2 := T365) (g2 := (mkF m 12 #[rv a1, iv 1, iv 4, iv 3] [(.int c3)])) (fun _ hr => st365.trans hr) ?_
          refine Goes.step (T2 := T365) (g2 := (mkF m 14 #[rv a1, iv 1, iv 4, iv 3] [(.int (48 : Int32)), (.int c3)])) (fun _ hr => XS.bipush X365.here hx rfl (hb hby d18_12) hr) ?_
          by_cases hc14_366 : c3 < (48 : Int32)
          · refine Goes.step (T2 := T365) (g2 := (mkF m 27 #[rv a1, iv 1, iv 4, iv 3] [])) (fun _ hr => XS.icmpYes X365.here hx rfl (pc0 := 14) (pc' := 27) rfl (hb hby d18_14) rfl (tlt hc14_366).1 (by decide) (by decide) hr) ?_
            refine Goes.step (T2 := T365) (g2 := (mkF m 28 #[rv a1, iv 1, iv 4, iv 3] [(.int (0 : Int32))])) (fun _ hr => XS.iconst X365.here hx rfl (hb hby d18_27) hr) ?_
            exact Goes.ret (v := some (.int (0 : Int32))) X365 (by decide) (by decide) (fun h => by rw [Bd.returns] at h; cases h) ⟨by rw [show allD [c1, c2, c3] = (0 : Int32) from (allD_go (dg_yes hc14_354 hc24_357) (allD_go (dg_yes hc14_360 hc24_363) (allD_no (dg_lo hc14_366))))], N365, e365⟩ (fun fs hr => retN X365 hx (t := .boolean) Bd.returns (by simp) (hb hby d18_28) hr)
          · refine Goes.step (T2 := T365) (g2 := (mkF m 17 #[rv a1, iv 1, iv 4, iv 3] [])) (fun _ hr => XS.icmpNo X365.here hx rfl (hb hby d18_14) rfl (flt hc14_366).1 hr) ?_
            refine Goes.step (T2 := T365) (g2 := (mkF m 18 #[rv a1, iv 1, iv 4, iv 3] [(.ref a1)])) (fun _ hr => XS.aloadN X365.here hx rfl (hb hby d18_17) rfl rfl hr) ?_
            refine Goes.step (T2 := T365) (g2 := (mkF m 19 #[rv a1, iv 1, iv 4, iv 3] [(.int (3 : Int32)), (.ref a1)])) (fun _ hr => XS.iloadN X365.here hx rfl (hb hby d18_18) rfl  hr) ?_
            have Zs367 : n0 ≤ h0.size := Nat.le_trans Z0 K0.1
            obtain ⟨cq368, kq368, q368a, q368b, q368c⟩ := isOf hZ e365 E_a1
            obtain ⟨_, _, ⟨T368, L368, k368, n368⟩, -, X368, ⟨Lc368, hQ368, l368, y368, z368⟩, st368⟩ := X365.virtualBack hx (y := Y17) (z := Y17) hown (mvT hZ (tw hw 59 rfl)) (mvT hZ (tw hw 60 rfl)) (notFace_of_selects (args := #[]) (mvT hZ (tw hw 62 rfl))) (mvT hZ (tw hw 62 rfl)) (mvT hZ (tw hw 61 rfl)) (by decide) (backOf (W := 0) (rm_cat3 l Z a0 hw [] a1 cs c0 c1 c2 c3 vf h0 n0 Zs367 (Old.keep O0 K0 hws) E_a1 S0 S_String_COMPACT_STRINGS_old S_Preconditions_SIOOBE_FORMATTER_old S_StringUTF16__assertionsDisabled_old S_StringUTF16_HI_BYTE_SHIFT_old S_StringUTF16_LO_BYTE_SHIFT_old hcs hvf hb3) hZ (tw hw 63 rfl) (tw hw 5 rfl) (by decide) (by decide)) q368a q368c (g := (mkF m 19 #[rv a1, iv 1, iv 4, iv 3] [(.int (3 : Int32)), (.ref a1)])) rfl (by rw [hml]; rfl) (Steps.refl _) (argsL := [(.int (3 : Int32))]) (rest := []) (lenOf pd_13 rfl) rfl (by show 2 * 0 + _ ≤ _; exact Nat.le_of_eq rfl) (hb hby d18_19) (fun _ _ => ⟨rfl, e365, (by decide : 0 + 0 ≤ _), (by decide : 0 + 0 ≤ _)⟩)
            dsimp only [Pt.U, Pt.locs, Pt.cells, Pt.slots] at X368 l368 y368 z368 st368 hQ368
            subst l368 y368 z368
            obtain ⟨rfl, N368q, e368⟩ := hQ368
            have N368 := Fr.app N365 N368q
            refine Goes.step (T2 := T368) (g2 := (mkF m 22 #[rv a1, iv 1, iv 4, iv 3] [(.int c3)])) (fun _ hr => st368.trans hr) ?_
            refine Goes.step (T2 := T368) (g2 := (mkF m 24 #[rv a1, iv 1, iv 4, iv 3] [(.int (57 : Int32)), (.int c3)])) (fun _ hr => XS.bipush X368.here hx rfl (hb hby d18_22) hr) ?_
            by_cases hc24_369 : (57 : Int32) < c3
            · refine Goes.step (T2 := T368) (g2 := (mkF m 27 #[rv a1, iv 1, iv 4, iv 3] [])) (fun _ hr => XS.icmpNo X368.here hx rfl (hb hby d18_24) rfl (tlt hc24_369).2.2.2 hr) ?_
              refine Goes.step (T2 := T368) (g2 := (mkF m 28 #[rv a1, iv 1, iv 4, iv 3] [(.int (0 : Int32))])) (fun _ hr => XS.iconst X368.here hx rfl (hb hby d18_27) hr) ?_
              exact Goes.ret (v := some (.int (0 : Int32))) X368 (by decide) (by decide) (fun h => by rw [Bd.returns] at h; cases h) ⟨by rw [show allD [c1, c2, c3] = (0 : Int32) from (allD_go (dg_yes hc14_354 hc24_357) (allD_go (dg_yes hc14_360 hc24_363) (allD_no (dg_hi hc24_369))))], N368, e368⟩ (fun fs hr => retN X368 hx (t := .boolean) Bd.returns (by simp) (hb hby d18_28) hr)
            · refine Goes.step (T2 := T368) (g2 := (mkF m 29 #[rv a1, iv 1, iv 4, iv 3] [])) (fun _ hr => XS.icmpYes X368.here hx rfl (pc0 := 24) (pc' := 29) rfl (hb hby d18_24) rfl (flt hc24_369).2.2.2 (by decide) (by decide) hr) ?_
              refine Goes.step (T2 := T368) (g2 := (mkF m 32 #[rv a1, iv 1, iv 4, iv 4] [])) (fun _ hr => XS.iinc X368.here hx rfl (hb hby d18_29) rfl (l' := #[rv a1, iv 1, iv 4, iv 4]) rfl hr) ?_
              refine Goes.step (T2 := T368) (g2 := (mkF m 2 #[rv a1, iv 1, iv 4, iv 4] [])) (fun _ hr => XS.goto X368.here hx rfl (pc0 := 32) (pc' := 2) rfl (hb hby d18_32) (by decide) (by decide) hr) ?_
              refine Goes.step (T2 := T368) (g2 := (mkF m 3 #[rv a1, iv 1, iv 4, iv 4] [(.int (4 : Int32))])) (fun _ hr => XS.iloadN X368.here hx rfl (hb hby d18_2) rfl  hr) ?_
              refine Goes.step (T2 := T368) (g2 := (mkF m 4 #[rv a1, iv 1, iv 4, iv 4] [(.int (4 : Int32)), (.int (4 : Int32))])) (fun _ hr => XS.iloadN X368.here hx rfl (hb hby d18_3) rfl  hr) ?_
              refine Goes.step (T2 := T368) (g2 := (mkF m 35 #[rv a1, iv 1, iv 4, iv 4] [])) (fun _ hr => XS.icmpYes X368.here hx rfl (pc0 := 4) (pc' := 35) rfl (hb hby d18_4) rfl (flt (by decide : ¬ ((4 : Int32) < (4 : Int32)))).2.1 (by decide) (by decide) hr) ?_
              refine Goes.step (T2 := T368) (g2 := (mkF m 36 #[rv a1, iv 1, iv 4, iv 4] [(.int (1 : Int32))])) (fun _ hr => XS.iconst X368.here hx rfl (hb hby d18_35) hr) ?_
              exact Goes.ret (v := some (.int (1 : Int32))) X368 (by decide) (by decide) (fun h => by rw [Bd.returns] at h; cases h) ⟨by rw [show allD [c1, c2, c3] = (1 : Int32) from (allD_go (dg_yes hc14_354 hc24_357) (allD_go (dg_yes hc14_360 hc24_363) (allD_go (dg_yes hc14_366 hc24_369) rfl)))], N368, e368⟩ (fun fs hr => retN X368 hx (t := .boolean) Bd.returns (by simp) (hb hby d18_36) hr)
def Q_rm_ad20 (Z : State) (a1 : Addr) (cs : Int32) (c0 : Int32) (c1 : Int32) (c2 : Int32) (c3 : Int32) (vf : Value) (h0 : Heap) (n0 : Nat) (v : Option Value) (h : Heap) (L : List Loc) : Prop := v = some (.int (allD [])) ∧ Fr n0 L ∧ h = h0
set_option maxRecDepth 65536 in
set_option maxHeartbeats 40000000 in
theorem rm_ad20 (l : Launch) (Z : State) (a0 : Array Value) (hw : ∀ d ∈ tables_1, d.before a0 Z = true) (ws : List Jvm.Cond) (a1 : Addr) (cs : Int32) (c0 : Int32) (c1 : Int32) (c2 : Int32) (c3 : Int32) (vf : Value) (h0 : Heap) (n0 : Nat) (Z0 : n0 ≤ h0.size) (O0 : Old Z n0 h0) (E_a1 : Exa Z h0 a1 "java/lang/String") (S_String_COMPACT_STRINGS_old : Sta Z Z.heap "java/lang/String" "COMPACT_STRINGS" "Z" (.int cs)) (S_Preconditions_SIOOBE_FORMATTER_old : Sta Z Z.heap "jdk/internal/util/Preconditions" "SIOOBE_FORMATTER" "Ljava/util/function/BiFunction;" vf) (S_StringUTF16__assertionsDisabled_old : Sta Z Z.heap "java/lang/StringUTF16" "$assertionsDisabled" "Z" (.int (1 : Int32))) (S_StringUTF16_HI_BYTE_SHIFT_old : Sta Z Z.heap "java/lang/StringUTF16" "HI_BYTE_SHIFT" "I" (.int (0 : Int32))) (S_StringUTF16_LO_BYTE_SHIFT_old : Sta Z Z.heap "java/lang/StringUTF16" "LO_BYTE_SHIFT" "I" (.int (8 : Int32))) (hcs : ¬ (cs = (0 : Int32))) (hvf : vf.isRef = true) (hb0 : B16 c0) (hb1 : B16 c1) (hb2 : B16 c2) (hb3 : B16 c3) (S0 : Sch Z h0 a1 c0 c1 c2 c3) :
    MetFree l Y18 (head1 (Jvm.Cond.code Y18 prog_32_method_41_code 4 (some .boolean) :: ws) ({ frames := 6, cells := 0, slots := 0, locals := 110 } : Room)) (fun a U => a = #[(.ref a1), (.int (2 : Int32)), (.int (0 : Int32))] ∧ Z.Warmed39 U.vm ∧ U.heap = h0) (fun _ _ _ _ _ => True) (fun _ U o U' => ∃ v L, o = .returned v ∧ Q_rm_ad20 Z a1 cs c0 c1 c2 c3 vf h0 n0 v U'.heap L ∧ FrameEnd U o U' L ({ frames := 6, cells := 0, slots := 0, locals := 110 } : Room).cells ({ frames := 6, cells := 0, slots := 0, locals := 110 } : Room).slots) := by
  refine MetFree.of_bodySF (plainFor_of_name pn_com_example_api_policy_gateway_apipolicygateway_proxy_HeaderFields) hisR ?_
  intro p e s m args below meth c s₁ Bd hml0 hP hK
  obtain ⟨rfl, hZ, hh⟩ := hP
  have hx := Bd.exec
  have hby := Bd.bytes
  have hml : c.maxLocals = 4 := hml0
  have hown : s.vm.findClass "com/example/api_policy_gateway/apipolicygateway/proxy/HeaderFields" = some m.cls := findClass_of_methodNamed Bd.named
  have hnm := (name_of_methodNamed Bd.named Bd.method).1
  have X0 : Stand p l e ({ frames := 6, cells := 0, slots := 0, locals := 110 } : Room) s m #[(.ref a1), (.int (2 : Int32)), (.int (0 : Int32))] below meth c s₁ [] 0 0 := Stand.of_body Bd
  have e0 : s₁.heap = h0 := by rw [← hh, Bd.state]; rfl
  have N0 := Fr.nil n0
  refine Goes.out (l := l) (c := c) (R := ({ frames := 6, cells := 0, slots := 0, locals := 110 } : Room)) (Q := Q_rm_ad20 Z a1 cs c0 c1 c2 c3 vf h0 n0) Bd.notSynchronized ?_
  refine Goes.cast (g2 := mkF m 0 #[rv a1, iv 2, iv 0, .unset] []) (by first | (simp [entryFrame, mkF, argsToLocals, Value.category]; done) | rfl) ?_
  have K0 : Keep h0 h0 [] := Keep.refl h0 _
  have hws : ∀ x ∈ ([] : List Addr), n0 ≤ x := all0
  refine Goes.step (T2 := s₁) (g2 := (mkF m 1 #[rv a1, iv 2, iv 0, .unset] [(.int (2 : Int32))])) (fun _ hr => XS.iloadN X0.here hx rfl (hb hby d18_0) rfl  hr) ?_
  refine Goes.step (T2 := s₁) (g2 := (mkF m 2 #[rv a1, iv 2, iv 0, iv 2] [])) (fun _ hr => XS.istoreN X0.here hx rfl (hb hby d18_1) rfl (l' := #[rv a1, iv 2, iv 0, iv 2]) rfl hr) ?_
  refine Goes.step (T2 := s₁) (g2 := (mkF m 3 #[rv a1, iv 2, iv 0, iv 2] [(.int (2 : Int32))])) (fun _ hr => XS.iloadN X0.here hx rfl (hb hby d18_2) rfl  hr) ?_
  refine Goes.step (T2 := s₁) (g2 := (mkF m 4 #[rv a1, iv 2, iv 0, iv 2] [(.int (0 : Int32)), (.int (2 : Int32))])) (fun _ hr => XS.iloadN X0.here hx rfl (hb hby d18_3) rfl  hr) ?_
  refine Goes.step (T2 := s₁) (g2 := (mkF m 35 #[rv a1, iv 2, iv 0, iv 2] [])) (fun _ hr => XS.icmpYes X0.here hx rfl (pc0 := 4) (pc' := 35) rfl (hb hby d18_4) rfl (flt (by decide : ¬ ((2 : Int32) < (0 : Int32)))).2.1 (by decide) (by decide) hr) ?_
  refine Goes.step (T2 := s₁) (g2 := (mkF m 36 #[rv a1, iv 2, iv 0, iv 2] [(.int (1 : Int32))])) (fun _ hr => XS.iconst X0.here hx rfl (hb hby d18_35) hr) ?_
  exact Goes.ret (v := some (.int (1 : Int32))) X0 (by decide) (by decide) (fun h => by rw [Bd.returns] at h; cases h) ⟨by rw [show allD [] = (1 : Int32) from rfl], N0, e0⟩ (fun fs hr => retN X0 hx (t := .boolean) Bd.returns (by simp) (hb hby d18_36) hr)
def Q_rm_ad21 (Z : State) (a1 : Addr) (cs : Int32) (c0 : Int32) (c1 : Int32) (c2 : Int32) (c3 : Int32) (vf : Value) (h0 : Heap) (n0 : Nat) (v : Option Value) (h : Heap) (L : List Loc) : Prop := v = some (.int (allD [])) ∧ Fr n0 L ∧ h = h0
set_option maxRecDepth 65536 in
set_option maxHeartbeats 40000000 in
theorem rm_ad21 (l : Launch) (Z : State) (a0 : Array Value) (hw : ∀ d ∈ tables_1, d.before a0 Z = true) (ws : List Jvm.Cond) (a1 : Addr) (cs : Int32) (c0 : Int32) (c1 : Int32) (c2 : Int32) (c3 : Int32) (vf : Value) (h0 : Heap) (n0 : Nat) (Z0 : n0 ≤ h0.size) (O0 : Old Z n0 h0) (E_a1 : Exa Z h0 a1 "java/lang/String") (S_String_COMPACT_STRINGS_old : Sta Z Z.heap "java/lang/String" "COMPACT_STRINGS" "Z" (.int cs)) (S_Preconditions_SIOOBE_FORMATTER_old : Sta Z Z.heap "jdk/internal/util/Preconditions" "SIOOBE_FORMATTER" "Ljava/util/function/BiFunction;" vf) (S_StringUTF16__assertionsDisabled_old : Sta Z Z.heap "java/lang/StringUTF16" "$assertionsDisabled" "Z" (.int (1 : Int32))) (S_StringUTF16_HI_BYTE_SHIFT_old : Sta Z Z.heap "java/lang/StringUTF16" "HI_BYTE_SHIFT" "I" (.int (0 : Int32))) (S_StringUTF16_LO_BYTE_SHIFT_old : Sta Z Z.heap "java/lang/StringUTF16" "LO_BYTE_SHIFT" "I" (.int (8 : Int32))) (hcs : ¬ (cs = (0 : Int32))) (hvf : vf.isRef = true) (hb0 : B16 c0) (hb1 : B16 c1) (hb2 : B16 c2) (hb3 : B16 c3) (S0 : Sch Z h0 a1 c0 c1 c2 c3) :
    MetFree l Y18 (head1 (Jvm.Cond.code Y18 prog_32_method_41_code 4 (some .boolean) :: ws) ({ frames := 6, cells := 0, slots := 0, locals := 110 } : Room)) (fun a U => a = #[(.ref a1), (.int (2 : Int32)), (.int (1 : Int32))] ∧ Z.Warmed39 U.vm ∧ U.heap = h0) (fun _ _ _ _ _ => True) (fun _ U o U' => ∃ v L, o = .returned v ∧ Q_rm_ad21 Z a1 cs c0 c1 c2 c3 vf h0 n0 v U'.heap L ∧ FrameEnd U o U' L ({ frames := 6, cells := 0, slots := 0, locals := 110 } : Room).cells ({ frames := 6, cells := 0, slots := 0, locals := 110 } : Room).slots) := by
  refine MetFree.of_bodySF (plainFor_of_name pn_com_example_api_policy_gateway_apipolicygateway_proxy_HeaderFields) hisR ?_
  intro p e s m args below meth c s₁ Bd hml0 hP hK
  obtain ⟨rfl, hZ, hh⟩ := hP
  have hx := Bd.exec
  have hby := Bd.bytes
  have hml : c.maxLocals = 4 := hml0
  have hown : s.vm.findClass "com/example/api_policy_gateway/apipolicygateway/proxy/HeaderFields" = some m.cls := findClass_of_methodNamed Bd.named
  have hnm := (name_of_methodNamed Bd.named Bd.method).1
  have X0 : Stand p l e ({ frames := 6, cells := 0, slots := 0, locals := 110 } : Room) s m #[(.ref a1), (.int (2 : Int32)), (.int (1 : Int32))] below meth c s₁ [] 0 0 := Stand.of_body Bd
  have e0 : s₁.heap = h0 := by rw [← hh, Bd.state]; rfl
  have N0 := Fr.nil n0
  refine Goes.out (l := l) (c := c) (R := ({ frames := 6, cells := 0, slots := 0, locals := 110 } : Room)) (Q := Q_rm_ad21 Z a1 cs c0 c1 c2 c3 vf h0 n0) Bd.notSynchronized ?_
  refine Goes.cast (g2 := mkF m 0 #[rv a1, iv 2, iv 1, .unset] []) (by first | (simp [entryFrame, mkF, argsToLocals, Value.category]; done) | rfl) ?_
  have K0 : Keep h0 h0 [] := Keep.refl h0 _
  have hws : ∀ x ∈ ([] : List Addr), n0 ≤ x := all0
  refine Goes.step (T2 := s₁) (g2 := (mkF m 1 #[rv a1, iv 2, iv 1, .unset] [(.int (2 : Int32))])) (fun _ hr => XS.iloadN X0.here hx rfl (hb hby d18_0) rfl  hr) ?_
  refine Goes.step (T2 := s₁) (g2 := (mkF m 2 #[rv a1, iv 2, iv 1, iv 2] [])) (fun _ hr => XS.istoreN X0.here hx rfl (hb hby d18_1) rfl (l' := #[rv a1, iv 2, iv 1, iv 2]) rfl hr) ?_
  refine Goes.step (T2 := s₁) (g2 := (mkF m 3 #[rv a1, iv 2, iv 1, iv 2] [(.int (2 : Int32))])) (fun _ hr => XS.iloadN X0.here hx rfl (hb hby d18_2) rfl  hr) ?_
  refine Goes.step (T2 := s₁) (g2 := (mkF m 4 #[rv a1, iv 2, iv 1, iv 2] [(.int (1 : Int32)), (.int (2 : Int32))])) (fun _ hr => XS.iloadN X0.here hx rfl (hb hby d18_3) rfl  hr) ?_
  refine Goes.step (T2 := s₁) (g2 := (mkF m 35 #[rv a1, iv 2, iv 1, iv 2] [])) (fun _ hr => XS.icmpYes X0.here hx rfl (pc0 := 4) (pc' := 35) rfl (hb hby d18_4) rfl (flt (by decide : ¬ ((2 : Int32) < (1 : Int32)))).2.1 (by decide) (by decide) hr) ?_
  refine Goes.step (T2 := s₁) (g2 := (mkF m 36 #[rv a1, iv 2, iv 1, iv 2] [(.int (1 : Int32))])) (fun _ hr => XS.iconst X0.here hx rfl (hb hby d18_35) hr) ?_
  exact Goes.ret (v := some (.int (1 : Int32))) X0 (by decide) (by decide) (fun h => by rw [Bd.returns] at h; cases h) ⟨by rw [show allD [] = (1 : Int32) from rfl], N0, e0⟩ (fun fs hr => retN X0 hx (t := .boolean) Bd.returns (by simp) (hb hby d18_36) hr)
def Q_rm_ad22 (Z : State) (a1 : Addr) (cs : Int32) (c0 : Int32) (c1 : Int32) (c2 : Int32) (c3 : Int32) (vf : Value) (h0 : Heap) (n0 : Nat) (v : Option Value) (h : Heap) (L : List Loc) : Prop := v = some (.int (allD [])) ∧ Fr n0 L ∧ h = h0
set_option maxRecDepth 65536 in
set_option maxHeartbeats 40000000 in
theorem rm_ad22 (l : Launch) (Z : State) (a0 : Array Value) (hw : ∀ d ∈ tables_1, d.before a0 Z = true) (ws : List Jvm.Cond) (a1 : Addr) (cs : Int32) (c0 : Int32) (c1 : Int32) (c2 : Int32) (c3 : Int32) (vf : Value) (h0 : Heap) (n0 : Nat) (Z0 : n0 ≤ h0.size) (O0 : Old Z n0 h0) (E_a1 : Exa Z h0 a1 "java/lang/String") (S_String_COMPACT_STRINGS_old : Sta Z Z.heap "java/lang/String" "COMPACT_STRINGS" "Z" (.int cs)) (S_Preconditions_SIOOBE_FORMATTER_old : Sta Z Z.heap "jdk/internal/util/Preconditions" "SIOOBE_FORMATTER" "Ljava/util/function/BiFunction;" vf) (S_StringUTF16__assertionsDisabled_old : Sta Z Z.heap "java/lang/StringUTF16" "$assertionsDisabled" "Z" (.int (1 : Int32))) (S_StringUTF16_HI_BYTE_SHIFT_old : Sta Z Z.heap "java/lang/StringUTF16" "HI_BYTE_SHIFT" "I" (.int (0 : Int32))) (S_StringUTF16_LO_BYTE_SHIFT_old : Sta Z Z.heap "java/lang/StringUTF16" "LO_BYTE_SHIFT" "I" (.int (8 : Int32))) (hcs : ¬ (cs = (0 : Int32))) (hvf : vf.isRef = true) (hb0 : B16 c0) (hb1 : B16 c1) (hb2 : B16 c2) (hb3 : B16 c3) (S0 : Sch Z h0 a1 c0 c1 c2 c3) :
    MetFree l Y18 (head1 (Jvm.Cond.code Y18 prog_32_method_41_code 4 (some .boolean) :: ws) ({ frames := 6, cells := 0, slots := 0, locals := 110 } : Room)) (fun a U => a = #[(.ref a1), (.int (2 : Int32)), (.int (2 : Int32))] ∧ Z.Warmed39 U.vm ∧ U.heap = h0) (fun _ _ _ _ _ => True) (fun _ U o U' => ∃ v L, o = .returned v ∧ Q_rm_ad22 Z a1 cs c0 c1 c2 c3 vf h0 n0 v U'.heap L ∧ FrameEnd U o U' L ({ frames := 6, cells := 0, slots := 0, locals := 110 } : Room).cells ({ frames := 6, cells := 0, slots := 0, locals := 110 } : Room).slots) := by
  refine MetFree.of_bodySF (plainFor_of_name pn_com_example_api_policy_gateway_apipolicygateway_proxy_HeaderFields) hisR ?_
  intro p e s m args below meth c s₁ Bd hml0 hP hK
  obtain ⟨rfl, hZ, hh⟩ := hP
  have hx := Bd.exec
  have hby := Bd.bytes
  have hml : c.maxLocals = 4 := hml0
  have hown : s.vm.findClass "com/example/api_policy_gateway/apipolicygateway/proxy/HeaderFields" = some m.cls := findClass_of_methodNamed Bd.named
  have hnm := (name_of_methodNamed Bd.named Bd.method).1
  have X0 : Stand p l e ({ frames := 6, cells := 0, slots := 0, locals := 110 } : Room) s m #[(.ref a1), (.int (2 : Int32)), (.int (2 : Int32))] below meth c s₁ [] 0 0 := Stand.of_body Bd
  have e0 : s₁.heap = h0 := by rw [← hh, Bd.state]; rfl
  have N0 := Fr.nil n0
  refine Goes.out (l := l) (c := c) (R := ({ frames := 6, cells := 0, slots := 0, locals := 110 } : Room)) (Q := Q_rm_ad22 Z a1 cs c0 c1 c2 c3 vf h0 n0) Bd.notSynchronized ?_
  refine Goes.cast (g2 := mkF m 0 #[rv a1, iv 2, iv 2, .unset] []) (by first | (simp [entryFrame, mkF, argsToLocals, Value.category]; done) | rfl) ?_
  have K0 : Keep h0 h0 [] := Keep.refl h0 _
  have hws : ∀ x ∈ ([] : List Addr), n0 ≤ x := all0
  refine Goes.step (T2 := s₁) (g2 := (mkF m 1 #[rv a1, iv 2, iv 2, .unset] [(.int (2 : Int32))])) (fun _ hr => XS.iloadN X0.here hx rfl (hb hby d18_0) rfl  hr) ?_
  refine Goes.step (T2 := s₁) (g2 := (mkF m 2 #[rv a1, iv 2, iv 2, iv 2] [])) (fun _ hr => XS.istoreN X0.here hx rfl (hb hby d18_1) rfl (l' := #[rv a1, iv 2, iv 2, iv 2]) rfl hr) ?_
  refine Goes.step (T2 := s₁) (g2 := (mkF m 3 #[rv a1, iv 2, iv 2, iv 2] [(.int (2 : Int32))])) (fun _ hr => XS.iloadN X0.here hx rfl (hb hby d18_2) rfl  hr) ?_
  refine Goes.step (T2 := s₁) (g2 := (mkF m 4 #[rv a1, iv 2, iv 2, iv 2] [(.int (2 : Int32)), (.int (2 : Int32))])) (fun _ hr => XS.iloadN X0.here hx rfl (hb hby d18_3) rfl  hr) ?_
  refine Goes.step (T2 := s₁) (g2 := (mkF m 35 #[rv a1, iv 2, iv 2, iv 2] [])) (fun _ hr => XS.icmpYes X0.here hx rfl (pc0 := 4) (pc' := 35) rfl (hb hby d18_4) rfl (flt (by decide : ¬ ((2 : Int32) < (2 : Int32)))).2.1 (by decide) (by decide) hr) ?_
  refine Goes.step (T2 := s₁) (g2 := (mkF m 36 #[rv a1, iv 2, iv 2, iv 2] [(.int (1 : Int32))])) (fun _ hr => XS.iconst X0.here hx rfl (hb hby d18_35) hr) ?_
  exact Goes.ret (v := some (.int (1 : Int32))) X0 (by decide) (by decide) (fun h => by rw [Bd.returns] at h; cases h) ⟨by rw [show allD [] = (1 : Int32) from rfl], N0, e0⟩ (fun fs hr => retN X0 hx (t := .boolean) Bd.returns (by simp) (hb hby d18_36) hr)
def Q_rm_ad23 (Z : State) (a1 : Addr) (cs : Int32) (c0 : Int32) (c1 : Int32) (c2 : Int32) (c3 : Int32) (vf : Value) (h0 : Heap) (n0 : Nat) (v : Option Value) (h : Heap) (L : List Loc) : Prop := v = some (.int (allD [c2])) ∧ Fr n0 L ∧ h = h0
set_option maxRecDepth 65536 in
set_option maxHeartbeats 40000000 in
theorem rm_ad23 (l : Launch) (Z : State) (a0 : Array Value) (hw : ∀ d ∈ tables_1, d.before a0 Z = true) (ws : List Jvm.Cond) (a1 : Addr) (cs : Int32) (c0 : Int32) (c1 : Int32) (c2 : Int32) (c3 : Int32) (vf : Value) (h0 : Heap) (n0 : Nat) (Z0 : n0 ≤ h0.size) (O0 : Old Z n0 h0) (E_a1 : Exa Z h0 a1 "java/lang/String") (S_String_COMPACT_STRINGS_old : Sta Z Z.heap "java/lang/String" "COMPACT_STRINGS" "Z" (.int cs)) (S_Preconditions_SIOOBE_FORMATTER_old : Sta Z Z.heap "jdk/internal/util/Preconditions" "SIOOBE_FORMATTER" "Ljava/util/function/BiFunction;" vf) (S_StringUTF16__assertionsDisabled_old : Sta Z Z.heap "java/lang/StringUTF16" "$assertionsDisabled" "Z" (.int (1 : Int32))) (S_StringUTF16_HI_BYTE_SHIFT_old : Sta Z Z.heap "java/lang/StringUTF16" "HI_BYTE_SHIFT" "I" (.int (0 : Int32))) (S_StringUTF16_LO_BYTE_SHIFT_old : Sta Z Z.heap "java/lang/StringUTF16" "LO_BYTE_SHIFT" "I" (.int (8 : Int32))) (hcs : ¬ (cs = (0 : Int32))) (hvf : vf.isRef = true) (hb0 : B16 c0) (hb1 : B16 c1) (hb2 : B16 c2) (hb3 : B16 c3) (S0 : Sch Z h0 a1 c0 c1 c2 c3) :
    MetFree l Y18 (head1 (Jvm.Cond.code Y18 prog_32_method_41_code 4 (some .boolean) :: ws) ({ frames := 6, cells := 0, slots := 0, locals := 110 } : Room)) (fun a U => a = #[(.ref a1), (.int (2 : Int32)), (.int (3 : Int32))] ∧ Z.Warmed39 U.vm ∧ U.heap = h0) (fun _ _ _ _ _ => True) (fun _ U o U' => ∃ v L, o = .returned v ∧ Q_rm_ad23 Z a1 cs c0 c1 c2 c3 vf h0 n0 v U'.heap L ∧ FrameEnd U o U' L ({ frames := 6, cells := 0, slots := 0, locals := 110 } : Room).cells ({ frames := 6, cells := 0, slots := 0, locals := 110 } : Room).slots) := by
  refine MetFree.of_bodySF (plainFor_of_name pn_com_example_api_policy_gateway_apipolicygateway_proxy_HeaderFields) hisR ?_
  intro p e s m args below meth c s₁ Bd hml0 hP hK
  obtain ⟨rfl, hZ, hh⟩ := hP
  have hx := Bd.exec
  have hby := Bd.bytes
  have hml : c.maxLocals = 4 := hml0
  have hown : s.vm.findClass "com/example/api_policy_gateway/apipolicygateway/proxy/HeaderFields" = some m.cls := findClass_of_methodNamed Bd.named
  have hnm := (name_of_methodNamed Bd.named Bd.method).1
  have X0 : Stand p l e ({ frames := 6, cells := 0, slots := 0, locals := 110 } : Room) s m #[(.ref a1), (.int (2 : Int32)), (.int (3 : Int32))] below meth c s₁ [] 0 0 := Stand.of_body Bd
  have e0 : s₁.heap = h0 := by rw [← hh, Bd.state]; rfl
  have N0 := Fr.nil n0
  refine Goes.out (l := l) (c := c) (R := ({ frames := 6, cells := 0, slots := 0, locals := 110 } : Room)) (Q := Q_rm_ad23 Z a1 cs c0 c1 c2 c3 vf h0 n0) Bd.notSynchronized ?_
  refine Goes.cast (g2 := mkF m 0 #[rv a1, iv 2, iv 3, .unset] []) (by first | (simp [entryFrame, mkF, argsToLocals, Value.category]; done) | rfl) ?_
  have K0 : Keep h0 h0 [] := Keep.refl h0 _
  have hws : ∀ x ∈ ([] : List Addr), n0 ≤ x := all0
  refine Goes.step (T2 := s₁) (g2 := (mkF m 1 #[rv a1, iv 2, iv 3, .unset] [(.int (2 : Int32))])) (fun _ hr => XS.iloadN X0.here hx rfl (hb hby d18_0) rfl  hr) ?_
  refine Goes.step (T2 := s₁) (g2 := (mkF m 2 #[rv a1, iv 2, iv 3, iv 2] [])) (fun _ hr => XS.istoreN X0.here hx rfl (hb hby d18_1) rfl (l' := #[rv a1, iv 2, iv 3, iv 2]) rfl hr) ?_
  refine Goes.step (T2 := s₁) (g2 := (mkF m 3 #[rv a1, iv 2, iv 3, iv 2] [(.int (2 : Int32))])) (fun _ hr => XS.iloadN X0.here hx rfl (hb hby d18_2) rfl  hr) ?_
  refine Goes.step (T2 := s₁) (g2 := (mkF m 4 #[rv a1, iv 2, iv 3, iv 2] [(.int (3 : Int32)), (.int (2 : Int32))])) (fun _ hr => XS.iloadN X0.here hx rfl (hb hby d18_3) rfl  hr) ?_
  refine Goes.step (T2 := s₁) (g2 := (mkF m 7 #[rv a1, iv 2, iv 3, iv 2] [])) (fun _ hr => XS.icmpNo X0.here hx rfl (hb hby d18_4) rfl (tlt (by decide : (2 : Int32) < (3 : Int32))).2.1 hr) ?_
  refine Goes.step (T2 := s₁) (g2 := (mkF m 8 #[rv a1, iv 2, iv 3, iv 2] [(.ref a1)])) (fun _ hr => XS.aloadN X0.here hx rfl (hb hby d18_7) rfl rfl hr) ?_
  refine Goes.step (T2 := s₁) (g2 := (mkF m 9 #[rv a1, iv 2, iv 3, iv 2] [(.int (2 : Int32)), (.ref a1)])) (fun _ hr => XS.iloadN X0.here hx rfl (hb hby d18_8) rfl  hr) ?_
  have Zs370 : n0 ≤ h0.size := Nat.le_trans Z0 K0.1
  obtain ⟨cq371, kq371, q371a, q371b, q371c⟩ := isOf hZ e0 E_a1
  obtain ⟨_, _, ⟨T371, L371, k371, n371⟩, -, X371, ⟨Lc371, hQ371, l371, y371, z371⟩, st371⟩ := X0.virtualBack hx (y := Y17) (z := Y17) hown (mvT hZ (tw hw 59 rfl)) (mvT hZ (tw hw 60 rfl)) (notFace_of_selects (args := #[]) (mvT hZ (tw hw 62 rfl))) (mvT hZ (tw hw 62 rfl)) (mvT hZ (tw hw 61 rfl)) (by decide) (backOf (W := 0) (rm_cat2 l Z a0 hw [] a1 cs c0 c1 c2 c3 vf h0 n0 Zs370 (Old.keep O0 K0 hws) E_a1 S0 S_String_COMPACT_STRINGS_old S_Preconditions_SIOOBE_FORMATTER_old S_StringUTF16__assertionsDisabled_old S_StringUTF16_HI_BYTE_SHIFT_old S_StringUTF16_LO_BYTE_SHIFT_old hcs hvf hb2) hZ (tw hw 63 rfl) (tw hw 5 rfl) (by decide) (by decide)) q371a q371c (g := (mkF m 9 #[rv a1, iv 2, iv 3, iv 2] [(.int (2 : Int32)), (.ref a1)])) rfl (by rw [hml]; rfl) (Steps.refl _) (argsL := [(.int (2 : Int32))]) (rest := []) (lenOf pd_13 rfl) rfl (by show 2 * 0 + _ ≤ _; exact Nat.le_of_eq rfl) (hb hby d18_9) (fun _ _ => ⟨rfl, e0, (by decide : 0 + 0 ≤ _), (by decide : 0 + 0 ≤ _)⟩)
  dsimp only [Pt.U, Pt.locs, Pt.cells, Pt.slots] at X371 l371 y371 z371 st371 hQ371
  subst l371 y371 z371
  obtain ⟨rfl, N371q, e371⟩ := hQ371
  have N371 := Fr.app N0 N371q
  refine Goes.step (T2 := T371) (g2 := (mkF m 12 #[rv a1, iv 2, iv 3, iv 2] [(.int c2)])) (fun _ hr => st371.trans hr) ?_
  refine Goes.step (T2 := T371) (g2 := (mkF m 14 #[rv a1, iv 2, iv 3, iv 2] [(.int (48 : Int32)), (.int c2)])) (fun _ hr => XS.bipush X371.here hx rfl (hb hby d18_12) hr) ?_
  by_cases hc14_372 : c2 < (48 : Int32)
  · refine Goes.step (T2 := T371) (g2 := (mkF m 27 #[rv a1, iv 2, iv 3, iv 2] [])) (fun _ hr => XS.icmpYes X371.here hx rfl (pc0 := 14) (pc' := 27) rfl (hb hby d18_14) rfl (tlt hc14_372).1 (by decide) (by decide) hr) ?_
    refine Goes.step (T2 := T371) (g2 := (mkF m 28 #[rv a1, iv 2, iv 3, iv 2] [(.int (0 : Int32))])) (fun _ hr => XS.iconst X371.here hx rfl (hb hby d18_27) hr) ?_
    exact Goes.ret (v := some (.int (0 : Int32))) X371 (by decide) (by decide) (fun h => by rw [Bd.returns] at h; cases h) ⟨by rw [show allD [c2] = (0 : Int32) from (allD_no (dg_lo hc14_372))], N371, e371⟩ (fun fs hr => retN X371 hx (t := .boolean) Bd.returns (by simp) (hb hby d18_28) hr)
  · refine Goes.step (T2 := T371) (g2 := (mkF m 17 #[rv a1, iv 2, iv 3, iv 2] [])) (fun _ hr => XS.icmpNo X371.here hx rfl (hb hby d18_14) rfl (flt hc14_372).1 hr) ?_
    refine Goes.step (T2 := T371) (g2 := (mkF m 18 #[rv a1, iv 2, iv 3, iv 2] [(.ref a1)])) (fun _ hr => XS.aloadN X371.here hx rfl (hb hby d18_17) rfl rfl hr) ?_
    refine Goes.step (T2 := T371) (g2 := (mkF m 19 #[rv a1, iv 2, iv 3, iv 2] [(.int (2 : Int32)), (.ref a1)])) (fun _ hr => XS.iloadN X371.here hx rfl (hb hby d18_18) rfl  hr) ?_
    have Zs373 : n0 ≤ h0.size := Nat.le_trans Z0 K0.1
    obtain ⟨cq374, kq374, q374a, q374b, q374c⟩ := isOf hZ e371 E_a1
    obtain ⟨_, _, ⟨T374, L374, k374, n374⟩, -, X374, ⟨Lc374, hQ374, l374, y374, z374⟩, st374⟩ := X371.virtualBack hx (y := Y17) (z := Y17) hown (mvT hZ (tw hw 59 rfl)) (mvT hZ (tw hw 60 rfl)) (notFace_of_selects (args := #[]) (mvT hZ (tw hw 62 rfl))) (mvT hZ (tw hw 62 rfl)) (mvT hZ (tw hw 61 rfl)) (by decide) (backOf (W := 0) (rm_cat2 l Z a0 hw [] a1 cs c0 c1 c2 c3 vf h0 n0 Zs373 (Old.keep O0 K0 hws) E_a1 S0 S_String_COMPACT_STRINGS_old S_Preconditions_SIOOBE_FORMATTER_old S_StringUTF16__assertionsDisabled_old S_StringUTF16_HI_BYTE_SHIFT_old S_StringUTF16_LO_BYTE_SHIFT_old hcs hvf hb2) hZ (tw hw 63 rfl) (tw hw 5 rfl) (by decide) (by decide)) q374a q374c (g := (mkF m 19 #[rv a1, iv 2, iv 3, iv 2] [(.int (2 : Int32)), (.ref a1)])) rfl (by rw [hml]; rfl) (Steps.refl _) (argsL := [(.int (2 : Int32))]) (rest := []) (lenOf pd_13 rfl) rfl (by show 2 * 0 + _ ≤ _; exact Nat.le_of_eq rfl) (hb hby d18_19) (fun _ _ => ⟨rfl, e371, (by decide : 0 + 0 ≤ _), (by decide : 0 + 0 ≤ _)⟩)
    dsimp only [Pt.U, Pt.locs, Pt.cells, Pt.slots] at X374 l374 y374 z374 st374 hQ374
    subst l374 y374 z374
    obtain ⟨rfl, N374q, e374⟩ := hQ374
    have N374 := Fr.app N371 N374q
    refine Goes.step (T2 := T374) (g2 := (mkF m 22 #[rv a1, iv 2, iv 3, iv 2] [(.int c2)])) (fun _ hr => st374.trans hr) ?_
    refine Goes.step (T2 := T374) (g2 := (mkF m 24 #[rv a1, iv 2, iv 3, iv 2] [(.int (57 : Int32)), (.int c2)])) (fun _ hr => XS.bipush X374.here hx rfl (hb hby d18_22) hr) ?_
    by_cases hc24_375 : (57 : Int32) < c2
    · refine Goes.step (T2 := T374) (g2 := (mkF m 27 #[rv a1, iv 2, iv 3, iv 2] [])) (fun _ hr => XS.icmpNo X374.here hx rfl (hb hby d18_24) rfl (tlt hc24_375).2.2.2 hr) ?_
      refine Goes.step (T2 := T374) (g2 := (mkF m 28 #[rv a1, iv 2, iv 3, iv 2] [(.int (0 : Int32))])) (fun _ hr => XS.iconst X374.here hx rfl (hb hby d18_27) hr) ?_
      exact Goes.ret (v := some (.int (0 : Int32))) X374 (by decide) (by decide) (fun h => by rw [Bd.returns] at h; cases h) ⟨by rw [show allD [c2] = (0 : Int32) from (allD_no (dg_hi hc24_375))], N374, e374⟩ (fun fs hr => retN X374 hx (t := .boolean) Bd.returns (by simp) (hb hby d18_28) hr)
    · refine Goes.step (T2 := T374) (g2 := (mkF m 29 #[rv a1, iv 2, iv 3, iv 2] [])) (fun _ hr => XS.icmpYes X374.here hx rfl (pc0 := 24) (pc' := 29) rfl (hb hby d18_24) rfl (flt hc24_375).2.2.2 (by decide) (by decide) hr) ?_
      refine Goes.step (T2 := T374) (g2 := (mkF m 32 #[rv a1, iv 2, iv 3, iv 3] [])) (fun _ hr => XS.iinc X374.here hx rfl (hb hby d18_29) rfl (l' := #[rv a1, iv 2, iv 3, iv 3]) rfl hr) ?_
      refine Goes.step (T2 := T374) (g2 := (mkF m 2 #[rv a1, iv 2, iv 3, iv 3] [])) (fun _ hr => XS.goto X374.here hx rfl (pc0 := 32) (pc' := 2) rfl (hb hby d18_32) (by decide) (by decide) hr) ?_
      refine Goes.step (T2 := T374) (g2 := (mkF m 3 #[rv a1, iv 2, iv 3, iv 3] [(.int (3 : Int32))])) (fun _ hr => XS.iloadN X374.here hx rfl (hb hby d18_2) rfl  hr) ?_
      refine Goes.step (T2 := T374) (g2 := (mkF m 4 #[rv a1, iv 2, iv 3, iv 3] [(.int (3 : Int32)), (.int (3 : Int32))])) (fun _ hr => XS.iloadN X374.here hx rfl (hb hby d18_3) rfl  hr) ?_
      refine Goes.step (T2 := T374) (g2 := (mkF m 35 #[rv a1, iv 2, iv 3, iv 3] [])) (fun _ hr => XS.icmpYes X374.here hx rfl (pc0 := 4) (pc' := 35) rfl (hb hby d18_4) rfl (flt (by decide : ¬ ((3 : Int32) < (3 : Int32)))).2.1 (by decide) (by decide) hr) ?_
      refine Goes.step (T2 := T374) (g2 := (mkF m 36 #[rv a1, iv 2, iv 3, iv 3] [(.int (1 : Int32))])) (fun _ hr => XS.iconst X374.here hx rfl (hb hby d18_35) hr) ?_
      exact Goes.ret (v := some (.int (1 : Int32))) X374 (by decide) (by decide) (fun h => by rw [Bd.returns] at h; cases h) ⟨by rw [show allD [c2] = (1 : Int32) from (allD_go (dg_yes hc14_372 hc24_375) rfl)], N374, e374⟩ (fun fs hr => retN X374 hx (t := .boolean) Bd.returns (by simp) (hb hby d18_36) hr)
def Q_rm_ad24 (Z : State) (a1 : Addr) (cs : Int32) (c0 : Int32) (c1 : Int32) (c2 : Int32) (c3 : Int32) (vf : Value) (h0 : Heap) (n0 : Nat) (v : Option Value) (h : Heap) (L : List Loc) : Prop := v = some (.int (allD [c2, c3])) ∧ Fr n0 L ∧ h = h0
set_option maxRecDepth 65536 in
set_option maxHeartbeats 40000000 in
theorem rm_ad24 (l : Launch) (Z : State) (a0 : Array Value) (hw : ∀ d ∈ tables_1, d.before a0 Z = true) (ws : List Jvm.Cond) (a1 : Addr) (cs : Int32) (c0 : Int32) (c1 : Int32) (c2 : Int32) (c3 : Int32) (vf : Value) (h0 : Heap) (n0 : Nat) (Z0 : n0 ≤ h0.size) (O0 : Old Z n0 h0) (E_a1 : Exa Z h0 a1 "java/lang/String") (S_String_COMPACT_STRINGS_old : Sta Z Z.heap "java/lang/String" "COMPACT_STRINGS" "Z" (.int cs)) (S_Preconditions_SIOOBE_FORMATTER_old : Sta Z Z.heap "jdk/internal/util/Preconditions" "SIOOBE_FORMATTER" "Ljava/util/function/BiFunction;" vf) (S_StringUTF16__assertionsDisabled_old : Sta Z Z.heap "java/lang/StringUTF16" "$assertionsDisabled" "Z" (.int (1 : Int32))) (S_StringUTF16_HI_BYTE_SHIFT_old : Sta Z Z.heap "java/lang/StringUTF16" "HI_BYTE_SHIFT" "I" (.int (0 : Int32))) (S_StringUTF16_LO_BYTE_SHIFT_old : Sta Z Z.heap "java/lang/StringUTF16" "LO_BYTE_SHIFT" "I" (.int (8 : Int32))) (hcs : ¬ (cs = (0 : Int32))) (hvf : vf.isRef = true) (hb0 : B16 c0) (hb1 : B16 c1) (hb2 : B16 c2) (hb3 : B16 c3) (S0 : Sch Z h0 a1 c0 c1 c2 c3) :
    MetFree l Y18 (head1 (Jvm.Cond.code Y18 prog_32_method_41_code 4 (some .boolean) :: ws) ({ frames := 6, cells := 0, slots := 0, locals := 110 } : Room)) (fun a U => a = #[(.ref a1), (.int (2 : Int32)), (.int (4 : Int32))] ∧ Z.Warmed39 U.vm ∧ U.heap = h0) (fun _ _ _ _ _ => True) (fun _ U o U' => ∃ v L, o = .returned v ∧ Q_rm_ad24 Z a1 cs c0 c1 c2 c3 vf h0 n0 v U'.heap L ∧ FrameEnd U o U' L ({ frames := 6, cells := 0, slots := 0, locals := 110 } : Room).cells ({ frames := 6, cells := 0, slots := 0, locals := 110 } : Room).slots) := by
  refine MetFree.of_bodySF (plainFor_of_name pn_com_example_api_policy_gateway_apipolicygateway_proxy_HeaderFields) hisR ?_
  intro p e s m args below meth c s₁ Bd hml0 hP hK
  obtain ⟨rfl, hZ, hh⟩ := hP
  have hx := Bd.exec
  have hby := Bd.bytes
  have hml : c.maxLocals = 4 := hml0
  have hown : s.vm.findClass "com/example/api_policy_gateway/apipolicygateway/proxy/HeaderFields" = some m.cls := findClass_of_methodNamed Bd.named
  have hnm := (name_of_methodNamed Bd.named Bd.method).1
  have X0 : Stand p l e ({ frames := 6, cells := 0, slots := 0, locals := 110 } : Room) s m #[(.ref a1), (.int (2 : Int32)), (.int (4 : Int32))] below meth c s₁ [] 0 0 := Stand.of_body Bd
  have e0 : s₁.heap = h0 := by rw [← hh, Bd.state]; rfl
  have N0 := Fr.nil n0
  refine Goes.out (l := l) (c := c) (R := ({ frames := 6, cells := 0, slots := 0, locals := 110 } : Room)) (Q := Q_rm_ad24 Z a1 cs c0 c1 c2 c3 vf h0 n0) Bd.notSynchronized ?_
  refine Goes.cast (g2 := mkF m 0 #[rv a1, iv 2, iv 4, .unset] []) (by first | (simp [entryFrame, mkF, argsToLocals, Value.category]; done) | rfl) ?_
  have K0 : Keep h0 h0 [] := Keep.refl h0 _
  have hws : ∀ x ∈ ([] : List Addr), n0 ≤ x := all0
  refine Goes.step (T2 := s₁) (g2 := (mkF m 1 #[rv a1, iv 2, iv 4, .unset] [(.int (2 : Int32))])) (fun _ hr => XS.iloadN X0.here hx rfl (hb hby d18_0) rfl  hr) ?_
  refine Goes.step (T2 := s₁) (g2 := (mkF m 2 #[rv a1, iv 2, iv 4, iv 2] [])) (fun _ hr => XS.istoreN X0.here hx rfl (hb hby d18_1) rfl (l' := #[rv a1, iv 2, iv 4, iv 2]) rfl hr) ?_
  refine Goes.step (T2 := s₁) (g2 := (mkF m 3 #[rv a1, iv 2, iv 4, iv 2] [(.int (2 : Int32))])) (fun _ hr => XS.iloadN X0.here hx rfl (hb hby d18_2) rfl  hr) ?_
  refine Goes.step (T2 := s₁) (g2 := (mkF m 4 #[rv a1, iv 2, iv 4, iv 2] [(.int (4 : Int32)), (.int (2 : Int32))])) (fun _ hr => XS.iloadN X0.here hx rfl (hb hby d18_3) rfl  hr) ?_
  refine Goes.step (T2 := s₁) (g2 := (mkF m 7 #[rv a1, iv 2, iv 4, iv 2] [])) (fun _ hr => XS.icmpNo X0.here hx rfl (hb hby d18_4) rfl (tlt (by decide : (2 : Int32) < (4 : Int32))).2.1 hr) ?_
  refine Goes.step (T2 := s₁) (g2 := (mkF m 8 #[rv a1, iv 2, iv 4, iv 2] [(.ref a1)])) (fun _ hr => XS.aloadN X0.here hx rfl (hb hby d18_7) rfl rfl hr) ?_
  refine Goes.step (T2 := s₁) (g2 := (mkF m 9 #[rv a1, iv 2, iv 4, iv 2] [(.int (2 : Int32)), (.ref a1)])) (fun _ hr => XS.iloadN X0.here hx rfl (hb hby d18_8) rfl  hr) ?_
  have Zs376 : n0 ≤ h0.size := Nat.le_trans Z0 K0.1
  obtain ⟨cq377, kq377, q377a, q377b, q377c⟩ := isOf hZ e0 E_a1
  obtain ⟨_, _, ⟨T377, L377, k377, n377⟩, -, X377, ⟨Lc377, hQ377, l377, y377, z377⟩, st377⟩ := X0.virtualBack hx (y := Y17) (z := Y17) hown (mvT hZ (tw hw 59 rfl)) (mvT hZ (tw hw 60 rfl)) (notFace_of_selects (args := #[]) (mvT hZ (tw hw 62 rfl))) (mvT hZ (tw hw 62 rfl)) (mvT hZ (tw hw 61 rfl)) (by decide) (backOf (W := 0) (rm_cat2 l Z a0 hw [] a1 cs c0 c1 c2 c3 vf h0 n0 Zs376 (Old.keep O0 K0 hws) E_a1 S0 S_String_COMPACT_STRINGS_old S_Preconditions_SIOOBE_FORMATTER_old S_StringUTF16__assertionsDisabled_old S_StringUTF16_HI_BYTE_SHIFT_old S_StringUTF16_LO_BYTE_SHIFT_old hcs hvf hb2) hZ (tw hw 63 rfl) (tw hw 5 rfl) (by decide) (by decide)) q377a q377c (g := (mkF m 9 #[rv a1, iv 2, iv 4, iv 2] [(.int (2 : Int32)), (.ref a1)])) rfl (by rw [hml]; rfl) (Steps.refl _) (argsL := [(.int (2 : Int32))]) (rest := []) (lenOf pd_13 rfl) rfl (by show 2 * 0 + _ ≤ _; exact Nat.le_of_eq rfl) (hb hby d18_9) (fun _ _ => ⟨rfl, e0, (by decide : 0 + 0 ≤ _), (by decide : 0 + 0 ≤ _)⟩)
  dsimp only [Pt.U, Pt.locs, Pt.cells, Pt.slots] at X377 l377 y377 z377 st377 hQ377
  subst l377 y377 z377
  obtain ⟨rfl, N377q, e377⟩ := hQ377
  have N377 := Fr.app N0 N377q
  refine Goes.step (T2 := T377) (g2 := (mkF m 12 #[rv a1, iv 2, iv 4, iv 2] [(.int c2)])) (fun _ hr => st377.trans hr) ?_
  refine Goes.step (T2 := T377) (g2 := (mkF m 14 #[rv a1, iv 2, iv 4, iv 2] [(.int (48 : Int32)), (.int c2)])) (fun _ hr => XS.bipush X377.here hx rfl (hb hby d18_12) hr) ?_
  by_cases hc14_378 : c2 < (48 : Int32)
  · refine Goes.step (T2 := T377) (g2 := (mkF m 27 #[rv a1, iv 2, iv 4, iv 2] [])) (fun _ hr => XS.icmpYes X377.here hx rfl (pc0 := 14) (pc' := 27) rfl (hb hby d18_14) rfl (tlt hc14_378).1 (by decide) (by decide) hr) ?_
    refine Goes.step (T2 := T377) (g2 := (mkF m 28 #[rv a1, iv 2, iv 4, iv 2] [(.int (0 : Int32))])) (fun _ hr => XS.iconst X377.here hx rfl (hb hby d18_27) hr) ?_
    exact Goes.ret (v := some (.int (0 : Int32))) X377 (by decide) (by decide) (fun h => by rw [Bd.returns] at h; cases h) ⟨by rw [show allD [c2, c3] = (0 : Int32) from (allD_no (dg_lo hc14_378))], N377, e377⟩ (fun fs hr => retN X377 hx (t := .boolean) Bd.returns (by simp) (hb hby d18_28) hr)
  · refine Goes.step (T2 := T377) (g2 := (mkF m 17 #[rv a1, iv 2, iv 4, iv 2] [])) (fun _ hr => XS.icmpNo X377.here hx rfl (hb hby d18_14) rfl (flt hc14_378).1 hr) ?_
    refine Goes.step (T2 := T377) (g2 := (mkF m 18 #[rv a1, iv 2, iv 4, iv 2] [(.ref a1)])) (fun _ hr => XS.aloadN X377.here hx rfl (hb hby d18_17) rfl rfl hr) ?_
    refine Goes.step (T2 := T377) (g2 := (mkF m 19 #[rv a1, iv 2, iv 4, iv 2] [(.int (2 : Int32)), (.ref a1)])) (fun _ hr => XS.iloadN X377.here hx rfl (hb hby d18_18) rfl  hr) ?_
    have Zs379 : n0 ≤ h0.size := Nat.le_trans Z0 K0.1
    obtain ⟨cq380, kq380, q380a, q380b, q380c⟩ := isOf hZ e377 E_a1
    obtain ⟨_, _, ⟨T380, L380, k380, n380⟩, -, X380, ⟨Lc380, hQ380, l380, y380, z380⟩, st380⟩ := X377.virtualBack hx (y := Y17) (z := Y17) hown (mvT hZ (tw hw 59 rfl)) (mvT hZ (tw hw 60 rfl)) (notFace_of_selects (args := #[]) (mvT hZ (tw hw 62 rfl))) (mvT hZ (tw hw 62 rfl)) (mvT hZ (tw hw 61 rfl)) (by decide) (backOf (W := 0) (rm_cat2 l Z a0 hw [] a1 cs c0 c1 c2 c3 vf h0 n0 Zs379 (Old.keep O0 K0 hws) E_a1 S0 S_String_COMPACT_STRINGS_old S_Preconditions_SIOOBE_FORMATTER_old S_StringUTF16__assertionsDisabled_old S_StringUTF16_HI_BYTE_SHIFT_old S_StringUTF16_LO_BYTE_SHIFT_old hcs hvf hb2) hZ (tw hw 63 rfl) (tw hw 5 rfl) (by decide) (by decide)) q380a q380c (g := (mkF m 19 #[rv a1, iv 2, iv 4, iv 2] [(.int (2 : Int32)), (.ref a1)])) rfl (by rw [hml]; rfl) (Steps.refl _) (argsL := [(.int (2 : Int32))]) (rest := []) (lenOf pd_13 rfl) rfl (by show 2 * 0 + _ ≤ _; exact Nat.le_of_eq rfl) (hb hby d18_19) (fun _ _ => ⟨rfl, e377, (by decide : 0 + 0 ≤ _), (by decide : 0 + 0 ≤ _)⟩)
    dsimp only [Pt.U, Pt.locs, Pt.cells, Pt.slots] at X380 l380 y380 z380 st380 hQ380
    subst l380 y380 z380
    obtain ⟨rfl, N380q, e380⟩ := hQ380
    have N380 := Fr.app N377 N380q
    refine Goes.step (T2 := T380) (g2 := (mkF m 22 #[rv a1, iv 2, iv 4, iv 2] [(.int c2)])) (fun _ hr => st380.trans hr) ?_
    refine Goes.step (T2 := T380) (g2 := (mkF m 24 #[rv a1, iv 2, iv 4, iv 2] [(.int (57 : Int32)), (.int c2)])) (fun _ hr => XS.bipush X380.here hx rfl (hb hby d18_22) hr) ?_
    by_cases hc24_381 : (57 : Int32) < c2
    · refine Goes.step (T2 := T380) (g2 := (mkF m 27 #[rv a1, iv 2, iv 4, iv 2] [])) (fun _ hr => XS.icmpNo X380.here hx rfl (hb hby d18_24) rfl (tlt hc24_381).2.2.2 hr) ?_
      refine Goes.step (T2 := T380) (g2 := (mkF m 28 #[rv a1, iv 2, iv 4, iv 2] [(.int (0 : Int32))])) (fun _ hr => XS.iconst X380.here hx rfl (hb hby d18_27) hr) ?_
      exact Goes.ret (v := some (.int (0 : Int32))) X380 (by decide) (by decide) (fun h => by rw [Bd.returns] at h; cases h) ⟨by rw [show allD [c2, c3] = (0 : Int32) from (allD_no (dg_hi hc24_381))], N380, e380⟩ (fun fs hr => retN X380 hx (t := .boolean) Bd.returns (by simp) (hb hby d18_28) hr)
    · refine Goes.step (T2 := T380) (g2 := (mkF m 29 #[rv a1, iv 2, iv 4, iv 2] [])) (fun _ hr => XS.icmpYes X380.here hx rfl (pc0 := 24) (pc' := 29) rfl (hb hby d18_24) rfl (flt hc24_381).2.2.2 (by decide) (by decide) hr) ?_
      refine Goes.step (T2 := T380) (g2 := (mkF m 32 #[rv a1, iv 2, iv 4, iv 3] [])) (fun _ hr => XS.iinc X380.here hx rfl (hb hby d18_29) rfl (l' := #[rv a1, iv 2, iv 4, iv 3]) rfl hr) ?_
      refine Goes.step (T2 := T380) (g2 := (mkF m 2 #[rv a1, iv 2, iv 4, iv 3] [])) (fun _ hr => XS.goto X380.here hx rfl (pc0 := 32) (pc' := 2) rfl (hb hby d18_32) (by decide) (by decide) hr) ?_
      refine Goes.step (T2 := T380) (g2 := (mkF m 3 #[rv a1, iv 2, iv 4, iv 3] [(.int (3 : Int32))])) (fun _ hr => XS.iloadN X380.here hx rfl (hb hby d18_2) rfl  hr) ?_
      refine Goes.step (T2 := T380) (g2 := (mkF m 4 #[rv a1, iv 2, iv 4, iv 3] [(.int (4 : Int32)), (.int (3 : Int32))])) (fun _ hr => XS.iloadN X380.here hx rfl (hb hby d18_3) rfl  hr) ?_
      refine Goes.step (T2 := T380) (g2 := (mkF m 7 #[rv a1, iv 2, iv 4, iv 3] [])) (fun _ hr => XS.icmpNo X380.here hx rfl (hb hby d18_4) rfl (tlt (by decide : (3 : Int32) < (4 : Int32))).2.1 hr) ?_
      refine Goes.step (T2 := T380) (g2 := (mkF m 8 #[rv a1, iv 2, iv 4, iv 3] [(.ref a1)])) (fun _ hr => XS.aloadN X380.here hx rfl (hb hby d18_7) rfl rfl hr) ?_
      refine Goes.step (T2 := T380) (g2 := (mkF m 9 #[rv a1, iv 2, iv 4, iv 3] [(.int (3 : Int32)), (.ref a1)])) (fun _ hr => XS.iloadN X380.here hx rfl (hb hby d18_8) rfl  hr) ?_
      have Zs382 : n0 ≤ h0.size := Nat.le_trans Z0 K0.1
      obtain ⟨cq383, kq383, q383a, q383b, q383c⟩ := isOf hZ e380 E_a1
      obtain ⟨_, _, ⟨T383, L383, k383, n383⟩, -, X383, ⟨Lc383, hQ383, l383, y383, z383⟩, st383⟩ := X380.virtualBack hx (y := Y17) (z := Y17) hown (mvT hZ (tw hw 59 rfl)) (mvT hZ (tw hw 60 rfl)) (notFace_of_selects (args := #[]) (mvT hZ (tw hw 62 rfl))) (mvT hZ (tw hw 62 rfl)) (mvT hZ (tw hw 61 rfl)) (by decide) (backOf (W := 0) (rm_cat3 l Z a0 hw [] a1 cs c0 c1 c2 c3 vf h0 n0 Zs382 (Old.keep O0 K0 hws) E_a1 S0 S_String_COMPACT_STRINGS_old S_Preconditions_SIOOBE_FORMATTER_old S_StringUTF16__assertionsDisabled_old S_StringUTF16_HI_BYTE_SHIFT_old S_StringUTF16_LO_BYTE_SHIFT_old hcs hvf hb3) hZ (tw hw 63 rfl) (tw hw 5 rfl) (by decide) (by decide)) q383a q383c (g := (mkF m 9 #[rv a1, iv 2, iv 4, iv 3] [(.int (3 : Int32)), (.ref a1)])) rfl (by rw [hml]; rfl) (Steps.refl _) (argsL := [(.int (3 : Int32))]) (rest := []) (lenOf pd_13 rfl) rfl (by show 2 * 0 + _ ≤ _; exact Nat.le_of_eq rfl) (hb hby d18_9) (fun _ _ => ⟨rfl, e380, (by decide : 0 + 0 ≤ _), (by decide : 0 + 0 ≤ _)⟩)
      dsimp only [Pt.U, Pt.locs, Pt.cells, Pt.slots] at X383 l383 y383 z383 st383 hQ383
      subst l383 y383 z383
      obtain ⟨rfl, N383q, e383⟩ := hQ383
      have N383 := Fr.app N380 N383q
      refine Goes.step (T2 := T383) (g2 := (mkF m 12 #[rv a1, iv 2, iv 4, iv 3] [(.int c3)])) (fun _ hr => st383.trans hr) ?_
      refine Goes.step (T2 := T383) (g2 := (mkF m 14 #[rv a1, iv 2, iv 4, iv 3] [(.int (48 : Int32)), (.int c3)])) (fun _ hr => XS.bipush X383.here hx rfl (hb hby d18_12) hr) ?_
      by_cases hc14_384 : c3 < (48 : Int32)
      · refine Goes.step (T2 := T383) (g2 := (mkF m 27 #[rv a1, iv 2, iv 4, iv 3] [])) (fun _ hr => XS.icmpYes X383.here hx rfl (pc0 := 14) (pc' := 27) rfl (hb hby d18_14) rfl (tlt hc14_384).1 (by decide) (by decide) hr) ?_
        refine Goes.step (T2 := T383) (g2 := (mkF m 28 #[rv a1, iv 2, iv 4, iv 3] [(.int (0 : Int32))])) (fun _ hr => XS.iconst X383.here hx rfl (hb hby d18_27) hr) ?_
        exact Goes.ret (v := some (.int (0 : Int32))) X383 (by decide) (by decide) (fun h => by rw [Bd.returns] at h; cases h) ⟨by rw [show allD [c2, c3] = (0 : Int32) from (allD_go (dg_yes hc14_378 hc24_381) (allD_no (dg_lo hc14_384)))], N383, e383⟩ (fun fs hr => retN X383 hx (t := .boolean) Bd.returns (by simp) (hb hby d18_28) hr)
      · refine Goes.step (T2 := T383) (g2 := (mkF m 17 #[rv a1, iv 2, iv 4, iv 3] [])) (fun _ hr => XS.icmpNo X383.here hx rfl (hb hby d18_14) rfl (flt hc14_384).1 hr) ?_
        refine Goes.step (T2 := T383) (g2 := (mkF m 18 #[rv a1, iv 2, iv 4, iv 3] [(.ref a1)])) (fun _ hr => XS.aloadN X383.here hx rfl (hb hby d18_17) rfl rfl hr) ?_
        refine Goes.step (T2 := T383) (g2 := (mkF m 19 #[rv a1, iv 2, iv 4, iv 3] [(.int (3 : Int32)), (.ref a1)])) (fun _ hr => XS.iloadN X383.here hx rfl (hb hby d18_18) rfl  hr) ?_
        have Zs385 : n0 ≤ h0.size := Nat.le_trans Z0 K0.1
        obtain ⟨cq386, kq386, q386a, q386b, q386c⟩ := isOf hZ e383 E_a1
        obtain ⟨_, _, ⟨T386, L386, k386, n386⟩, -, X386, ⟨Lc386, hQ386, l386, y386, z386⟩, st386⟩ := X383.virtualBack hx (y := Y17) (z := Y17) hown (mvT hZ (tw hw 59 rfl)) (mvT hZ (tw hw 60 rfl)) (notFace_of_selects (args := #[]) (mvT hZ (tw hw 62 rfl))) (mvT hZ (tw hw 62 rfl)) (mvT hZ (tw hw 61 rfl)) (by decide) (backOf (W := 0) (rm_cat3 l Z a0 hw [] a1 cs c0 c1 c2 c3 vf h0 n0 Zs385 (Old.keep O0 K0 hws) E_a1 S0 S_String_COMPACT_STRINGS_old S_Preconditions_SIOOBE_FORMATTER_old S_StringUTF16__assertionsDisabled_old S_StringUTF16_HI_BYTE_SHIFT_old S_StringUTF16_LO_BYTE_SHIFT_old hcs hvf hb3) hZ (tw hw 63 rfl) (tw hw 5 rfl) (by decide) (by decide)) q386a q386c (g := (mkF m 19 #[rv a1, iv 2, iv 4, iv 3] [(.int (3 : Int32)), (.ref a1)])) rfl (by rw [hml]; rfl) (Steps.refl _) (argsL := [(.int (3 : Int32))]) (rest := []) (lenOf pd_13 rfl) rfl (by show 2 * 0 + _ ≤ _; exact Nat.le_of_eq rfl) (hb hby d18_19) (fun _ _ => ⟨rfl, e383, (by decide : 0 + 0 ≤ _), (by decide : 0 + 0 ≤ _)⟩)
        dsimp only [Pt.U, Pt.locs, Pt.cells, Pt.slots] at X386 l386 y386 z386 st386 hQ386
        subst l386 y386 z386
        obtain ⟨rfl, N386q, e386⟩ := hQ386
        have N386 := Fr.app N383 N386q
        refine Goes.step (T2 := T386) (g2 := (mkF m 22 #[rv a1, iv 2, iv 4, iv 3] [(.int c3)])) (fun _ hr => st386.trans hr) ?_
        refine Goes.step (T2 := T386) (g2 := (mkF m 24 #[rv a1, iv 2, iv 4, iv 3] [(.int (57 : Int32)), (.int c3)])) (fun _ hr => XS.bipush X386.here hx rfl (hb hby d18_22) hr) ?_
        by_cases hc24_387 : (57 : Int32) < c3
        · refine Goes.step (T2 := T386) (g2 := (mkF m 27 #[rv a1, iv 2, iv 4, iv 3] [])) (fun _ hr => XS.icmpNo X386.here hx rfl (hb hby d18_24) rfl (tlt hc24_387).2.2.2 hr) ?_
          refine Goes.step (T2 := T386) (g2 := (mkF m 28 #[rv a1, iv 2, iv 4, iv 3] [(.int (0 : Int32))])) (fun _ hr => XS.iconst X386.here hx rfl (hb hby d18_27) hr) ?_
          exact Goes.ret (v := some (.int (0 : Int32))) X386 (by decide) (by decide) (fun h => by rw [Bd.returns] at h; cases h) ⟨by rw [show allD [c2, c3] = (0 : Int32) from (allD_go (dg_yes hc14_378 hc24_381) (allD_no (dg_hi hc24_387)))], N386, e386⟩ (fun fs hr => retN X386 hx (t := .boolean) Bd.returns (by simp) (hb hby d18_28) hr)
        · refine Goes.step (T2 := T386) (g2 := (mkF m 29 #[rv a1, iv 2, iv 4, iv 3] [])) (fun _ hr => XS.icmpYes X386.here hx rfl (pc0 := 24) (pc' := 29) rfl (hb hby d18_24) rfl (flt hc24_387).2.2.2 (by decide) (by decide) hr) ?_
          refine Goes.step (T2 := T386) (g2 := (mkF m 32 #[rv a1, iv 2, iv 4, iv 4] [])) (fun _ hr => XS.iinc X386.here hx rfl (hb hby d18_29) rfl (l' := #[rv a1, iv 2, iv 4, iv 4]) rfl hr) ?_
          refine Goes.step (T2 := T386) (g2 := (mkF m 2 #[rv a1, iv 2, iv 4, iv 4] [])) (fun _ hr => XS.goto X386.here hx rfl (pc0 := 32) (pc' := 2) rfl (hb hby d18_32) (by decide) (by decide) hr) ?_
          refine Goes.step (T2 := T386) (g2 := (mkF m 3 #[rv a1, iv 2, iv 4, iv 4] [(.int (4 : Int32))])) (fun _ hr => XS.iloadN X386.here hx rfl (hb hby d18_2) rfl  hr) ?_
          refine Goes.step (T2 := T386) (g2 := (mkF m 4 #[rv a1, iv 2, iv 4, iv 4] [(.int (4 : Int32)), (.int (4 : Int32))])) (fun _ hr => XS.iloadN X386.here hx rfl (hb hby d18_3) rfl  hr) ?_
          refine Goes.step (T2 := T386) (g2 := (mkF m 35 #[rv a1, iv 2, iv 4, iv 4] [])) (fun _ hr => XS.icmpYes X386.here hx rfl (pc0 := 4) (pc' := 35) rfl (hb hby d18_4) rfl (flt (by decide : ¬ ((4 : Int32) < (4 : Int32)))).2.1 (by decide) (by decide) hr) ?_
          refine Goes.step (T2 := T386) (g2 := (mkF m 36 #[rv a1, iv 2, iv 4, iv 4] [(.int (1 : Int32))])) (fun _ hr => XS.iconst X386.here hx rfl (hb hby d18_35) hr) ?_
          exact Goes.ret (v := some (.int (1 : Int32))) X386 (by decide) (by decide) (fun h => by rw [Bd.returns] at h; cases h) ⟨by rw [show allD [c2, c3] = (1 : Int32) from (allD_go (dg_yes hc14_378 hc24_381) (allD_go (dg_yes hc14_384 hc24_387) rfl))], N386, e386⟩ (fun fs hr => retN X386 hx (t := .boolean) Bd.returns (by simp) (hb hby d18_36) hr)
def Q_rm_ad30 (Z : State) (a1 : Addr) (cs : Int32) (c0 : Int32) (c1 : Int32) (c2 : Int32) (c3 : Int32) (vf : Value) (h0 : Heap) (n0 : Nat) (v : Option Value) (h : Heap) (L : List Loc) : Prop := v = some (.int (allD [])) ∧ Fr n0 L ∧ h = h0
set_option maxRecDepth 65536 in
set_option maxHeartbeats 40000000 in
theorem rm_ad30 (l : Launch) (Z : State) (a0 : Array Value) (hw : ∀ d ∈ tables_1, d.before a0 Z = true) (ws : List Jvm.Cond) (a1 : Addr) (cs : Int32) (c0 : Int32) (c1 : Int32) (c2 : Int32) (c3 : Int32) (vf : Value) (h0 : Heap) (n0 : Nat) (Z0 : n0 ≤ h0.size) (O0 : Old Z n0 h0) (E_a1 : Exa Z h0 a1 "java/lang/String") (S_String_COMPACT_STRINGS_old : Sta Z Z.heap "java/lang/String" "COMPACT_STRINGS" "Z" (.int cs)) (S_Preconditions_SIOOBE_FORMATTER_old : Sta Z Z.heap "jdk/internal/util/Preconditions" "SIOOBE_FORMATTER" "Ljava/util/function/BiFunction;" vf) (S_StringUTF16__assertionsDisabled_old : Sta Z Z.heap "java/lang/StringUTF16" "$assertionsDisabled" "Z" (.int (1 : Int32))) (S_StringUTF16_HI_BYTE_SHIFT_old : Sta Z Z.heap "java/lang/StringUTF16" "HI_BYTE_SHIFT" "I" (.int (0 : Int32))) (S_StringUTF16_LO_BYTE_SHIFT_old : Sta Z Z.heap "java/lang/StringUTF16" "LO_BYTE_SHIFT" "I" (.int (8 : Int32))) (hcs : ¬ (cs = (0 : Int32))) (hvf : vf.isRef = true) (hb0 : B16 c0) (hb1 : B16 c1) (hb2 : B16 c2) (hb3 : B16 c3) (S0 : Sch Z h0 a1 c0 c1 c2 c3) :
    MetFree l Y18 (head1 (Jvm.Cond.code Y18 prog_32_method_41_code 4 (some .boolean) :: ws) ({ frames := 6, cells := 0, slots := 0, locals := 110 } : Room)) (fun a U => a = #[(.ref a1), (.int (3 : Int32)), (.int (0 : Int32))] ∧ Z.Warmed39 U.vm ∧ U.heap = h0) (fun _ _ _ _ _ => True) (fun _ U o U' => ∃ v L, o = .returned v ∧ Q_rm_ad30 Z a1 cs c0 c1 c2 c3 vf h0 n0 v U'.heap L ∧ FrameEnd U o U' L ({ frames := 6, cells := 0, slots := 0, locals := 110 } : Room).cells ({ frames := 6, cells := 0, slots := 0, locals := 110 } : Room).slots) := by
  refine MetFree.of_bodySF (plainFor_of_name pn_com_example_api_policy_gateway_apipolicygateway_proxy_HeaderFields) hisR ?_
  intro p e s m args below meth c s₁ Bd hml0 hP hK
  obtain ⟨rfl, hZ, hh⟩ := hP
  have hx := Bd.exec
  have hby := Bd.bytes
  have hml : c.maxLocals = 4 := hml0
  have hown : s.vm.findClass "com/example/api_policy_gateway/apipolicygateway/proxy/HeaderFields" = some m.cls := findClass_of_methodNamed Bd.named
  have hnm := (name_of_methodNamed Bd.named Bd.method).1
  have X0 : Stand p l e ({ frames := 6, cells := 0, slots := 0, locals := 110 } : Room) s m #[(.ref a1), (.int (3 : Int32)), (.int (0 : Int32))] below meth c s₁ [] 0 0 := Stand.of_body Bd
  have e0 : s₁.heap = h0 := by rw [← hh, Bd.state]; rfl
  have N0 := Fr.nil n0
  refine Goes.out (l := l) (c := c) (R := ({ frames := 6, cells := 0, slots := 0, locals := 110 } : Room)) (Q := Q_rm_ad30 Z a1 cs c0 c1 c2 c3 vf h0 n0) Bd.notSynchronized ?_
  refine Goes.cast (g2 := mkF m 0 #[rv a1, iv 3, iv 0, .unset] []) (by first | (simp [entryFrame, mkF, argsToLocals, Value.category]; done) | rfl) ?_
  have K0 : Keep h0 h0 [] := Keep.refl h0 _
  have hws : ∀ x ∈ ([] : List Addr), n0 ≤ x := all0
  refine Goes.step (T2 := s₁) (g2 := (mkF m 1 #[rv a1, iv 3, iv 0, .unset] [(.int (3 : Int32))])) (fun _ hr => XS.iloadN X0.here hx rfl (hb hby d18_0) rfl  hr) ?_
  refine Goes.step (T2 := s₁) (g2 := (mkF m 2 #[rv a1, iv 3, iv 0, iv 3] [])) (fun _ hr => XS.istoreN X0.here hx rfl (hb hby d18_1) rfl (l' := #[rv a1, iv 3, iv 0, iv 3]) rfl hr) ?_
  refine Goes.step (T2 := s₁) (g2 := (mkF m 3 #[rv a1, iv 3, iv 0, iv 3] [(.int (3 : Int32))])) (fun _ hr => XS.iloadN X0.here hx rfl (hb hby d18_2) rfl  hr) ?_
  refine Goes.step (T2 := s₁) (g2 := (mkF m 4 #[rv a1, iv 3, iv 0, iv 3] [(.int (0 : Int32)), (.int (3 : Int32))])) (fun _ hr => XS.iloadN X0.here hx rfl (hb hby d18_3) rfl  hr) ?_
  refine Goes.step (T2 := s₁) (g2 := (mkF m 35 #[rv a1, iv 3, iv 0, iv 3] [])) (fun _ hr => XS.icmpYes X0.here hx rfl (pc0 := 4) (pc' := 35) rfl (hb hby d18_4) rfl (flt (by decide : ¬ ((3 : Int32) < (0 : Int32)))).2.1 (by decide) (by decide) hr) ?_
  refine Goes.step (T2 := s₁) (g2 := (mkF m 36 #[rv a1, iv 3, iv 0, iv 3] [(.int (1 : Int32))])) (fun _ hr => XS.iconst X0.here hx rfl (hb hby d18_35) hr) ?_
  exact Goes.ret (v := some (.int (1 : Int32))) X0 (by decide) (by decide) (fun h => by rw [Bd.returns] at h; cases h) ⟨by rw [show allD [] = (1 : Int32) from rfl], N0, e0⟩ (fun fs hr => retN X0 hx (t := .boolean) Bd.returns (by simp) (hb hby d18_36) hr)
def Q_rm_ad31 (Z : State) (a1 : Addr) (cs : Int32) (c0 : Int32) (c1 : Int32) (c2 : Int32) (c3 : Int32) (vf : Value) (h0 : Heap) (n0 : Nat) (v : Option Value) (h : Heap) (L : List Loc) : Prop := v = some (.int (allD [])) ∧ Fr n0 L ∧ h = h0
set_option maxRecDepth 65536 in
set_option maxHeartbeats 40000000 in
theorem rm_ad31 (l : Launch) (Z : State) (a0 : Array Value) (hw : ∀ d ∈ tables_1, d.before a0 Z = true) (ws : List Jvm.Cond) (a1 : Addr) (cs : Int32) (c0 : Int32) (c1 : Int32) (c2 : Int32) (c3 : Int32) (vf : Value) (h0 : Heap) (n0 : Nat) (Z0 : n0 ≤ h0.size) (O0 : Old Z n0 h0) (E_a1 : Exa Z h0 a1 "java/lang/String") (S_String_COMPACT_STRINGS_old : Sta Z Z.heap "java/lang/String" "COMPACT_STRINGS" "Z" (.int cs)) (S_Preconditions_SIOOBE_FORMATTER_old : Sta Z Z.heap "jdk/internal/util/Preconditions" "SIOOBE_FORMATTER" "Ljava/util/function/BiFunction;" vf) (S_StringUTF16__assertionsDisabled_old : Sta Z Z.heap "java/lang/StringUTF16" "$assertionsDisabled" "Z" (.int (1 : Int32))) (S_StringUTF16_HI_BYTE_SHIFT_old : Sta Z Z.heap "java/lang/StringUTF16" "HI_BYTE_SHIFT" "I" (.int (0 : Int32))) (S_StringUTF16_LO_BYTE_SHIFT_old : Sta Z Z.heap "java/lang/StringUTF16" "LO_BYTE_SHIFT" "I" (.int (8 : Int32))) (hcs : ¬ (cs = (0 : Int32))) (hvf : vf.isRef = true) (hb0 : B16 c0) (hb1 : B16 c1) (hb2 : B16 c2) (hb3 : B16 c3) (S0 : Sch Z h0 a1 c0 c1 c2 c3) :
    MetFree l Y18 (head1 (Jvm.Cond.code Y18 prog_32_method_41_code 4 (some .boolean) :: ws) ({ frames := 6, cells := 0, slots := 0, locals := 110 } : Room)) (fun a U => a = #[(.ref a1), (.int (3 : Int32)), (.int (1 : Int32))] ∧ Z.Warmed39 U.vm ∧ U.heap = h0) (fun _ _ _ _ _ => True) (fun _ U o U' => ∃ v L, o = .returned v ∧ Q_rm_ad31 Z a1 cs c0 c1 c2 c3 vf h0 n0 v U'.heap L ∧ FrameEnd U o U' L ({ frames := 6, cells := 0, slots := 0, locals := 110 } : Room).cells ({ frames := 6, cells := 0, slots := 0, locals := 110 } : Room).slots) := by
  refine MetFree.of_bodySF (plainFor_of_name pn_com_example_api_policy_gateway_apipolicygateway_proxy_HeaderFields) hisR ?_
  intro p e s m args below meth c s₁ Bd hml0 hP hK
  obtain ⟨rfl, hZ, hh⟩ := hP
  have hx := Bd.exec
  have hby := Bd.bytes
  have hml : c.maxLocals = 4 := hml0
  have hown : s.vm.findClass "com/example/api_policy_gateway/apipolicygateway/proxy/HeaderFields" = some m.cls := findClass_of_methodNamed Bd.named
  have hnm := (name_of_methodNamed Bd.named Bd.method).1
  have X0 : Stand p l e ({ frames := 6, cells := 0, slots := 0, locals := 110 } : Room) s m #[(.ref a1), (.int (3 : Int32)), (.int (1 : Int32))] below meth c s₁ [] 0 0 := Stand.of_body Bd
  have e0 : s₁.heap = h0 := by rw [← hh, Bd.state]; rfl
  have N0 := Fr.nil n0
  refine Goes.out (l := l) (c := c) (R := ({ frames := 6, cells := 0, slots := 0, locals := 110 } : Room)) (Q := Q_rm_ad31 Z a1 cs c0 c1 c2 c3 vf h0 n0) Bd.notSynchronized ?_
  refine Goes.cast (g2 := mkF m 0 #[rv a1, iv 3, iv 1, .unset] []) (by first | (simp [entryFrame, mkF, argsToLocals, Value.category]; done) | rfl) ?_
  have K0 : Keep h0 h0 [] := Keep.refl h0 _
  have hws : ∀ x ∈ ([] : List Addr), n0 ≤ x := all0
  refine Goes.step (T2 := s₁) (g2 := (mkF m 1 #[rv a1, iv 3, iv 1, .unset] [(.int (3 : Int32))])) (fun _ hr => XS.iloadN X0.here hx rfl (hb hby d18_0) rfl  hr) ?_
  refine Goes.step (T2 := s₁) (g2 := (mkF m 2 #[rv a1, iv 3, iv 1, iv 3] [])) (fun _ hr => XS.istoreN X0.here hx rfl (hb hby d18_1) rfl (l' := #[rv a1, iv 3, iv 1, iv 3]) rfl hr) ?_
  refine Goes.step (T2 := s₁) (g2 := (mkF m 3 #[rv a1, iv 3, iv 1, iv 3] [(.int (3 : Int32))])) (fun _ hr => XS.iloadN X0.here hx rfl (hb hby d18_2) rfl  hr) ?_
  refine Goes.step (T2 := s₁) (g2 := (mkF m 4 #[rv a1, iv 3, iv 1, iv 3] [(.int (1 : Int32)), (.int (3 : Int32))])) (fun _ hr => XS.iloadN X0.here hx rfl (hb hby d18_3) rfl  hr) ?_
  refine Goes.step (T2 := s₁) (g2 := (mkF m 35 #[rv a1, iv 3, iv 1, iv 3] [])) (fun _ hr => XS.icmpYes X0.here hx rfl (pc0 := 4) (pc' := 35) rfl (hb hby d18_4) rfl (flt (by decide : ¬ ((3 : Int32) < (1 : Int32)))).2.1 (by decide) (by decide) hr) ?_
  refine Goes.step (T2 := s₁) (g2 := (mkF m 36 #[rv a1, iv 3, iv 1, iv 3] [(.int (1 : Int32))])) (fun _ hr => XS.iconst X0.here hx rfl (hb hby d18_35) hr) ?_
  exact Goes.ret (v := some (.int (1 : Int32))) X0 (by decide) (by decide) (fun h => by rw [Bd.returns] at h; cases h) ⟨by rw [show allD [] = (1 : Int32) from rfl], N0, e0⟩ (fun fs hr => retN X0 hx (t := .boolean) Bd.returns (by simp) (hb hby d18_36) hr)
def Q_rm_ad32 (Z : State) (a1 : Addr) (cs : Int32) (c0 : Int32) (c1 : Int32) (c2 : Int32) (c3 : Int32) (vf : Value) (h0 : Heap) (n0 : Nat) (v : Option Value) (h : Heap) (L : List Loc) : Prop := v = some (.int (allD [])) ∧ Fr n0 L ∧ h = h0
set_option maxRecDepth 65536 in
set_option maxHeartbeats 40000000 in
theorem rm_ad32 (l : Launch) (Z : State) (a0 : Array Value) (hw : ∀ d ∈ tables_1, d.before a0 Z = true) (ws : List Jvm.Cond) (a1 : Addr) (cs : Int32) (c0 : Int32) (c1 : Int32) (c2 : Int32) (c3 : Int32) (vf : Value) (h0 : Heap) (n0 : Nat) (Z0 : n0 ≤ h0.size) (O0 : Old Z n0 h0) (E_a1 : Exa Z h0 a1 "java/lang/String") (S_String_COMPACT_STRINGS_old : Sta Z Z.heap "java/lang/String" "COMPACT_STRINGS" "Z" (.int cs)) (S_Preconditions_SIOOBE_FORMATTER_old : Sta Z Z.heap "jdk/internal/util/Preconditions" "SIOOBE_FORMATTER" "Ljava/util/function/BiFunction;" vf) (S_StringUTF16__assertionsDisabled_old : Sta Z Z.heap "java/lang/StringUTF16" "$assertionsDisabled" "Z" (.int (1 : Int32))) (S_StringUTF16_HI_BYTE_SHIFT_old : Sta Z Z.heap "java/lang/StringUTF16" "HI_BYTE_SHIFT" "I" (.int (0 : Int32))) (S_StringUTF16_LO_BYTE_SHIFT_old : Sta Z Z.heap "java/lang/StringUTF16" "LO_BYTE_SHIFT" "I" (.int (8 : Int32))) (hcs : ¬ (cs = (0 : Int32))) (hvf : vf.isRef = true) (hb0 : B16 c0) (hb1 : B16 c1) (hb2 : B16 c2) (hb3 : B16 c3) (S0 : Sch Z h0 a1 c0 c1 c2 c3) :
    MetFree l Y18 (head1 (Jvm.Cond.code Y18 prog_32_method_41_code 4 (some .boolean) :: ws) ({ frames := 6, cells := 0, slots := 0, locals := 110 } : Room)) (fun a U => a = #[(.ref a1), (.int (3 : Int32)), (.int (2 : Int32))] ∧ Z.Warmed39 U.vm ∧ U.heap = h0) (fun _ _ _ _ _ => True) (fun _ U o U' => ∃ v L, o = .returned v ∧ Q_rm_ad32 Z a1 cs c0 c1 c2 c3 vf h0 n0 v U'.heap L ∧ FrameEnd U o U' L ({ frames := 6, cells := 0, slots := 0, locals := 110 } : Room).cells ({ frames := 6, cells := 0, slots := 0, locals := 110 } : Room).slots) := by
  refine MetFree.of_bodySF (plainFor_of_name pn_com_example_api_policy_gateway_apipolicygateway_proxy_HeaderFields) hisR ?_
  intro p e s m args below meth c s₁ Bd hml0 hP hK
  obtain ⟨rfl, hZ, hh⟩ := hP
  have hx := Bd.exec
  have hby := Bd.bytes
  have hml : c.maxLocals = 4 := hml0
  have hown : s.vm.findClass "com/example/api_policy_gateway/apipolicygateway/proxy/HeaderFields" = some m.cls := findClass_of_methodNamed Bd.named
  have hnm := (name_of_methodNamed Bd.named Bd.method).1
  have X0 : Stand p l e ({ frames := 6, cells := 0, slots := 0, locals := 110 } : Room) s m #[(.ref a1), (.int (3 : Int32)), (.int (2 : Int32))] below meth c s₁ [] 0 0 := Stand.of_body Bd
  have e0 : s₁.heap = h0 := by rw [← hh, Bd.state]; rfl
  have N0 := Fr.nil n0
  refine Goes.out (l := l) (c := c) (R := ({ frames := 6, cells := 0, slots := 0, locals := 110 } : Room)) (Q := Q_rm_ad32 Z a1 cs c0 c1 c2 c3 vf h0 n0) Bd.notSynchronized ?_
  refine Goes.cast (g2 := mkF m 0 #[rv a1, iv 3, iv 2, .unset] []) (by first | (simp [entryFrame, mkF, argsToLocals, Value.category]; done) | rfl) ?_
  have K0 : Keep h0 h0 [] := Keep.refl h0 _
  have hws : ∀ x ∈ ([] : List Addr), n0 ≤ x := all0
  refine Goes.step (T2 := s₁) (g2 := (mkF m 1 #[rv a1, iv 3, iv 2, .unset] [(.int (3 : Int32))])) (fun _ hr => XS.iloadN X0.here hx rfl (hb hby d18_0) rfl  hr) ?_
  refine Goes.step (T2 := s₁) (g2 := (mkF m 2 #[rv a1, iv 3, iv 2, iv 3] [])) (fun _ hr => XS.istoreN X0.here hx rfl (hb hby d18_1) rfl (l' := #[rv a1, iv 3, iv 2, iv 3]) rfl hr) ?_
  refine Goes.step (T2 := s₁) (g2 := (mkF m 3 #[rv a1, iv 3, iv 2, iv 3] [(.int (3 : Int32))])) (fun _ hr => XS.iloadN X0.here hx rfl (hb hby d18_2) rfl  hr) ?_
  refine Goes.step (T2 := s₁) (g2 := (mkF m 4 #[rv a1, iv 3, iv 2, iv 3] [(.int (2 : Int32)), (.int (3 : Int32))])) (fun _ hr => XS.iloadN X0.here hx rfl (hb hby d18_3) rfl  hr) ?_
  refine Goes.step (T2 := s₁) (g2 := (mkF m 35 #[rv a1, iv 3, iv 2, iv 3] [])) (fun _ hr => XS.icmpYes X0.here hx rfl (pc0 := 4) (pc' := 35) rfl (hb hby d18_4) rfl (flt (by decide : ¬ ((3 : Int32) < (2 : Int32)))).2.1 (by decide) (by decide) hr) ?_
  refine Goes.step (T2 := s₁) (g2 := (mkF m 36 #[rv a1, iv 3, iv 2, iv 3] [(.int (1 : Int32))])) (fun _ hr => XS.iconst X0.here hx rfl (hb hby d18_35) hr) ?_
  exact Goes.ret (v := some (.int (1 : Int32))) X0 (by decide) (by decide) (fun h => by rw [Bd.returns] at h; cases h) ⟨by rw [show allD [] = (1 : Int32) from rfl], N0, e0⟩ (fun fs hr => retN X0 hx (t := .boolean) Bd.returns (by simp) (hb hby d18_36) hr)
def Q_rm_ad33 (Z : State) (a1 : Addr) (cs : Int32) (c0 : Int32) (c1 : Int32) (c2 : Int32) (c3 : Int32) (vf : Value) (h0 : Heap) (n0 : Nat) (v : Option Value) (h : Heap) (L : List Loc) : Prop := v = some (.int (allD [])) ∧ Fr n0 L ∧ h = h0
set_option maxRecDepth 65536 in
set_option maxHeartbeats 40000000 in
theorem rm_ad33 (l : Launch) (Z : State) (a0 : Array Value) (hw : ∀ d ∈ tables_1, d.before a0 Z = true) (ws : List Jvm.Cond) (a1 : Addr) (cs : Int32) (c0 : Int32) (c1 : Int32) (c2 : Int32) (c3 : Int32) (vf : Value) (h0 : Heap) (n0 : Nat) (Z0 : n0 ≤ h0.size) (O0 : Old Z n0 h0) (E_a1 : Exa Z h0 a1 "java/lang/String") (S_String_COMPACT_STRINGS_old : Sta Z Z.heap "java/lang/String" "COMPACT_STRINGS" "Z" (.int cs)) (S_Preconditions_SIOOBE_FORMATTER_old : Sta Z Z.heap "jdk/internal/util/Preconditions" "SIOOBE_FORMATTER" "Ljava/util/function/BiFunction;" vf) (S_StringUTF16__assertionsDisabled_old : Sta Z Z.heap "java/lang/StringUTF16" "$assertionsDisabled" "Z" (.int (1 : Int32))) (S_StringUTF16_HI_BYTE_SHIFT_old : Sta Z Z.heap "java/lang/StringUTF16" "HI_BYTE_SHIFT" "I" (.int (0 : Int32))) (S_StringUTF16_LO_BYTE_SHIFT_old : Sta Z Z.heap "java/lang/StringUTF16" "LO_BYTE_SHIFT" "I" (.int (8 : Int32))) (hcs : ¬ (cs = (0 : Int32))) (hvf : vf.isRef = true) (hb0 : B16 c0) (hb1 : B16 c1) (hb2 : B16 c2) (hb3 : B16 c3) (S0 : Sch Z h0 a1 c0 c1 c2 c3) :
    MetFree l Y18 (head1 (Jvm.Cond.code Y18 prog_32_method_41_code 4 (some .boolean) :: ws) ({ frames := 6, cells := 0, slots := 0, locals := 110 } : Room)) (fun a U => a = #[(.ref a1), (.int (3 : Int32)), (.int (3 : Int32))] ∧ Z.Warmed39 U.vm ∧ U.heap = h0) (fun _ _ _ _ _ => True) (fun _ U o U' => ∃ v L, o = .returned v ∧ Q_rm_ad33 Z a1 cs c0 c1 c2 c3 vf h0 n0 v U'.heap L ∧ FrameEnd U o U' L ({ frames := 6, cells := 0, slots := 0, locals := 110 } : Room).cells ({ frames := 6, cells := 0, slots := 0, locals := 110 } : Room).slots) := by
  refine MetFree.of_bodySF (plainFor_of_name pn_com_example_api_policy_gateway_apipolicygateway_proxy_HeaderFields) hisR ?_
  intro p e s m args below meth c s₁ Bd hml0 hP hK
  obtain ⟨rfl, hZ, hh⟩ := hP
  have hx := Bd.exec
  have hby := Bd.bytes
  have hml : c.maxLocals = 4 := hml0
  have hown : s.vm.findClass "com/example/api_policy_gateway/apipolicygateway/proxy/HeaderFields" = some m.cls := findClass_of_methodNamed Bd.named
  have hnm := (name_of_methodNamed Bd.named Bd.method).1
  have X0 : Stand p l e ({ frames := 6, cells := 0, slots := 0, locals := 110 } : Room) s m #[(.ref a1), (.int (3 : Int32)), (.int (3 : Int32))] below meth c s₁ [] 0 0 := Stand.of_body Bd
  have e0 : s₁.heap = h0 := by rw [← hh, Bd.state]; rfl
  have N0 := Fr.nil n0
  refine Goes.out (l := l) (c := c) (R := ({ frames := 6, cells := 0, slots := 0, locals := 110 } : Room)) (Q := Q_rm_ad33 Z a1 cs c0 c1 c2 c3 vf h0 n0) Bd.notSynchronized ?_
  refine Goes.cast (g2 := mkF m 0 #[rv a1, iv 3, iv 3, .unset] []) (by first | (simp [entryFrame, mkF, argsToLocals, Value.category]; done) | rfl) ?_
  have K0 : Keep h0 h0 [] := Keep.refl h0 _
  have hws : ∀ x ∈ ([] : List Addr), n0 ≤ x := all0
  refine Goes.step (T2 := s₁) (g2 := (mkF m 1 #[rv a1, iv 3, iv 3, .unset] [(.int (3 : Int32))])) (fun _ hr => XS.iloadN X0.here hx rfl (hb hby d18_0) rfl  hr) ?_
  refine Goes.step (T2 := s₁) (g2 := (mkF m 2 #[rv a1, iv 3, iv 3, iv 3] [])) (fun _ hr => XS.istoreN X0.here hx rfl (hb hby d18_1) rfl (l' := #[rv a1, iv 3, iv 3, iv 3]) rfl hr) ?_
  refine Goes.step (T2 := s₁) (g2 := (mkF m 3 #[rv a1, iv 3, iv 3, iv 3] [(.int (3 : Int32))])) (fun _ hr => XS.iloadN X0.here hx rfl (hb hby d18_2) rfl  hr) ?_
  refine Goes.step (T2 := s₁) (g2 := (mkF m 4 #[rv a1, iv 3, iv 3, iv 3] [(.int (3 : Int32)), (.int (3 : Int32))])) (fun _ hr => XS.iloadN X0.here hx rfl (hb hby d18_3) rfl  hr) ?_
  refine Goes.step (T2 := s₁) (g2 := (mkF m 35 #[rv a1, iv 3, iv 3, iv 3] [])) (fun _ hr => XS.icmpYes X0.here hx rfl (pc0 := 4) (pc' := 35) rfl (hb hby d18_4) rfl (flt (by decide : ¬ ((3 : Int32) < (3 : Int32)))).2.1 (by decide) (by decide) hr) ?_
  refine Goes.step (T2 := s₁) (g2 := (mkF m 36 #[rv a1, iv 3, iv 3, iv 3] [(.int (1 : Int32))])) (fun _ hr => XS.iconst X0.here hx rfl (hb hby d18_35) hr) ?_
  exact Goes.ret (v := some (.int (1 : Int32))) X0 (by decide) (by decide) (fun h => by rw [Bd.returns] at h; cases h) ⟨by rw [show allD [] = (1 : Int32) from rfl], N0, e0⟩ (fun fs hr => retN X0 hx (t := .boolean) Bd.returns (by simp) (hb hby d18_36) hr)
def Q_rm_ad34 (Z : State) (a1 : Addr) (cs : Int32) (c0 : Int32) (c1 : Int32) (c2 : Int32) (c3 : Int32) (vf : Value) (h0 : Heap) (n0 : Nat) (v : Option Value) (h : Heap) (L : List Loc) : Prop := v = some (.int (allD [c3])) ∧ Fr n0 L ∧ h = h0
set_option maxRecDepth 65536 in
set_option maxHeartbeats 40000000 in
theorem rm_ad34 (l : Launch) (Z : State) (a0 : Array Value) (hw : ∀ d ∈ tables_1, d.before a0 Z = true) (ws : List Jvm.Cond) (a1 : Addr) (cs : Int32) (c0 : Int32) (c1 : Int32) (c2 : Int32) (c3 : Int32) (vf : Value) (h0 : Heap) (n0 : Nat) (Z0 : n0 ≤ h0.size) (O0 : Old Z n0 h0) (E_a1 : Exa Z h0 a1 "java/lang/String") (S_String_COMPACT_STRINGS_old : Sta Z Z.heap "java/lang/String" "COMPACT_STRINGS" "Z" (.int cs)) (S_Preconditions_SIOOBE_FORMATTER_old : Sta Z Z.heap "jdk/internal/util/Preconditions" "SIOOBE_FORMATTER" "Ljava/util/function/BiFunction;" vf) (S_StringUTF16__assertionsDisabled_old : Sta Z Z.heap "java/lang/StringUTF16" "$assertionsDisabled" "Z" (.int (1 : Int32))) (S_StringUTF16_HI_BYTE_SHIFT_old : Sta Z Z.heap "java/lang/StringUTF16" "HI_BYTE_SHIFT" "I" (.int (0 : Int32))) (S_StringUTF16_LO_BYTE_SHIFT_old : Sta Z Z.heap "java/lang/StringUTF16" "LO_BYTE_SHIFT" "I" (.int (8 : Int32))) (hcs : ¬ (cs = (0 : Int32))) (hvf : vf.isRef = true) (hb0 : B16 c0) (hb1 : B16 c1) (hb2 : B16 c2) (hb3 : B16 c3) (S0 : Sch Z h0 a1 c0 c1 c2 c3) :
    MetFree l Y18 (head1 (Jvm.Cond.code Y18 prog_32_method_41_code 4 (some .boolean) :: ws) ({ frames := 6, cells := 0, slots := 0, locals := 110 } : Room)) (fun a U => a = #[(.ref a1), (.int (3 : Int32)), (.int (4 : Int32))] ∧ Z.Warmed39 U.vm ∧ U.heap = h0) (fun _ _ _ _ _ => True) (fun _ U o U' => ∃ v L, o = .returned v ∧ Q_rm_ad34 Z a1 cs c0 c1 c2 c3 vf h0 n0 v U'.heap L ∧ FrameEnd U o U' L ({ frames := 6, cells := 0, slots := 0, locals := 110 } : Room).cells ({ frames := 6, cells := 0, slots := 0, locals := 110 } : Room).slots) := by
  refine MetFree.of_bodySF (plainFor_of_name pn_com_example_api_policy_gateway_apipolicygateway_proxy_HeaderFields) hisR ?_
  intro p e s m args below meth c s₁ Bd hml0 hP hK
  obtain ⟨rfl, hZ, hh⟩ := hP
  have hx := Bd.exec
  have hby := Bd.bytes
  have hml : c.maxLocals = 4 := hml0
  have hown : s.vm.findClass "com/example/api_policy_gateway/apipolicygateway/proxy/HeaderFields" = some m.cls := findClass_of_methodNamed Bd.named
  have hnm := (name_of_methodNamed Bd.named Bd.method).1
  have X0 : Stand p l e ({ frames := 6, cells := 0, slots := 0, locals := 110 } : Room) s m #[(.ref a1), (.int (3 : Int32)), (.int (4 : Int32))] below meth c s₁ [] 0 0 := Stand.of_body Bd
  have e0 : s₁.heap = h0 := by rw [← hh, Bd.state]; rfl
  have N0 := Fr.nil n0
  refine Goes.out (l := l) (c := c) (R := ({ frames := 6, cells := 0, slots := 0, locals := 110 } : Room)) (Q := Q_rm_ad34 Z a1 cs c0 c1 c2 c3 vf h0 n0) Bd.notSynchronized ?_
  refine Goes.cast (g2 := mkF m 0 #[rv a1, iv 3, iv 4, .unset] []) (by first | (simp [entryFrame, mkF, argsToLocals, Value.category]; done) | rfl) ?_
  have K0 : Keep h0 h0 [] := Keep.refl h0 _
  have hws : ∀ x ∈ ([] : List Addr), n0 ≤ x := all0
  refine Goes.step (T2 := s₁) (g2 := (mkF m 1 #[rv a1, iv 3, iv 4, .unset] [(.int (3 : Int32))])) (fun _ hr => XS.iloadN X0.here hx rfl (hb hby d18_0) rfl  hr) ?_
  refine Goes.step (T2 := s₁) (g2 := (mkF m 2 #[rv a1, iv 3, iv 4, iv 3] [])) (fun _ hr => XS.istoreN X0.here hx rfl (hb hby d18_1) rfl (l' := #[rv a1, iv 3, iv 4, iv 3]) rfl hr) ?_
  refine Goes.step (T2 := s₁) (g2 := (mkF m 3 #[rv a1, iv 3, iv 4, iv 3] [(.int (3 : Int32))])) (fun _ hr => XS.iloadN X0.here hx rfl (hb hby d18_2) rfl  hr) ?_
  refine Goes.step (T2 := s₁) (g2 := (mkF m 4 #[rv a1, iv 3, iv 4, iv 3] [(.int (4 : Int32)), (.int (3 : Int32))])) (fun _ hr => XS.iloadN X0.here hx rfl (hb hby d18_3) rfl  hr) ?_
  refine Goes.step (T2 := s₁) (g2 := (mkF m 7 #[rv a1, iv 3, iv 4, iv 3] [])) (fun _ hr => XS.icmpNo X0.here hx rfl (hb hby d18_4) rfl (tlt (by decide : (3 : Int32) < (4 : Int32))).2.1 hr) ?_
  refine Goes.step (T2 := s₁) (g2 := (mkF m 8 #[rv a1, iv 3, iv 4, iv 3] [(.ref a1)])) (fun _ hr => XS.aloadN X0.here hx rfl (hb hby d18_7) rfl rfl hr) ?_
  refine Goes.step (T2 := s₁) (g2 := (mkF m 9 #[rv a1, iv 3, iv 4, iv 3] [(.int (3 : Int32)), (.ref a1)])) (fun _ hr => XS.iloadN X0.here hx rfl (hb hby d18_8) rfl  hr) ?_
  have Zs388 : n0 ≤ h0.size := Nat.le_trans Z0 K0.1
  obtain ⟨cq389, kq389, q389a, q389b, q389c⟩ := isOf hZ e0 E_a1
  obtain ⟨_, _, ⟨T389, L389, k389, n389⟩, -, X389, ⟨Lc389, hQ389, l389, y389, z389⟩, st389⟩ := X0.virtualBack hx (y := Y17) (z := Y17) hown (mvT hZ (tw hw 59 rfl)) (mvT hZ (tw hw 60 rfl)) (notFace_of_selects (args := #[]) (mvT hZ (tw hw 62 rfl))) (mvT hZ (tw hw 62 rfl)) (mvT hZ (tw hw 61 rfl)) (by decide) (backOf (W := 0) (rm_cat3 l Z a0 hw [] a1 cs c0 c1 c2 c3 vf h0 n0 Zs388 (Old.keep O0 K0 hws) E_a1 S0 S_String_COMPACT_STRINGS_old S_Preconditions_SIOOBE_FORMATTER_old S_StringUTF16__assertionsDisabled_old S_StringUTF16_HI_BYTE_SHIFT_old S_StringUTF16_LO_BYTE_SHIFT_old hcs hvf hb3) hZ (tw hw 63 rfl) (tw hw 5 rfl) (by decide) (by decide)) q389a q389c (g := (mkF m 9 #[rv a1, iv 3, iv 4, iv 3] [(.int (3 : Int32)), (.ref a1)])) rfl (by rw [hml]; rfl) (Steps.refl _) (argsL := [(.int (3 : Int32))]) (rest := []) (lenOf pd_13 rfl) rfl (by show 2 * 0 + _ ≤ _; exact Nat.le_of_eq rfl) (hb hby d18_9) (fun _ _ => ⟨rfl, e0, (by decide : 0 + 0 ≤ _), (by decide : 0 + 0 ≤ _)⟩)
  dsimp only [Pt.U, Pt.locs, Pt.cells, Pt.slots] at X389 l389 y389 z389 st389 hQ389
  subst l389 y389 z389
  obtain ⟨rfl, N389q, e389⟩ := hQ389
  have N389 := Fr.app N0 N389q
  refine Goes.step (T2 := T389) (g2 := (mkF m 12 #[rv a1, iv 3, iv 4, iv 3] [(.int c3)])) (fun _ hr => st389.trans hr) ?_
  refine Goes.step (T2 := T389) (g2 := (mkF m 14 #[rv a1, iv 3, iv 4, iv 3] [(.int (48 : Int32)), (.int c3)])) (fun _ hr => XS.bipush X389.here hx rfl (hb hby d18_12) hr) ?_
  by_cases hc14_390 : c3 < (48 : Int32)
  · refine Goes.step (T2 := T389) (g2 := (mkF m 27 #[rv a1, iv 3, iv 4, iv 3] [])) (fun _ hr => XS.icmpYes X389.here hx rfl (pc0 := 14) (pc' := 27) rfl (hb hby d18_14) rfl (tlt hc14_390).1 (by decide) (by decide) hr) ?_
    refine Goes.step (T2 := T389) (g2 := (mkF m 28 #[rv a1, iv 3, iv 4, iv 3] [(.int (0 : Int32))])) (fun _ hr => XS.iconst X389.here hx rfl (hb hby d18_27) hr) ?_
    exact Goes.ret (v := some (.int (0 : Int32))) X389 (by decide) (by decide) (fun h => by rw [Bd.returns] at h; cases h) ⟨by rw [show allD [c3] = (0 : Int32) from (allD_no (dg_lo hc14_390))], N389, e389⟩ (fun fs hr => retN X389 hx (t := .boolean) Bd.returns (by simp) (hb hby d18_28) hr)
  · refine Goes.step (T2 := T389) (g2 := (mkF m 17 #[rv a1, iv 3, iv 4, iv 3] [])) (fun _ hr => XS.icmpNo X389.here hx rfl (hb hby d18_14) rfl (flt hc14_390).1 hr) ?_
    refine Goes.step (T2 := T389) (g2 := (mkF m 18 #[rv a1, iv 3, iv 4, iv 3] [(.ref a1)])) (fun _ hr => XS.aloadN X389.here hx rfl (hb hby d18_17) rfl rfl hr) ?_
    refine Goes.step (T2 := T389) (g2 := (mkF m 19 #[rv a1, iv 3, iv 4, iv 3] [(.int (3 : Int32)), (.ref a1)])) (fun _ hr => XS.iloadN X389.here hx rfl (hb hby d18_18) rfl  hr) ?_
    have Zs391 : n0 ≤ h0.size := Nat.le_trans Z0 K0.1
    obtain ⟨cq392, kq392, q392a, q392b, q392c⟩ := isOf hZ e389 E_a1
    obtain ⟨_, _, ⟨T392, L392, k392, n392⟩, -, X392, ⟨Lc392, hQ392, l392, y392, z392⟩, st392⟩ := X389.virtualBack hx (y := Y17) (z := Y17) hown (mvT hZ (tw hw 59 rfl)) (mvT hZ (tw hw 60 rfl)) (notFace_of_selects (args := #[]) (mvT hZ (tw hw 62 rfl))) (mvT hZ (tw hw 62 rfl)) (mvT hZ (tw hw 61 rfl)) (by decide) (backOf (W := 0) (rm_cat3 l Z a0 hw [] a1 cs c0 c1 c2 c3 vf h0 n0 Zs391 (Old.keep O0 K0 hws) E_a1 S0 S_String_COMPACT_STRINGS_old S_Preconditions_SIOOBE_FORMATTER_old S_StringUTF16__assertionsDisabled_old S_StringUTF16_HI_BYTE_SHIFT_old S_StringUTF16_LO_BYTE_SHIFT_old hcs hvf hb3) hZ (tw hw 63 rfl) (tw hw 5 rfl) (by decide) (by decide)) q392a q392c (g := (mkF m 19 #[rv a1, iv 3, iv 4, iv 3] [(.int (3 : Int32)), (.ref a1)])) rfl (by rw [hml]; rfl) (Steps.refl _) (argsL := [(.int (3 : Int32))]) (rest := []) (lenOf pd_13 rfl) rfl (by show 2 * 0 + _ ≤ _; exact Nat.le_of_eq rfl) (hb hby d18_19) (fun _ _ => ⟨rfl, e389, (by decide : 0 + 0 ≤ _), (by decide : 0 + 0 ≤ _)⟩)
    dsimp only [Pt.U, Pt.locs, Pt.cells, Pt.slots] at X392 l392 y392 z392 st392 hQ392
    subst l392 y392 z392
    obtain ⟨rfl, N392q, e392⟩ := hQ392
    have N392 := Fr.app N389 N392q
    refine Goes.step (T2 := T392) (g2 := (mkF m 22 #[rv a1, iv 3, iv 4, iv 3] [(.int c3)])) (fun _ hr => st392.trans hr) ?_
    refine Goes.step (T2 := T392) (g2 := (mkF m 24 #[rv a1, iv 3, iv 4, iv 3] [(.int (57 : Int32)), (.int c3)])) (fun _ hr => XS.bipush X392.here hx rfl (hb hby d18_22) hr) ?_
    by_cases hc24_393 : (57 : Int32) < c3
    · refine Goes.step (T2 := T392) (g2 := (mkF m 27 #[rv a1, iv 3, iv 4, iv 3] [])) (fun _ hr => XS.icmpNo X392.here hx rfl (hb hby d18_24) rfl (tlt hc24_393).2.2.2 hr) ?_
      refine Goes.step (T2 := T392) (g2 := (mkF m 28 #[rv a1, iv 3, iv 4, iv 3] [(.int (0 : Int32))])) (fun _ hr => XS.iconst X392.here hx rfl (hb hby d18_27) hr) ?_
      exact Goes.ret (v := some (.int (0 : Int32))) X392 (by decide) (by decide) (fun h => by rw [Bd.returns] at h; cases h) ⟨by rw [show allD [c3] = (0 : Int32) from (allD_no (dg_hi hc24_393))], N392, e392⟩ (fun fs hr => retN X392 hx (t := .boolean) Bd.returns (by simp) (hb hby d18_28) hr)
    · refine Goes.step (T2 := T392) (g2 := (mkF m 29 #[rv a1, iv 3, iv 4, iv 3] [])) (fun _ hr => XS.icmpYes X392.here hx rfl (pc0 := 24) (pc' := 29) rfl (hb hby d18_24) rfl (flt hc24_393).2.2.2 (by decide) (by decide) hr) ?_
      refine Goes.step (T2 := T392) (g2 := (mkF m 32 #[rv a1, iv 3, iv 4, iv 4] [])) (fun _ hr => XS.iinc X392.here hx rfl (hb hby d18_29) rfl (l' := #[rv a1, iv 3, iv 4, iv 4]) rfl hr) ?_
      refine Goes.step (T2 := T392) (g2 := (mkF m 2 #[rv a1, iv 3, iv 4, iv 4] [])) (fun _ hr => XS.goto X392.here hx rfl (pc0 := 32) (pc' := 2) rfl (hb hby d18_32) (by decide) (by decide) hr) ?_
      refine Goes.step (T2 := T392) (g2 := (mkF m 3 #[rv a1, iv 3, iv 4, iv 4] [(.int (4 : Int32))])) (fun _ hr => XS.iloadN X392.here hx rfl (hb hby d18_2) rfl  hr) ?_
      refine Goes.step (T2 := T392) (g2 := (mkF m 4 #[rv a1, iv 3, iv 4, iv 4] [(.int (4 : Int32)), (.int (4 : Int32))])) (fun _ hr => XS.iloadN X392.here hx rfl (hb hby d18_3) rfl  hr) ?_
      refine Goes.step (T2 := T392) (g2 := (mkF m 35 #[rv a1, iv 3, iv 4, iv 4] [])) (fun _ hr => XS.icmpYes X392.here hx rfl (pc0 := 4) (pc' := 35) rfl (hb hby d18_4) rfl (flt (by decide : ¬ ((4 : Int32) < (4 : Int32)))).2.1 (by decide) (by decide) hr) ?_
      refine Goes.step (T2 := T392) (g2 := (mkF m 36 #[rv a1, iv 3, iv 4, iv 4] [(.int (1 : Int32))])) (fun _ hr => XS.iconst X392.here hx rfl (hb hby d18_35) hr) ?_
      exact Goes.ret (v := some (.int (1 : Int32))) X392 (by decide) (by decide) (fun h => by rw [Bd.returns] at h; cases h) ⟨by rw [show allD [c3] = (1 : Int32) from (allD_go (dg_yes hc14_390 hc24_393) rfl)], N392, e392⟩ (fun fs hr => retN X392 hx (t := .boolean) Bd.returns (by simp) (hb hby d18_36) hr)
def Q_rm_ad40 (Z : State) (a1 : Addr) (cs : Int32) (c0 : Int32) (c1 : Int32) (c2 : Int32) (c3 : Int32) (vf : Value) (h0 : Heap) (n0 : Nat) (v : Option Value) (h : Heap) (L : List Loc) : Prop := v = some (.int (allD [])) ∧ Fr n0 L ∧ h = h0
set_option maxRecDepth 65536 in
set_option maxHeartbeats 40000000 in
theorem rm_ad40 (l : Launch) (Z : State) (a0 : Array Value) (hw : ∀ d ∈ tables_1, d.before a0 Z = true) (ws : List Jvm.Cond) (a1 : Addr) (cs : Int32) (c0 : Int32) (c1 : Int32) (c2 : Int32) (c3 : Int32) (vf : Value) (h0 : Heap) (n0 : Nat) (Z0 : n0 ≤ h0.size) (O0 : Old Z n0 h0) (E_a1 : Exa Z h0 a1 "java/lang/String") (S_String_COMPACT_STRINGS_old : Sta Z Z.heap "java/lang/String" "COMPACT_STRINGS" "Z" (.int cs)) (S_Preconditions_SIOOBE_FORMATTER_old : Sta Z Z.heap "jdk/internal/util/Preconditions" "SIOOBE_FORMATTER" "Ljava/util/function/BiFunction;" vf) (S_StringUTF16__assertionsDisabled_old : Sta Z Z.heap "java/lang/StringUTF16" "$assertionsDisabled" "Z" (.int (1 : Int32))) (S_StringUTF16_HI_BYTE_SHIFT_old : Sta Z Z.heap "java/lang/StringUTF16" "HI_BYTE_SHIFT" "I" (.int (0 : Int32))) (S_StringUTF16_LO_BYTE_SHIFT_old : Sta Z Z.heap "java/lang/StringUTF16" "LO_BYTE_SHIFT" "I" (.int (8 : Int32))) (hcs : ¬ (cs = (0 : Int32))) (hvf : vf.isRef = true) (hb0 : B16 c0) (hb1 : B16 c1) (hb2 : B16 c2) (hb3 : B16 c3) (S0 : Sch Z h0 a1 c0 c1 c2 c3) :
    MetFree l Y18 (head1 (Jvm.Cond.code Y18 prog_32_method_41_code 4 (some .boolean) :: ws) ({ frames := 6, cells := 0, slots := 0, locals := 110 } : Room)) (fun a U => a = #[(.ref a1), (.int (4 : Int32)), (.int (0 : Int32))] ∧ Z.Warmed39 U.vm ∧ U.heap = h0) (fun _ _ _ _ _ => True) (fun _ U o U' => ∃ v L, o = .returned v ∧ Q_rm_ad40 Z a1 cs c0 c1 c2 c3 vf h0 n0 v U'.heap L ∧ FrameEnd U o U' L ({ frames := 6, cells := 0, slots := 0, locals := 110 } : Room).cells ({ frames := 6, cells := 0, slots := 0, locals := 110 } : Room).slots) := by
  refine MetFree.of_bodySF (plainFor_of_name pn_com_example_api_policy_gateway_apipolicygateway_proxy_HeaderFields) hisR ?_
  intro p e s m args below meth c s₁ Bd hml0 hP hK
  obtain ⟨rfl, hZ, hh⟩ := hP
  have hx := Bd.exec
  have hby := Bd.bytes
  have hml : c.maxLocals = 4 := hml0
  have hown : s.vm.findClass "com/example/api_policy_gateway/apipolicygateway/proxy/HeaderFields" = some m.cls := findClass_of_methodNamed Bd.named
  have hnm := (name_of_methodNamed Bd.named Bd.method).1
  have X0 : Stand p l e ({ frames := 6, cells := 0, slots := 0, locals := 110 } : Room) s m #[(.ref a1), (.int (4 : Int32)), (.int (0 : Int32))] below meth c s₁ [] 0 0 := Stand.of_body Bd
  have e0 : s₁.heap = h0 := by rw [← hh, Bd.state]; rfl
  have N0 := Fr.nil n0
  refine Goes.out (l := l) (c := c) (R := ({ frames := 6, cells := 0, slots := 0, locals := 110 } : Room)) (Q := Q_rm_ad40 Z a1 cs c0 c1 c2 c3 vf h0 n0) Bd.notSynchronized ?_
  refine Goes.cast (g2 := mkF m 0 #[rv a1, iv 4, iv 0, .unset] []) (by first | (simp [entryFrame, mkF, argsToLocals, Value.category]; done) | rfl) ?_
  have K0 : Keep h0 h0 [] := Keep.refl h0 _
  have hws : ∀ x ∈ ([] : List Addr), n0 ≤ x := all0
  refine Goes.step (T2 := s₁) (g2 := (mkF m 1 #[rv a1, iv 4, iv 0, .unset] [(.int (4 : Int32))])) (fun _ hr => XS.iloadN X0.here hx rfl (hb hby d18_0) rfl  hr) ?_
  refine Goes.step (T2 := s₁) (g2 := (mkF m 2 #[rv a1, iv 4, iv 0, iv 4] [])) (fun _ hr => XS.istoreN X0.here hx rfl (hb hby d18_1) rfl (l' := #[rv a1, iv 4, iv 0, iv 4]) rfl hr) ?_
  refine Goes.step (T2 := s₁) (g2 := (mkF m 3 #[rv a1, iv 4, iv 0, iv 4] [(.int (4 : Int32))])) (fun _ hr => XS.iloadN X0.here hx rfl (hb hby d18_2) rfl  hr) ?_
  refine Goes.step (T2 := s₁) (g2 := (mkF m 4 #[rv a1, iv 4, iv 0, iv 4] [(.int (0 : Int32)), (.int (4 : Int32))])) (fun _ hr => XS.iloadN X0.here hx rfl (hb hby d18_3) rfl  hr) ?_
  refine Goes.step (T2 := s₁) (g2 := (mkF m 35 #[rv a1, iv 4, iv 0, iv 4] [])) (fun _ hr => XS.icmpYes X0.here hx rfl (pc0 := 4) (pc' := 35) rfl (hb hby d18_4) rfl (flt (by decide : ¬ ((4 : Int32) < (0 : Int32)))).2.1 (by decide) (by decide) hr) ?_
  refine Goes.step (T2 := s₁) (g2 := (mkF m 36 #[rv a1, iv 4, iv 0, iv 4] [(.int (1 : Int32))])) (fun _ hr => XS.iconst X0.here hx rfl (hb hby d18_35) hr) ?_
  exact Goes.ret (v := some (.int (1 : Int32))) X0 (by decide) (by decide) (fun h => by rw [Bd.returns] at h; cases h) ⟨by rw [show allD [] = (1 : Int32) from rfl], N0, e0⟩ (fun fs hr => retN X0 hx (t := .boolean) Bd.returns (by simp) (hb hby d18_36) hr)
def Q_rm_ad41 (Z : State) (a1 : Addr) (cs : Int32) (c0 : Int32) (c1 : Int32) (c2 : Int32) (c3 : Int32) (vf : Value) (h0 : Heap) (n0 : Nat) (v : Option Value) (h : Heap) (L : List Loc) : Prop := v = some (.int (allD [])) ∧ Fr n0 L ∧ h = h0
set_option maxRecDepth 65536 in
set_option maxHeartbeats 40000000 in
theorem rm_ad41 (l : Launch) (Z : State) (a0 : Array Value) (hw : ∀ d ∈ tables_1, d.before a0 Z = true) (ws : List Jvm.Cond) (a1 : Addr) (cs : Int32) (c0 : Int32) (c1 : Int32) (c2 : Int32) (c3 : Int32) (vf : Value) (h0 : Heap) (n0 : Nat) (Z0 : n0 ≤ h0.size) (O0 : Old Z n0 h0) (E_a1 : Exa Z h0 a1 "java/lang/String") (S_String_COMPACT_STRINGS_old : Sta Z Z.heap "java/lang/String" "COMPACT_STRINGS" "Z" (.int cs)) (S_Preconditions_SIOOBE_FORMATTER_old : Sta Z Z.heap "jdk/internal/util/Preconditions" "SIOOBE_FORMATTER" "Ljava/util/function/BiFunction;" vf) (S_StringUTF16__assertionsDisabled_old : Sta Z Z.heap "java/lang/StringUTF16" "$assertionsDisabled" "Z" (.int (1 : Int32))) (S_StringUTF16_HI_BYTE_SHIFT_old : Sta Z Z.heap "java/lang/StringUTF16" "HI_BYTE_SHIFT" "I" (.int (0 : Int32))) (S_StringUTF16_LO_BYTE_SHIFT_old : Sta Z Z.heap "java/lang/StringUTF16" "LO_BYTE_SHIFT" "I" (.int (8 : Int32))) (hcs : ¬ (cs = (0 : Int32))) (hvf : vf.isRef = true) (hb0 : B16 c0) (hb1 : B16 c1) (hb2 : B16 c2) (hb3 : B16 c3) (S0 : Sch Z h0 a1 c0 c1 c2 c3) :
    MetFree l Y18 (head1 (Jvm.Cond.code Y18 prog_32_method_41_code 4 (some .boolean) :: ws) ({ frames := 6, cells := 0, slots := 0, locals := 110 } : Room)) (fun a U => a = #[(.ref a1), (.int (4 : Int32)), (.int (1 : Int32))] ∧ Z.Warmed39 U.vm ∧ U.heap = h0) (fun _ _ _ _ _ => True) (fun _ U o U' => ∃ v L, o = .returned v ∧ Q_rm_ad41 Z a1 cs c0 c1 c2 c3 vf h0 n0 v U'.heap L ∧ FrameEnd U o U' L ({ frames := 6, cells := 0, slots := 0, locals := 110 } : Room).cells ({ frames := 6, cells := 0, slots := 0, locals := 110 } : Room).slots) := by
  refine MetFree.of_bodySF (plainFor_of_name pn_com_example_api_policy_gateway_apipolicygateway_proxy_HeaderFields) hisR ?_
  intro p e s m args below meth c s₁ Bd hml0 hP hK
  obtain ⟨rfl, hZ, hh⟩ := hP
  have hx := Bd.exec
  have hby := Bd.bytes
  have hml : c.maxLocals = 4 := hml0
  have hown : s.vm.findClass "com/example/api_policy_gateway/apipolicygateway/proxy/HeaderFields" = some m.cls := findClass_of_methodNamed Bd.named
  have hnm := (name_of_methodNamed Bd.named Bd.method).1
  have X0 : Stand p l e ({ frames := 6, cells := 0, slots := 0, locals := 110 } : Room) s m #[(.ref a1), (.int (4 : Int32)), (.int (1 : Int32))] below meth c s₁ [] 0 0 := Stand.of_body Bd
  have e0 : s₁.heap = h0 := by rw [← hh, Bd.state]; rfl
  have N0 := Fr.nil n0
  refine Goes.out (l := l) (c := c) (R := ({ frames := 6, cells := 0, slots := 0, locals := 110 } : Room)) (Q := Q_rm_ad41 Z a1 cs c0 c1 c2 c3 vf h0 n0) Bd.notSynchronized ?_
  refine Goes.cast (g2 := mkF m 0 #[rv a1, iv 4, iv 1, .unset] []) (by first | (simp [entryFrame, mkF, argsToLocals, Value.category]; done) | rfl) ?_
  have K0 : Keep h0 h0 [] := Keep.refl h0 _
  have hws : ∀ x ∈ ([] : List Addr), n0 ≤ x := all0
  refine Goes.step (T2 := s₁) (g2 := (mkF m 1 #[rv a1, iv 4, iv 1, .unset] [(.int (4 : Int32))])) (fun _ hr => XS.iloadN X0.here hx rfl (hb hby d18_0) rfl  hr) ?_
  refine Goes.step (T2 := s₁) (g2 := (mkF m 2 #[rv a1, iv 4, iv 1, iv 4] [])) (fun _ hr => XS.istoreN X0.here hx rfl (hb hby d18_1) rfl (l' := #[rv a1, iv 4, iv 1, iv 4]) rfl hr) ?_
  refine Goes.step (T2 := s₁) (g2 := (mkF m 3 #[rv a1, iv 4, iv 1, iv 4] [(.int (4 : Int32))])) (fun _ hr => XS.iloadN X0.here hx rfl (hb hby d18_2) rfl  hr) ?_
  refine Goes.step (T2 := s₁) (g2 := (mkF m 4 #[rv a1, iv 4, iv 1, iv 4] [(.int (1 : Int32)), (.int (4 : Int32))])) (fun _ hr => XS.iloadN X0.here hx rfl (hb hby d18_3) rfl  hr) ?_
  refine Goes.step (T2 := s₁) (g2 := (mkF m 35 #[rv a1, iv 4, iv 1, iv 4] [])) (fun _ hr => XS.icmpYes X0.here hx rfl (pc0 := 4) (pc' := 35) rfl (hb hby d18_4) rfl (flt (by decide : ¬ ((4 : Int32) < (1 : Int32)))).2.1 (by decide) (by decide) hr) ?_
  refine Goes.step (T2 := s₁) (g2 := (mkF m 36 #[rv a1, iv 4, iv 1, iv 4] [(.int (1 : Int32))])) (fun _ hr => XS.iconst X0.here hx rfl (hb hby d18_35) hr) ?_
  exact Goes.ret (v := some (.int (1 : Int32))) X0 (by decide) (by decide) (fun h => by rw [Bd.returns] at h; cases h) ⟨by rw [show allD [] = (1 : Int32) from rfl], N0, e0⟩ (fun fs hr => retN X0 hx (t := .boolean) Bd.returns (by simp) (hb hby d18_36) hr)
def Q_rm_ad42 (Z : State) (a1 : Addr) (cs : Int32) (c0 : Int32) (c1 : Int32) (c2 : Int32) (c3 : Int32) (vf : Value) (h0 : Heap) (n0 : Nat) (v : Option Value) (h : Heap) (L : List Loc) : Prop := v = some (.int (allD [])) ∧ Fr n0 L ∧ h = h0
set_option maxRecDepth 65536 in
set_option maxHeartbeats 40000000 in
theorem rm_ad42 (l : Launch) (Z : State) (a0 : Array Value) (hw : ∀ d ∈ tables_1, d.before a0 Z = true) (ws : List Jvm.Cond) (a1 : Addr) (cs : Int32) (c0 : Int32) (c1 : Int32) (c2 : Int32) (c3 : Int32) (vf : Value) (h0 : Heap) (n0 : Nat) (Z0 : n0 ≤ h0.size) (O0 : Old Z n0 h0) (E_a1 : Exa Z h0 a1 "java/lang/String") (S_String_COMPACT_STRINGS_old : Sta Z Z.heap "java/lang/String" "COMPACT_STRINGS" "Z" (.int cs)) (S_Preconditions_SIOOBE_FORMATTER_old : Sta Z Z.heap "jdk/internal/util/Preconditions" "SIOOBE_FORMATTER" "Ljava/util/function/BiFunction;" vf) (S_StringUTF16__assertionsDisabled_old : Sta Z Z.heap "java/lang/StringUTF16" "$assertionsDisabled" "Z" (.int (1 : Int32))) (S_StringUTF16_HI_BYTE_SHIFT_old : Sta Z Z.heap "java/lang/StringUTF16" "HI_BYTE_SHIFT" "I" (.int (0 : Int32))) (S_StringUTF16_LO_BYTE_SHIFT_old : Sta Z Z.heap "java/lang/StringUTF16" "LO_BYTE_SHIFT" "I" (.int (8 : Int32))) (hcs : ¬ (cs = (0 : Int32))) (hvf : vf.isRef = true) (hb0 : B16 c0) (hb1 : B16 c1) (hb2 : B16 c2) (hb3 : B16 c3) (S0 : Sch Z h0 a1 c0 c1 c2 c3) :
    MetFree l Y18 (head1 (Jvm.Cond.code Y18 prog_32_method_41_code 4 (some .boolean) :: ws) ({ frames := 6, cells := 0, slots := 0, locals := 110 } : Room)) (fun a U => a = #[(.ref a1), (.int (4 : Int32)), (.int (2 : Int32))] ∧ Z.Warmed39 U.vm ∧ U.heap = h0) (fun _ _ _ _ _ => True) (fun _ U o U' => ∃ v L, o = .returned v ∧ Q_rm_ad42 Z a1 cs c0 c1 c2 c3 vf h0 n0 v U'.heap L ∧ FrameEnd U o U' L ({ frames := 6, cells := 0, slots := 0, locals := 110 } : Room).cells ({ frames := 6, cells := 0, slots := 0, locals := 110 } : Room).slots) := by
  refine MetFree.of_bodySF (plainFor_of_name pn_com_example_api_policy_gateway_apipolicygateway_proxy_HeaderFields) hisR ?_
  intro p e s m args below meth c s₁ Bd hml0 hP hK
  obtain ⟨rfl, hZ, hh⟩ := hP
  have hx := Bd.exec
  have hby := Bd.bytes
  have hml : c.maxLocals = 4 := hml0
  have hown : s.vm.findClass "com/example/api_policy_gateway/apipolicygateway/proxy/HeaderFields" = some m.cls := findClass_of_methodNamed Bd.named
  have hnm := (name_of_methodNamed Bd.named Bd.method).1
  have X0 : Stand p l e ({ frames := 6, cells := 0, slots := 0, locals := 110 } : Room) s m #[(.ref a1), (.int (4 : Int32)), (.int (2 : Int32))] below meth c s₁ [] 0 0 := Stand.of_body Bd
  have e0 : s₁.heap = h0 := by rw [← hh, Bd.state]; rfl
  have N0 := Fr.nil n0
  refine Goes.out (l := l) (c := c) (R := ({ frames := 6, cells := 0, slots := 0, locals := 110 } : Room)) (Q := Q_rm_ad42 Z a1 cs c0 c1 c2 c3 vf h0 n0) Bd.notSynchronized ?_
  refine Goes.cast (g2 := mkF m 0 #[rv a1, iv 4, iv 2, .unset] []) (by first | (simp [entryFrame, mkF, argsToLocals, Value.category]; done) | rfl) ?_
  have K0 : Keep h0 h0 [] := Keep.refl h0 _
  have hws : ∀ x ∈ ([] : List Addr), n0 ≤ x := all0
  refine Goes.step (T2 := s₁) (g2 := (mkF m 1 #[rv a1, iv 4, iv 2, .unset] [(.int (4 : Int32))])) (fun _ hr => XS.iloadN X0.here hx rfl (hb hby d18_0) rfl  hr) ?_
  refine Goes.step (T2 := s₁) (g2 := (mkF m 2 #[rv a1, iv 4, iv 2, iv 4] [])) (fun _ hr => XS.istoreN X0.here hx rfl (hb hby d18_1) rfl (l' := #[rv a1, iv 4, iv 2, iv 4]) rfl hr) ?_
  refine Goes.step (T2 := s₁) (g2 := (mkF m 3 #[rv a1, iv 4, iv 2, iv 4] [(.int (4 : Int32))])) (fun _ hr => XS.iloadN X0.here hx rfl (hb hby d18_2) rfl  hr) ?_
  refine Goes.step (T2 := s₁) (g2 := (mkF m 4 #[rv a1, iv 4, iv 2, iv 4] [(.int (2 : Int32)), (.int (4 : Int32))])) (fun _ hr => XS.iloadN X0.here hx rfl (hb hby d18_3) rfl  hr) ?_
  refine Goes.step (T2 := s₁) (g2 := (mkF m 35 #[rv a1, iv 4, iv 2, iv 4] [])) (fun _ hr => XS.icmpYes X0.here hx rfl (pc0 := 4) (pc' := 35) rfl (hb hby d18_4) rfl (flt (by decide : ¬ ((4 : Int32) < (2 : Int32)))).2.1 (by decide) (by decide) hr) ?_
  refine Goes.step (T2 := s₁) (g2 := (mkF m 36 #[rv a1, iv 4, iv 2, iv 4] [(.int (1 : Int32))])) (fun _ hr => XS.iconst X0.here hx rfl (hb hby d18_35) hr) ?_
  exact Goes.ret (v := some (.int (1 : Int32))) X0 (by decide) (by decide) (fun h => by rw [Bd.returns] at h; cases h) ⟨by rw [show allD [] = (1 : Int32) from rfl], N0, e0⟩ (fun fs hr => retN X0 hx (t := .boolean) Bd.returns (by simp) (hb hby d18_36) hr)
def Q_rm_ad43 (Z : State) (a1 : Addr) (cs : Int32) (c0 : Int32) (c1 : Int32) (c2 : Int32) (c3 : Int32) (vf : Value) (h0 : Heap) (n0 : Nat) (v : Option Value) (h : Heap) (L : List Loc) : Prop := v = some (.int (allD [])) ∧ Fr n0 L ∧ h = h0
set_option maxRecDepth 65536 in
set_option maxHeartbeats 40000000 in
theorem rm_ad43 (l : Launch) (Z : State) (a0 : Array Value) (hw : ∀ d ∈ tables_1, d.before a0 Z = true) (ws : List Jvm.Cond) (a1 : Addr) (cs : Int32) (c0 : Int32) (c1 : Int32) (c2 : Int32) (c3 : Int32) (vf : Value) (h0 : Heap) (n0 : Nat) (Z0 : n0 ≤ h0.size) (O0 : Old Z n0 h0) (E_a1 : Exa Z h0 a1 "java/lang/String") (S_String_COMPACT_STRINGS_old : Sta Z Z.heap "java/lang/String" "COMPACT_STRINGS" "Z" (.int cs)) (S_Preconditions_SIOOBE_FORMATTER_old : Sta Z Z.heap "jdk/internal/util/Preconditions" "SIOOBE_FORMATTER" "Ljava/util/function/BiFunction;" vf) (S_StringUTF16__assertionsDisabled_old : Sta Z Z.heap "java/lang/StringUTF16" "$assertionsDisabled" "Z" (.int (1 : Int32))) (S_StringUTF16_HI_BYTE_SHIFT_old : Sta Z Z.heap "java/lang/StringUTF16" "HI_BYTE_SHIFT" "I" (.int (0 : Int32))) (S_StringUTF16_LO_BYTE_SHIFT_old : Sta Z Z.heap "java/lang/StringUTF16" "LO_BYTE_SHIFT" "I" (.int (8 : Int32))) (hcs : ¬ (cs = (0 : Int32))) (hvf : vf.isRef = true) (hb0 : B16 c0) (hb1 : B16 c1) (hb2 : B16 c2) (hb3 : B16 c3) (S0 : Sch Z h0 a1 c0 c1 c2 c3) :
    MetFree l Y18 (head1 (Jvm.Cond.code Y18 prog_32_method_41_code 4 (some .boolean) :: ws) ({ frames := 6, cells := 0, slots := 0, locals := 110 } : Room)) (fun a U => a = #[(.ref a1), (.int (4 : Int32)), (.int (3 : Int32))] ∧ Z.Warmed39 U.vm ∧ U.heap = h0) (fun _ _ _ _ _ => True) (fun _ U o U' => ∃ v L, o = .returned v ∧ Q_rm_ad43 Z a1 cs c0 c1 c2 c3 vf h0 n0 v U'.heap L ∧ FrameEnd U o U' L ({ frames := 6, cells := 0, slots := 0, locals := 110 } : Room).cells ({ frames := 6, cells := 0, slots := 0, locals := 110 } : Room).slots) := by
  refine MetFree.of_bodySF (plainFor_of_name pn_com_example_api_policy_gateway_apipolicygateway_proxy_HeaderFields) hisR ?_
  intro p e s m args below meth c s₁ Bd hml0 hP hK
  obtain ⟨rfl, hZ, hh⟩ := hP
  have hx := Bd.exec
  have hby := Bd.bytes
  have hml : c.maxLocals = 4 := hml0
  have hown : s.vm.findClass "com/example/api_policy_gateway/apipolicygateway/proxy/HeaderFields" = some m.cls := findClass_of_methodNamed Bd.named
  have hnm := (name_of_methodNamed Bd.named Bd.method).1
  have X0 : Stand p l e ({ frames := 6, cells := 0, slots := 0, locals := 110 } : Room) s m #[(.ref a1), (.int (4 : Int32)), (.int (3 : Int32))] below meth c s₁ [] 0 0 := Stand.of_body Bd
  have e0 : s₁.heap = h0 := by rw [← hh, Bd.state]; rfl
  have N0 := Fr.nil n0
  refine Goes.out (l := l) (c := c) (R := ({ frames := 6, cells := 0, slots := 0, locals := 110 } : Room)) (Q := Q_rm_ad43 Z a1 cs c0 c1 c2 c3 vf h0 n0) Bd.notSynchronized ?_
  refine Goes.cast (g2 := mkF m 0 #[rv a1, iv 4, iv 3, .unset] []) (by first | (simp [entryFrame, mkF, argsToLocals, Value.category]; done) | rfl) ?_
  have K0 : Keep h0 h0 [] := Keep.refl h0 _
  have hws : ∀ x ∈ ([] : List Addr), n0 ≤ x := all0
  refine Goes.step (T2 := s₁) (g2 := (mkF m 1 #[rv a1, iv 4, iv 3, .unset] [(.int (4 : Int32))])) (fun _ hr => XS.iloadN X0.here hx rfl (hb hby d18_0) rfl  hr) ?_
  refine Goes.step (T2 := s₁) (g2 := (mkF m 2 #[rv a1, iv 4, iv 3, iv 4] [])) (fun _ hr => XS.istoreN X0.here hx rfl (hb hby d18_1) rfl (l' := #[rv a1, iv 4, iv 3, iv 4]) rfl hr) ?_
  refine Goes.step (T2 := s₁) (g2 := (mkF m 3 #[rv a1, iv 4, iv 3, iv 4] [(.int (4 : Int32))])) (fun _ hr => XS.iloadN X0.here hx rfl (hb hby d18_2) rfl  hr) ?_
  refine Goes.step (T2 := s₁) (g2 := (mkF m 4 #[rv a1, iv 4, iv 3, iv 4] [(.int (3 : Int32)), (.int (4 : Int32))])) (fun _ hr => XS.iloadN X0.here hx rfl (hb hby d18_3) rfl  hr) ?_
  refine Goes.step (T2 := s₁) (g2 := (mkF m 35 #[rv a1, iv 4, iv 3, iv 4] [])) (fun _ hr => XS.icmpYes X0.here hx rfl (pc0 := 4) (pc' := 35) rfl (hb hby d18_4) rfl (flt (by decide : ¬ ((4 : Int32) < (3 : Int32)))).2.1 (by decide) (by decide) hr) ?_
  refine Goes.step (T2 := s₁) (g2 := (mkF m 36 #[rv a1, iv 4, iv 3, iv 4] [(.int (1 : Int32))])) (fun _ hr => XS.iconst X0.here hx rfl (hb hby d18_35) hr) ?_
  exact Goes.ret (v := some (.int (1 : Int32))) X0 (by decide) (by decide) (fun h => by rw [Bd.returns] at h; cases h) ⟨by rw [show allD [] = (1 : Int32) from rfl], N0, e0⟩ (fun fs hr => retN X0 hx (t := .boolean) Bd.returns (by simp) (hb hby d18_36) hr)
def Q_rm_ad44 (Z : State) (a1 : Addr) (cs : Int32) (c0 : Int32) (c1 : Int32) (c2 : Int32) (c3 : Int32) (vf : Value) (h0 : Heap) (n0 : Nat) (v : Option Value) (h : Heap) (L : List Loc) : Prop := v = some (.int (allD [])) ∧ Fr n0 L ∧ h = h0
set_option maxRecDepth 65536 in
set_option maxHeartbeats 40000000 in
theorem rm_ad44 (l : Launch) (Z : State) (a0 : Array Value) (hw : ∀ d ∈ tables_1, d.before a0 Z = true) (ws : List Jvm.Cond) (a1 : Addr) (cs : Int32) (c0 : Int32) (c1 : Int32) (c2 : Int32) (c3 : Int32) (vf : Value) (h0 : Heap) (n0 : Nat) (Z0 : n0 ≤ h0.size) (O0 : Old Z n0 h0) (E_a1 : Exa Z h0 a1 "java/lang/String") (S_String_COMPACT_STRINGS_old : Sta Z Z.heap "java/lang/String" "COMPACT_STRINGS" "Z" (.int cs)) (S_Preconditions_SIOOBE_FORMATTER_old : Sta Z Z.heap "jdk/internal/util/Preconditions" "SIOOBE_FORMATTER" "Ljava/util/function/BiFunction;" vf) (S_StringUTF16__assertionsDisabled_old : Sta Z Z.heap "java/lang/StringUTF16" "$assertionsDisabled" "Z" (.int (1 : Int32))) (S_StringUTF16_HI_BYTE_SHIFT_old : Sta Z Z.heap "java/lang/StringUTF16" "HI_BYTE_SHIFT" "I" (.int (0 : Int32))) (S_StringUTF16_LO_BYTE_SHIFT_old : Sta Z Z.heap "java/lang/StringUTF16" "LO_BYTE_SHIFT" "I" (.int (8 : Int32))) (hcs : ¬ (cs = (0 : Int32))) (hvf : vf.isRef = true) (hb0 : B16 c0) (hb1 : B16 c1) (hb2 : B16 c2) (hb3 : B16 c3) (S0 : Sch Z h0 a1 c0 c1 c2 c3) :
    MetFree l Y18 (head1 (Jvm.Cond.code Y18 prog_32_method_41_code 4 (some .boolean) :: ws) ({ frames := 6, cells := 0, slots := 0, locals := 110 } : Room)) (fun a U => a = #[(.ref a1), (.int (4 : Int32)), (.int (4 : Int32))] ∧ Z.Warmed39 U.vm ∧ U.heap = h0) (fun _ _ _ _ _ => True) (fun _ U o U' => ∃ v L, o = .returned v ∧ Q_rm_ad44 Z a1 cs c0 c1 c2 c3 vf h0 n0 v U'.heap L ∧ FrameEnd U o U' L ({ frames := 6, cells := 0, slots := 0, locals := 110 } : Room).cells ({ frames := 6, cells := 0, slots := 0, locals := 110 } : Room).slots) := by
  refine MetFree.of_bodySF (plainFor_of_name pn_com_example_api_policy_gateway_apipolicygateway_proxy_HeaderFields) hisR ?_
  intro p e s m args below meth c s₁ Bd hml0 hP hK
  obtain ⟨rfl, hZ, hh⟩ := hP
  have hx := Bd.exec
  have hby := Bd.bytes
  have hml : c.maxLocals = 4 := hml0
  have hown : s.vm.findClass "com/example/api_policy_gateway/apipolicygateway/proxy/HeaderFields" = some m.cls := findClass_of_methodNamed Bd.named
  have hnm := (name_of_methodNamed Bd.named Bd.method).1
  have X0 : Stand p l e ({ frames := 6, cells := 0, slots := 0, locals := 110 } : Room) s m #[(.ref a1), (.int (4 : Int32)), (.int (4 : Int32))] below meth c s₁ [] 0 0 := Stand.of_body Bd
  have e0 : s₁.heap = h0 := by rw [← hh, Bd.state]; rfl
  have N0 := Fr.nil n0
  refine Goes.out (l := l) (c := c) (R := ({ frames := 6, cells := 0, slots := 0, locals := 110 } : Room)) (Q := Q_rm_ad44 Z a1 cs c0 c1 c2 c3 vf h0 n0) Bd.notSynchronized ?_
  refine Goes.cast (g2 := mkF m 0 #[rv a1, iv 4, iv 4, .unset] []) (by first | (simp [entryFrame, mkF, argsToLocals, Value.category]; done) | rfl) ?_
  have K0 : Keep h0 h0 [] := Keep.refl h0 _
  have hws : ∀ x ∈ ([] : List Addr), n0 ≤ x := all0
  refine Goes.step (T2 := s₁) (g2 := (mkF m 1 #[rv a1, iv 4, iv 4, .unset] [(.int (4 : Int32))])) (fun _ hr => XS.iloadN X0.here hx rfl (hb hby d18_0) rfl  hr) ?_
  refine Goes.step (T2 := s₁) (g2 := (mkF m 2 #[rv a1, iv 4, iv 4, iv 4] [])) (fun _ hr => XS.istoreN X0.here hx rfl (hb hby d18_1) rfl (l' := #[rv a1, iv 4, iv 4, iv 4]) rfl hr) ?_
  refine Goes.step (T2 := s₁) (g2 := (mkF m 3 #[rv a1, iv 4, iv 4, iv 4] [(.int (4 : Int32))])) (fun _ hr => XS.iloadN X0.here hx rfl (hb hby d18_2) rfl  hr) ?_
  refine Goes.step (T2 := s₁) (g2 := (mkF m 4 #[rv a1, iv 4, iv 4, iv 4] [(.int (4 : Int32)), (.int (4 : Int32))])) (fun _ hr => XS.iloadN X0.here hx rfl (hb hby d18_3) rfl  hr) ?_
  refine Goes.step (T2 := s₁) (g2 := (mkF m 35 #[rv a1, iv 4, iv 4, iv 4] [])) (fun _ hr => XS.icmpYes X0.here hx rfl (pc0 := 4) (pc' := 35) rfl (hb hby d18_4) rfl (flt (by decide : ¬ ((4 : Int32) < (4 : Int32)))).2.1 (by decide) (by decide) hr) ?_
  refine Goes.step (T2 := s₁) (g2 := (mkF m 36 #[rv a1, iv 4, iv 4, iv 4] [(.int (1 : Int32))])) (fun _ hr => XS.iconst X0.here hx rfl (hb hby d18_35) hr) ?_
  exact Goes.ret (v := some (.int (1 : Int32))) X0 (by decide) (by decide) (fun h => by rw [Bd.returns] at h; cases h) ⟨by rw [show allD [] = (1 : Int32) from rfl], N0, e0⟩ (fun fs hr => retN X0 hx (t := .boolean) Bd.returns (by simp) (hb hby d18_36) hr)
def adv (c0 c1 c2 c3 f t : Int32) : Int32 := allD (([c0, c1, c2, c3].take t.toNatClampNeg).drop f.toNatClampNeg)
def okv (c i f t : Int32) : Int32 := if i < f ∨ ¬ (i < t) then (1 : Int32) else dg c
def F5 (x : Int32) : Prop := x = (0 : Int32) ∨ x = (1 : Int32) ∨ x = (2 : Int32) ∨ x = (3 : Int32) ∨ x = (4 : Int32)
theorem dg_cases (c : Int32) : dg c = (0 : Int32) ∨ dg c = (1 : Int32) := by unfold dg; split <;> simp
theorem own_adv {c0 c1 c2 c3 f t : Int32} (hf : F5 f) (ht : F5 t) : adv c0 c1 c2 c3 f t = if okv c0 (0 : Int32) f t = (0 : Int32) then (0 : Int32) else if okv c1 (1 : Int32) f t = (0 : Int32) then (0 : Int32) else if okv c2 (2 : Int32) f t = (0 : Int32) then (0 : Int32) else if okv c3 (3 : Int32) f t = (0 : Int32) then (0 : Int32) else (1 : Int32) := by
  rcases dg_cases c0 with h0 | h0 <;> rcases dg_cases c1 with h1 | h1 <;> rcases dg_cases c2 with h2 | h2 <;> rcases dg_cases c3 with h3 | h3 <;> rcases hf with rfl | rfl | rfl | rfl | rfl <;> rcases ht with rfl | rfl | rfl | rfl | rfl <;> simp [adv, okv, allD, h0, h1, h2, h3, Int32.lt_iff_toInt_lt]
def Q_rm_ad (Z : State) (a1 : Addr) (cs : Int32) (c0 : Int32) (c1 : Int32) (c2 : Int32) (c3 : Int32) (vf : Value) (f : Int32) (t : Int32) (h0 : Heap) (n0 : Nat) (v : Option Value) (h : Heap) (L : List Loc) : Prop := v = some (.int (adv c0 c1 c2 c3 f t)) ∧ Fr n0 L ∧ h = h0
theorem rm_ad (l : Launch) (Z : State) (a0 : Array Value) (hw : ∀ d ∈ tables_1, d.before a0 Z = true) (ws : List Jvm.Cond) (a1 : Addr) (cs : Int32) (c0 : Int32) (c1 : Int32) (c2 : Int32) (c3 : Int32) (vf : Value) (f : Int32) (t : Int32) (h0 : Heap) (n0 : Nat) (Z0 : n0 ≤ h0.size) (O0 : Old Z n0 h0) (E_a1 : Exa Z h0 a1 "java/lang/String") (S_String_COMPACT_STRINGS_old : Sta Z Z.heap "java/lang/String" "COMPACT_STRINGS" "Z" (.int cs)) (S_Preconditions_SIOOBE_FORMATTER_old : Sta Z Z.heap "jdk/internal/util/Preconditions" "SIOOBE_FORMATTER" "Ljava/util/function/BiFunction;" vf) (S_StringUTF16__assertionsDisabled_old : Sta Z Z.heap "java/lang/StringUTF16" "$assertionsDisabled" "Z" (.int (1 : Int32))) (S_StringUTF16_HI_BYTE_SHIFT_old : Sta Z Z.heap "java/lang/StringUTF16" "HI_BYTE_SHIFT" "I" (.int (0 : Int32))) (S_StringUTF16_LO_BYTE_SHIFT_old : Sta Z Z.heap "java/lang/StringUTF16" "LO_BYTE_SHIFT" "I" (.int (8 : Int32))) (hcs : ¬ (cs = (0 : Int32))) (hvf : vf.isRef = true) (hb0 : B16 c0) (hb1 : B16 c1) (hb2 : B16 c2) (hb3 : B16 c3) (S0 : Sch Z h0 a1 c0 c1 c2 c3) (hf : F5 f) (ht : F5 t) :
    MetFree l (⟨"com/example/api_policy_gateway/apipolicygateway/proxy/HeaderFields", "allDigits", "(Ljava/lang/String;II)Z"⟩ : MethodName) (head1 (Jvm.Cond.code (⟨"com/example/api_policy_gateway/apipolicygateway/proxy/HeaderFields", "allDigits", "(Ljava/lang/String;II)Z"⟩ : MethodName) prog_32_method_41_code 4 (some .boolean) :: ws) ({ frames := 6, cells := 0, slots := 0, locals := 110 } : Room)) (fun a U => a = #[(.ref a1), (.int f), (.int t)] ∧ Z.Warmed39 U.vm ∧ U.heap = h0) (fun _ _ _ _ _ => True) (fun _ U o U' => ∃ v L, o = .returned v ∧ Q_rm_ad Z a1 cs c0 c1 c2 c3 vf f t h0 n0 v U'.heap L ∧ FrameEnd U o U' L ({ frames := 6, cells := 0, slots := 0, locals := 110 } : Room).cells ({ frames := 6, cells := 0, slots := 0, locals := 110 } : Room).slots) := by
  rcases hf with rfl | rfl | rfl | rfl | rfl <;> rcases ht with rfl | rfl | rfl | rfl | rfl
  · exact rm_ad00 l Z a0 hw ws a1 cs c0 c1 c2 c3 vf h0 n0 Z0 O0 E_a1 S_String_COMPACT_STRINGS_old S_Preconditions_SIOOBE_FORMATTER_old S_StringUTF16__assertionsDisabled_old S_StringUTF16_HI_BYTE_SHIFT_old S_StringUTF16_LO_BYTE_SHIFT_old hcs hvf hb0 hb1 hb2 hb3 S0
  · exact rm_ad01 l Z a0 hw ws a1 cs c0 c1 c2 c3 vf h0 n0 Z0 O0 E_a1 S_String_COMPACT_STRINGS_old S_Preconditions_SIOOBE_FORMATTER_old S_StringUTF16__assertionsDisabled_old S_StringUTF16_HI_BYTE_SHIFT_old S_StringUTF16_LO_BYTE_SHIFT_old hcs hvf hb0 hb1 hb2 hb3 S0
  · exact rm_ad02 l Z a0 hw ws a1 cs c0 c1 c2 c3 vf h0 n0 Z0 O0 E_a1 S_String_COMPACT_STRINGS_old S_Preconditions_SIOOBE_FORMATTER_old S_StringUTF16__assertionsDisabled_old S_StringUTF16_HI_BYTE_SHIFT_old S_StringUTF16_LO_BYTE_SHIFT_old hcs hvf hb0 hb1 hb2 hb3 S0
  · exact rm_ad03 l Z a0 hw ws a1 cs c0 c1 c2 c3 vf h0 n0 Z0 O0 E_a1 S_String_COMPACT_STRINGS_old S_Preconditions_SIOOBE_FORMATTER_old S_StringUTF16__assertionsDisabled_old S_StringUTF16_HI_BYTE_SHIFT_old S_StringUTF16_LO_BYTE_SHIFT_old hcs hvf hb0 hb1 hb2 hb3 S0
  · exact rm_ad04 l Z a0 hw ws a1 cs c0 c1 c2 c3 vf h0 n0 Z0 O0 E_a1 S_String_COMPACT_STRINGS_old S_Preconditions_SIOOBE_FORMATTER_old S_StringUTF16__assertionsDisabled_old S_StringUTF16_HI_BYTE_SHIFT_old S_StringUTF16_LO_BYTE_SHIFT_old hcs hvf hb0 hb1 hb2 hb3 S0
  · exact rm_ad10 l Z a0 hw ws a1 cs c0 c1 c2 c3 vf h0 n0 Z0 O0 E_a1 S_String_COMPACT_STRINGS_old S_Preconditions_SIOOBE_FORMATTER_old S_StringUTF16__assertionsDisabled_old S_StringUTF16_HI_BYTE_SHIFT_old S_StringUTF16_LO_BYTE_SHIFT_old hcs hvf hb0 hb1 hb2 hb3 S0
  · exact rm_ad11 l Z a0 hw ws a1 cs c0 c1 c2 c3 vf h0 n0 Z0 O0 E_a1 S_String_COMPACT_STRINGS_old S_Preconditions_SIOOBE_FORMATTER_old S_StringUTF16__assertionsDisabled_old S_StringUTF16_HI_BYTE_SHIFT_old S_StringUTF16_LO_BYTE_SHIFT_old hcs hvf hb0 hb1 hb2 hb3 S0
  · exact rm_ad12 l Z a0 hw ws a1 cs c0 c1 c2 c3 vf h0 n0 Z0 O0 E_a1 S_String_COMPACT_STRINGS_old S_Preconditions_SIOOBE_FORMATTER_old S_StringUTF16__assertionsDisabled_old S_StringUTF16_HI_BYTE_SHIFT_old S_StringUTF16_LO_BYTE_SHIFT_old hcs hvf hb0 hb1 hb2 hb3 S0
  · exact rm_ad13 l Z a0 hw ws a1 cs c0 c1 c2 c3 vf h0 n0 Z0 O0 E_a1 S_String_COMPACT_STRINGS_old S_Preconditions_SIOOBE_FORMATTER_old S_StringUTF16__assertionsDisabled_old S_StringUTF16_HI_BYTE_SHIFT_old S_StringUTF16_LO_BYTE_SHIFT_old hcs hvf hb0 hb1 hb2 hb3 S0
  · exact rm_ad14 l Z a0 hw ws a1 cs c0 c1 c2 c3 vf h0 n0 Z0 O0 E_a1 S_String_COMPACT_STRINGS_old S_Preconditions_SIOOBE_FORMATTER_old S_StringUTF16__assertionsDisabled_old S_StringUTF16_HI_BYTE_SHIFT_old S_StringUTF16_LO_BYTE_SHIFT_old hcs hvf hb0 hb1 hb2 hb3 S0
  · exact rm_ad20 l Z a0 hw ws a1 cs c0 c1 c2 c3 vf h0 n0 Z0 O0 E_a1 S_String_COMPACT_STRINGS_old S_Preconditions_SIOOBE_FORMATTER_old S_StringUTF16__assertionsDisabled_old S_StringUTF16_HI_BYTE_SHIFT_old S_StringUTF16_LO_BYTE_SHIFT_old hcs hvf hb0 hb1 hb2 hb3 S0
  · exact rm_ad21 l Z a0 hw ws a1 cs c0 c1 c2 c3 vf h0 n0 Z0 O0 E_a1 S_String_COMPACT_STRINGS_old S_Preconditions_SIOOBE_FORMATTER_old S_StringUTF16__assertionsDisabled_old S_StringUTF16_HI_BYTE_SHIFT_old S_StringUTF16_LO_BYTE_SHIFT_old hcs hvf hb0 hb1 hb2 hb3 S0
  · exact rm_ad22 l Z a0 hw ws a1 cs c0 c1 c2 c3 vf h0 n0 Z0 O0 E_a1 S_String_COMPACT_STRINGS_old S_Preconditions_SIOOBE_FORMATTER_old S_StringUTF16__assertionsDisabled_old S_StringUTF16_HI_BYTE_SHIFT_old S_StringUTF16_LO_BYTE_SHIFT_old hcs hvf hb0 hb1 hb2 hb3 S0
  · exact rm_ad23 l Z a0 hw ws a1 cs c0 c1 c2 c3 vf h0 n0 Z0 O0 E_a1 S_String_COMPACT_STRINGS_old S_Preconditions_SIOOBE_FORMATTER_old S_StringUTF16__assertionsDisabled_old S_StringUTF16_HI_BYTE_SHIFT_old S_StringUTF16_LO_BYTE_SHIFT_old hcs hvf hb0 hb1 hb2 hb3 S0
  · exact rm_ad24 l Z a0 hw ws a1 cs c0 c1 c2 c3 vf h0 n0 Z0 O0 E_a1 S_String_COMPACT_STRINGS_old S_Preconditions_SIOOBE_FORMATTER_old S_StringUTF16__assertionsDisabled_old S_StringUTF16_HI_BYTE_SHIFT_old S_StringUTF16_LO_BYTE_SHIFT_old hcs hvf hb0 hb1 hb2 hb3 S0
  · exact rm_ad30 l Z a0 hw ws a1 cs c0 c1 c2 c3 vf h0 n0 Z0 O0 E_a1 S_String_COMPACT_STRINGS_old S_Preconditions_SIOOBE_FORMATTER_old S_StringUTF16__assertionsDisabled_old S_StringUTF16_HI_BYTE_SHIFT_old S_StringUTF16_LO_BYTE_SHIFT_old hcs hvf hb0 hb1 hb2 hb3 S0
  · exact rm_ad31 l Z a0 hw ws a1 cs c0 c1 c2 c3 vf h0 n0 Z0 O0 E_a1 S_String_COMPACT_STRINGS_old S_Preconditions_SIOOBE_FORMATTER_old S_StringUTF16__assertionsDisabled_old S_StringUTF16_HI_BYTE_SHIFT_old S_StringUTF16_LO_BYTE_SHIFT_old hcs hvf hb0 hb1 hb2 hb3 S0
  · exact rm_ad32 l Z a0 hw ws a1 cs c0 c1 c2 c3 vf h0 n0 Z0 O0 E_a1 S_String_COMPACT_STRINGS_old S_Preconditions_SIOOBE_FORMATTER_old S_StringUTF16__assertionsDisabled_old S_StringUTF16_HI_BYTE_SHIFT_old S_StringUTF16_LO_BYTE_SHIFT_old hcs hvf hb0 hb1 hb2 hb3 S0
  · exact rm_ad33 l Z a0 hw ws a1 cs c0 c1 c2 c3 vf h0 n0 Z0 O0 E_a1 S_String_COMPACT_STRINGS_old S_Preconditions_SIOOBE_FORMATTER_old S_StringUTF16__assertionsDisabled_old S_StringUTF16_HI_BYTE_SHIFT_old S_StringUTF16_LO_BYTE_SHIFT_old hcs hvf hb0 hb1 hb2 hb3 S0
  · exact rm_ad34 l Z a0 hw ws a1 cs c0 c1 c2 c3 vf h0 n0 Z0 O0 E_a1 S_String_COMPACT_STRINGS_old S_Preconditions_SIOOBE_FORMATTER_old S_StringUTF16__assertionsDisabled_old S_StringUTF16_HI_BYTE_SHIFT_old S_StringUTF16_LO_BYTE_SHIFT_old hcs hvf hb0 hb1 hb2 hb3 S0
  · exact rm_ad40 l Z a0 hw ws a1 cs c0 c1 c2 c3 vf h0 n0 Z0 O0 E_a1 S_String_COMPACT_STRINGS_old S_Preconditions_SIOOBE_FORMATTER_old S_StringUTF16__assertionsDisabled_old S_StringUTF16_HI_BYTE_SHIFT_old S_StringUTF16_LO_BYTE_SHIFT_old hcs hvf hb0 hb1 hb2 hb3 S0
  · exact rm_ad41 l Z a0 hw ws a1 cs c0 c1 c2 c3 vf h0 n0 Z0 O0 E_a1 S_String_COMPACT_STRINGS_old S_Preconditions_SIOOBE_FORMATTER_old S_StringUTF16__assertionsDisabled_old S_StringUTF16_HI_BYTE_SHIFT_old S_StringUTF16_LO_BYTE_SHIFT_old hcs hvf hb0 hb1 hb2 hb3 S0
  · exact rm_ad42 l Z a0 hw ws a1 cs c0 c1 c2 c3 vf h0 n0 Z0 O0 E_a1 S_String_COMPACT_STRINGS_old S_Preconditions_SIOOBE_FORMATTER_old S_StringUTF16__assertionsDisabled_old S_StringUTF16_HI_BYTE_SHIFT_old S_StringUTF16_LO_BYTE_SHIFT_old hcs hvf hb0 hb1 hb2 hb3 S0
  · exact rm_ad43 l Z a0 hw ws a1 cs c0 c1 c2 c3 vf h0 n0 Z0 O0 E_a1 S_String_COMPACT_STRINGS_old S_Preconditions_SIOOBE_FORMATTER_old S_StringUTF16__assertionsDisabled_old S_StringUTF16_HI_BYTE_SHIFT_old S_StringUTF16_LO_BYTE_SHIFT_old hcs hvf hb0 hb1 hb2 hb3 S0
  · exact rm_ad44 l Z a0 hw ws a1 cs c0 c1 c2 c3 vf h0 n0 Z0 O0 E_a1 S_String_COMPACT_STRINGS_old S_Preconditions_SIOOBE_FORMATTER_old S_StringUTF16__assertionsDisabled_old S_StringUTF16_HI_BYTE_SHIFT_old S_StringUTF16_LO_BYTE_SHIFT_old hcs hvf hb0 hb1 hb2 hb3 S0
theorem d19_0 : decode method_3_code 0 = .ok (.iload_n 1, 1) := by decide +kernel
theorem d19_1 : decode method_3_code 1 = .ok (.iload_n 2, 1) := by decide +kernel
theorem d19_2 : decode method_3_code 2 = .ok (.if_icmp .lt 8, 3) := by decide +kernel
theorem d19_5 : decode method_3_code 5 = .ok (.iload_n 1, 1) := by decide +kernel
theorem d19_6 : decode method_3_code 6 = .ok (.iload_n 3, 1) := by decide +kernel
theorem d19_7 : decode method_3_code 7 = .ok (.if_icmp .lt 5, 3) := by decide +kernel
theorem d19_10 : decode method_3_code 10 = .ok (.iconst 1, 1) := by decide +kernel
theorem d19_11 : decode method_3_code 11 = .ok (.ireturn, 1) := by decide +kernel
theorem d19_12 : decode method_3_code 12 = .ok (.iload_n 0, 1) := by decide +kernel
theorem d19_13 : decode method_3_code 13 = .ok (.bipush 48, 2) := by decide +kernel
theorem d19_15 : decode method_3_code 15 = .ok (.if_icmp .lt 13, 3) := by decide +kernel
theorem d19_18 : decode method_3_code 18 = .ok (.iload_n 0, 1) := by decide +kernel
theorem d19_19 : decode method_3_code 19 = .ok (.bipush 57, 2) := by decide +kernel
theorem d19_21 : decode method_3_code 21 = .ok (.if_icmp .gt 7, 3) := by decide +kernel
theorem d19_24 : decode method_3_code 24 = .ok (.iconst 1, 1) := by decide +kernel
theorem d19_25 : decode method_3_code 25 = .ok (.goto 4, 3) := by decide +kernel
theorem d19_28 : decode method_3_code 28 = .ok (.iconst 0, 1) := by decide +kernel
theorem d19_29 : decode method_3_code 29 = .ok (.ireturn, 1) := by decide +kernel
theorem pn_com_example_api_policy_gateway_apipolicygateway_proxy_HeaderFieldsAllDigitsPinLaw : plainName "com/example/api_policy_gateway/apipolicygateway/proxy/HeaderFieldsAllDigitsPinLaw" = true := by first | (simp [plainName, overriddenIn]; done) | decide +kernel
def Q_rm_ok (Z : State) (c0 : Int32) (i : Int32) (f : Int32) (t : Int32) (h0 : Heap) (n0 : Nat) (v : Option Value) (h : Heap) (L : List Loc) : Prop := v = some (.int (okv c0 i f t)) ∧ Fr n0 L ∧ h = h0
set_option maxRecDepth 65536 in
set_option maxHeartbeats 40000000 in
theorem rm_ok (l : Launch) (Z : State) (a0 : Array Value) (hw : ∀ d ∈ tables_1, d.before a0 Z = true) (ws : List Jvm.Cond) (c0 : Int32) (i : Int32) (f : Int32) (t : Int32) (h0 : Heap) (n0 : Nat) (Z0 : n0 ≤ h0.size) (O0 : Old Z n0 h0) :
    MetFree l Y19 (head1 (Jvm.Cond.code Y19 method_3_code 4 (some .boolean) :: ws) ({ frames := 0, cells := 0, slots := 0, locals := 0 } : Room)) (fun a U => a = #[(.int c0), (.int i), (.int f), (.int t)] ∧ Z.Warmed39 U.vm ∧ U.heap = h0) (fun _ _ _ _ _ => True) (fun _ U o U' => ∃ v L, o = .returned v ∧ Q_rm_ok Z c0 i f t h0 n0 v U'.heap L ∧ FrameEnd U o U' L ({ frames := 0, cells := 0, slots := 0, locals := 0 } : Room).cells ({ frames := 0, cells := 0, slots := 0, locals := 0 } : Room).slots) := by
  refine MetFree.of_bodySF (plainFor_of_name pn_com_example_api_policy_gateway_apipolicygateway_proxy_HeaderFieldsAllDigitsPinLaw) hisR ?_
  intro p e s m args below meth c s₁ Bd hml0 hP hK
  obtain ⟨rfl, hZ, hh⟩ := hP
  have hx := Bd.exec
  have hby := Bd.bytes
  have hml : c.maxLocals = 4 := hml0
  have hown : s.vm.findClass "com/example/api_policy_gateway/apipolicygateway/proxy/HeaderFieldsAllDigitsPinLaw" = some m.cls := findClass_of_methodNamed Bd.named
  have hnm := (name_of_methodNamed Bd.named Bd.method).1
  have X0 : Stand p l e ({ frames := 0, cells := 0, slots := 0, locals := 0 } : Room) s m #[(.int c0), (.int i), (.int f), (.int t)] below meth c s₁ [] 0 0 := Stand.of_body Bd
  have e0 : s₁.heap = h0 := by rw [← hh, Bd.state]; rfl
  have N0 := Fr.nil n0
  refine Goes.out (l := l) (c := c) (R := ({ frames := 0, cells := 0, slots := 0, locals := 0 } : Room)) (Q := Q_rm_ok Z c0 i f t h0 n0) Bd.notSynchronized ?_
  refine Goes.cast (g2 := mkF m 0 #[iv c0, iv i, iv f, iv t] []) (by first | (simp [entryFrame, mkF, argsToLocals, Value.category]; done) | rfl) ?_
  have K0 : Keep h0 h0 [] := Keep.refl h0 _
  have hws : ∀ x ∈ ([] : List Addr), n0 ≤ x := all0
  refine Goes.step (T2 := s₁) (g2 := (mkF m 1 #[iv c0, iv i, iv f, iv t] [(.int i)])) (fun _ hr => XS.iloadN X0.here hx rfl (hb hby d19_0) rfl  hr) ?_
  refine Goes.step (T2 := s₁) (g2 := (mkF m 2 #[iv c0, iv i, iv f, iv t] [(.int f), (.int i)])) (fun _ hr => XS.iloadN X0.here hx rfl (hb hby d19_1) rfl  hr) ?_
  by_cases hc2_394 : i < f
  · refine Goes.step (T2 := s₁) (g2 := (mkF m 10 #[iv c0, iv i, iv f, iv t] [])) (fun _ hr => XS.icmpYes X0.here hx rfl (pc0 := 2) (pc' := 10) rfl (hb hby d19_2) rfl (tlt hc2_394).1 (by decide) (by decide) hr) ?_
    refine Goes.step (T2 := s₁) (g2 := (mkF m 11 #[iv c0, iv i, iv f, iv t] [(.int (1 : Int32))])) (fun _ hr => XS.iconst X0.here hx rfl (hb hby d19_10) hr) ?_
    exact Goes.ret (v := some (.int (1 : Int32))) X0 (by decide) (by decide) (fun h => by rw [Bd.returns] at h; cases h) ⟨by rw [show okv c0 i f t = (1 : Int32) from (by simp [okv, hc2_394])], N0, e0⟩ (fun fs hr => retN X0 hx (t := .boolean) Bd.returns (by simp) (hb hby d19_11) hr)
  · refine Goes.step (T2 := s₁) (g2 := (mkF m 5 #[iv c0, iv i, iv f, iv t] [])) (fun _ hr => XS.icmpNo X0.here hx rfl (hb hby d19_2) rfl (flt hc2_394).1 hr) ?_
    refine Goes.step (T2 := s₁) (g2 := (mkF m 6 #[iv c0, iv i, iv f, iv t] [(.int i)])) (fun _ hr => XS.iloadN X0.here hx rfl (hb hby d19_5) rfl  hr) ?_
    refine Goes.step (T2 := s₁) (g2 := (mkF m 7 #[iv c0, iv i, iv f, iv t] [(.int t), (.int i)])) (fun _ hr => XS.iloadN X0.here hx rfl (hb hby d19_6) rfl  hr) ?_
    by_cases hc7_395 : i < t
    · refine Goes.step (T2 := s₁) (g2 := (mkF m 12 #[iv c0, iv i, iv f, iv t] [])) (fun _ hr => XS.icmpYes X0.here hx rfl (pc0 := 7) (pc' := 12) rfl (hb hby d19_7) rfl (tlt hc7_395).1 (by decide) (by decide) hr) ?_
      refine Goes.step (T2 := s₁) (g2 := (mkF m 13 #[iv c0, iv i, iv f, iv t] [(.int c0)])) (fun _ hr => XS.iloadN X0.here hx rfl (hb hby d19_12) rfl  hr) ?_
      refine Goes.step (T2 := s₁) (g2 := (mkF m 15 #[iv c0, iv i, iv f, iv t] [(.int (48 : Int32)), (.int c0)])) (fun _ hr => XS.bipush X0.here hx rfl (hb hby d19_13) hr) ?_
      by_cases hc15_396 : c0 < (48 : Int32)
      · refine Goes.step (T2 := s₁) (g2 := (mkF m 28 #[iv c0, iv i, iv f, iv t] [])) (fun _ hr => XS.icmpYes X0.here hx rfl (pc0 := 15) (pc' := 28) rfl (hb hby d19_15) rfl (tlt hc15_396).1 (by decide) (by decide) hr) ?_
        refine Goes.step (T2 := s₁) (g2 := (mkF m 29 #[iv c0, iv i, iv f, iv t] [(.int (0 : Int32))])) (fun _ hr => XS.iconst X0.here hx rfl (hb hby d19_28) hr) ?_
        exact Goes.ret (v := some (.int (0 : Int32))) X0 (by decide) (by decide) (fun h => by rw [Bd.returns] at h; cases h) ⟨by rw [show okv c0 i f t = (0 : Int32) from (by simp [okv, hc2_394, hc7_395, dg_lo hc15_396])], N0, e0⟩ (fun fs hr => retN X0 hx (t := .boolean) Bd.returns (by simp) (hb hby d19_29) hr)
      · refine Goes.step (T2 := s₁) (g2 := (mkF m 18 #[iv c0, iv i, iv f, iv t] [])) (fun _ hr => XS.icmpNo X0.here hx rfl (hb hby d19_15) rfl (flt hc15_396).1 hr) ?_
        refine Goes.step (T2 := s₁) (g2 := (mkF m 19 #[iv c0, iv i, iv f, iv t] [(.int c0)])) (fun _ hr => XS.iloadN X0.here hx rfl (hb hby d19_18) rfl  hr) ?_
        refine Goes.step (T2 := s₁) (g2 := (mkF m 21 #[iv c0, iv i, iv f, iv t] [(.int (57 : Int32)), (.int c0)])) (fun _ hr => XS.bipush X0.here hx rfl (hb hby d19_19) hr) ?_
        by_cases hc21_397 : (57 : Int32) < c0
        · refine Goes.step (T2 := s₁) (g2 := (mkF m 28 #[iv c0, iv i, iv f, iv t] [])) (fun _ hr => XS.icmpYes X0.here hx rfl (pc0 := 21) (pc' := 28) rfl (hb hby d19_21) rfl (tlt hc21_397).2.2.1 (by decide) (by decide) hr) ?_
          refine Goes.step (T2 := s₁) (g2 := (mkF m 29 #[iv c0, iv i, iv f, iv t] [(.int (0 : Int32))])) (fun _ hr => XS.iconst X0.here hx rfl (hb hby d19_28) hr) ?_
          exact Goes.ret (v := some (.int (0 : Int32))) X0 (by decide) (by decide) (fun h => by rw [Bd.returns] at h; cases h) ⟨by rw [show okv c0 i f t = (0 : Int32) from (by simp [okv, hc2_394, hc7_395, dg_hi hc21_397])], N0, e0⟩ (fun fs hr => retN X0 hx (t := .boolean) Bd.returns (by simp) (hb hby d19_29) hr)
        · refine Goes.step (T2 := s₁) (g2 := (mkF m 24 #[iv c0, iv i, iv f, iv t] [])) (fun _ hr => XS.icmpNo X0.here hx rfl (hb hby d19_21) rfl (flt hc21_397).2.2.1 hr) ?_
          refine Goes.step (T2 := s₁) (g2 := (mkF m 25 #[iv c0, iv i, iv f, iv t] [(.int (1 : Int32))])) (fun _ hr => XS.iconst X0.here hx rfl (hb hby d19_24) hr) ?_
          refine Goes.step (T2 := s₁) (g2 := (mkF m 29 #[iv c0, iv i, iv f, iv t] [(.int (1 : Int32))])) (fun _ hr => XS.goto X0.here hx rfl (pc0 := 25) (pc' := 29) rfl (hb hby d19_25) (by decide) (by decide) hr) ?_
          exact Goes.ret (v := some (.int (1 : Int32))) X0 (by decide) (by decide) (fun h => by rw [Bd.returns] at h; cases h) ⟨by rw [show okv c0 i f t = (1 : Int32) from (by simp [okv, hc2_394, hc7_395, dg_yes hc15_396 hc21_397])], N0, e0⟩ (fun fs hr => retN X0 hx (t := .boolean) Bd.returns (by simp) (hb hby d19_29) hr)
    · refine Goes.step (T2 := s₁) (g2 := (mkF m 10 #[iv c0, iv i, iv f, iv t] [])) (fun _ hr => XS.icmpNo X0.here hx rfl (hb hby d19_7) rfl (flt hc7_395).1 hr) ?_
      refine Goes.step (T2 := s₁) (g2 := (mkF m 11 #[iv c0, iv i, iv f, iv t] [(.int (1 : Int32))])) (fun _ hr => XS.iconst X0.here hx rfl (hb hby d19_10) hr) ?_
      exact Goes.ret (v := some (.int (1 : Int32))) X0 (by decide) (by decide) (fun h => by rw [Bd.returns] at h; cases h) ⟨by rw [show okv c0 i f t = (1 : Int32) from (by simp [okv, hc7_395])], N0, e0⟩ (fun fs hr => retN X0 hx (t := .boolean) Bd.returns (by simp) (hb hby d19_11) hr)
def Q_rm_law (Z : State) (p1 : Int32) (p2 : Int32) (p3 : Int32) (p4 : Int32) (cs : Int32) (vf : Value) (h0 : Heap) (n0 : Nat) (v : Option Value) (h : Heap) (L : List Loc) : Prop := v = some (.int (1 : Int32)) ∧ Fr n0 L
set_option maxRecDepth 65536 in
set_option maxHeartbeats 40000000 in
theorem rm_law (l : Launch) (Z : State) (a0 : Array Value) (hw : ∀ d ∈ tables_1, d.before a0 Z = true) (ws : List Jvm.Cond) (p1 : Int32) (p2 : Int32) (p3 : Int32) (p4 : Int32) (cs : Int32) (vf : Value) (h0 : Heap) (n0 : Nat) (Z0 : n0 ≤ h0.size) (O0 : Old Z n0 h0) (S_String_COMPACT_STRINGS_old : Sta Z Z.heap "java/lang/String" "COMPACT_STRINGS" "Z" (.int cs)) (S_Preconditions_SIOOBE_FORMATTER_old : Sta Z Z.heap "jdk/internal/util/Preconditions" "SIOOBE_FORMATTER" "Ljava/util/function/BiFunction;" vf) (S_StringUTF16__assertionsDisabled_old : Sta Z Z.heap "java/lang/StringUTF16" "$assertionsDisabled" "Z" (.int (1 : Int32))) (S_StringUTF16_HI_BYTE_SHIFT_old : Sta Z Z.heap "java/lang/StringUTF16" "HI_BYTE_SHIFT" "I" (.int (0 : Int32))) (S_StringUTF16_LO_BYTE_SHIFT_old : Sta Z Z.heap "java/lang/StringUTF16" "LO_BYTE_SHIFT" "I" (.int (8 : Int32))) (hcs : ¬ (cs = (0 : Int32))) (hvf : vf.isRef = true) :
    MetFree l x (head1 (Jvm.Cond.code x code maxLocals ret :: ws) room_1) (fun a U => a = #[(.int p1), (.int p2), (.int p3), (.int p4)] ∧ Z.Warmed39 U.vm ∧ U.heap = h0) (fun _ _ _ _ _ => True) (fun _ U o U' => ∃ v L, o = .returned v ∧ Q_rm_law Z p1 p2 p3 p4 cs vf h0 n0 v U'.heap L ∧ FrameEnd U o U' L room_1.cells room_1.slots) := by
  refine MetFree.of_bodySF (plainFor_of_name pn_com_example_api_policy_gateway_apipolicygateway_proxy_HeaderFieldsAllDigitsPinLaw) hisR ?_
  intro p e s m args below meth c s₁ Bd hml0 hP hK
  obtain ⟨rfl, hZ, hh⟩ := hP
  have hx := Bd.exec
  have hby := Bd.bytes
  have hml : c.maxLocals = 9 := hml0
  have hown : s.vm.findClass "com/example/api_policy_gateway/apipolicygateway/proxy/HeaderFieldsAllDigitsPinLaw" = some m.cls := findClass_of_methodNamed Bd.named
  have hnm := (name_of_methodNamed Bd.named Bd.method).1
  have X0 : Stand p l e room_1 s m #[(.int p1), (.int p2), (.int p3), (.int p4)] below meth c s₁ [] 0 0 := Stand.of_body Bd
  have e0 : s₁.heap = h0 := by rw [← hh, Bd.state]; rfl
  have N0 := Fr.nil n0
  refine Goes.out (l := l) (c := c) (R := room_1) (Q := Q_rm_law Z p1 p2 p3 p4 cs vf h0 n0) Bd.notSynchronized ?_
  refine Goes.cast (g2 := mkF m 0 #[iv p1, iv p2, iv p3, iv p4, .unset, .unset, .unset, .unset, .unset] []) (by first | (simp [entryFrame, mkF, argsToLocals, Value.category, maxLocals]; done) | rfl) ?_
  have K0 : Keep h0 h0 [] := Keep.refl h0 _
  have hws : ∀ x ∈ ([] : List Addr), n0 ≤ x := all0
  refine Goes.step (T2 := s₁) (g2 := (mkF m 1 #[iv p1, iv p2, iv p3, iv p4, .unset, .unset, .unset, .unset, .unset] [(.int (4 : Int32))])) (fun _ hr => XS.iconst X0.here hx rfl (hb hby at_0) hr) ?_
  obtain ⟨T398, h398, k398, X398, e398, E398, A398, Ax398, st398⟩ := newPE X0 hx hZ (tw hw 0 rfl) e0 (g := (mkF m 1 #[iv p1, iv p2, iv p3, iv p4, .unset, .unset, .unset, .unset, .unset] [(.int (4 : Int32))])) rfl (hb hby at_1) rfl (by decide) (cap := 4) (by decide) (by decide) (by decide) (by decide) (ad := "[C") (by decide)
  obtain ⟨b398, g398⟩ : ∃ z, z = h0.size := ⟨_, rfl⟩
  rw [← g398] at A398 Ax398 st398
  have sz_b398 : h0.size ≤ b398 := Nat.le_trans K0.1 (Nat.le_of_eq g398.symm)
  have ge_b398 : n0 ≤ b398 := Nat.le_trans Z0 sz_b398
  have K398 : Keep h0 h398 [] := K0.ext E398
  have V_b398_398 : Arv Z h398 b398 k398 .char (4 : Int32) [] (.int (0 : Int32)) := Arv.new A398 (by decide)
  refine Goes.step (T2 := T398) (g2 := (mkF m 3 #[iv p1, iv p2, iv p3, iv p4, .unset, .unset, .unset, .unset, .unset] [(.ref b398)])) st398 ?_
  have V_b398_p399 : Arv Z h398 b398 k398 .char (4 : Int32) [(.int (0 : Int32)), (.int (0 : Int32)), (.int (0 : Int32)), (.int (0 : Int32))] (.int (0 : Int32)) := V_b398_398.pad (pad_rep [] (.int (0 : Int32)) 4)
  refine Goes.step (T2 := T398) (g2 := (mkF m 5 #[iv p1, iv p2, iv p3, iv p4, rv b398, .unset, .unset, .unset, .unset] [])) (fun _ hr => XS.astore X398.here hx rfl (hb hby at_3) rfl rfl (l' := #[iv p1, iv p2, iv p3, iv p4, rv b398, .unset, .unset, .unset, .unset]) rfl hr) ?_
  refine Goes.step (T2 := T398) (g2 := (mkF m 7 #[iv p1, iv p2, iv p3, iv p4, rv b398, .unset, .unset, .unset, .unset] [(.ref b398)])) (fun _ hr => XS.aload X398.here hx rfl (hb hby at_5) rfl rfl hr) ?_
  refine Goes.step (T2 := T398) (g2 := (mkF m 8 #[iv p1, iv p2, iv p3, iv p4, rv b398, .unset, .unset, .unset, .unset] [(.int (0 : Int32)), (.ref b398)])) (fun _ hr => XS.iconst X398.here hx rfl (hb hby at_7) hr) ?_
  refine Goes.step (T2 := T398) (g2 := (mkF m 9 #[iv p1, iv p2, iv p3, iv p4, rv b398, .unset, .unset, .unset, .unset] [(.int p1), (.int (0 : Int32)), (.ref b398)])) (fun _ hr => XS.iloadN X398.here hx rfl (hb hby at_8) rfl  hr) ?_
  refine Goes.step (T2 := T398) (g2 := (mkF m 11 #[iv p1, iv p2, iv p3, iv p4, rv b398, .unset, .unset, .unset, .unset] [(.int (65535 : Int32)), (.int p1), (.int (0 : Int32)), (.ref b398)])) (X398.ldcInt hx hown (mvT hZ (tw hw 1 rfl)) (g := (mkF m 9 #[iv p1, iv p2, iv p3, iv p4, rv b398, .unset, .unset, .unset, .unset] [(.int p1), (.int (0 : Int32)), (.ref b398)])) rfl (hb hby at_9)) ?_
  refine Goes.step (T2 := T398) (g2 := (mkF m 12 #[iv p1, iv p2, iv p3, iv p4, rv b398, .unset, .unset, .unset, .unset] [(.int (p1 &&& (65535 : Int32))), (.int (0 : Int32)), (.ref b398)])) (fun _ hr => XS.iand X398.here hx rfl (hb hby at_11) rfl hr) ?_
  refine Goes.step (T2 := T398) (g2 := (mkF m 13 #[iv p1, iv p2, iv p3, iv p4, rv b398, .unset, .unset, .unset, .unset] [(.int ((p1 &&& (65535 : Int32)).toUInt32.toUInt16.toUInt32.toInt32)), (.int (0 : Int32)), (.ref b398)])) (fun _ hr => Jvm.Free.XT.i2c X398.here hx rfl (hb hby at_12) rfl hr) ?_
  obtain ⟨c0, hc0⟩ : ∃ z, z = nar .char ((p1 &&& (65535 : Int32)).toUInt32.toUInt16.toUInt32.toInt32) := ⟨_, rfl⟩
  have hb0 : B16 c0 := by rw [hc0]; exact own_b16 _
  obtain ⟨cl400, Ar400, q400, S400, Nn400, H400, G400⟩ := id V_b398_p399
  have hin400 : ¬ ((0 : Int32) < 0 ∨ cl400.slots.size ≤ ((0 : Int32)).toNatClampNeg) := inb_of S400 ⟨by decide, by decide⟩
  obtain ⟨T400, h400, X400, e400, W400, st400⟩ := stC X398 hx hZ e398 Ar400 (j := (0 : Int32)) hin400 (g := (mkF m 13 #[iv p1, iv p2, iv p3, iv p4, rv b398, .unset, .unset, .unset, .unset] [(.int ((p1 &&& (65535 : Int32)).toUInt32.toUInt16.toUInt32.toInt32)), (.int (0 : Int32)), (.ref b398)])) rfl rfl (hb hby at_13)
  have W400' := W400
  rw [show (nar .char ((p1 &&& (65535 : Int32)).toUInt32.toUInt16.toUInt32.toInt32)) = c0 from hc0.symm] at W400'
  have E_b398_400 : Exa Z h400 b398 "[C" := Ax398.wr W400
  have K400 : Keep h0 h400 [] := K398.wr W400 (Or.inr sz_b398)
  have N400 := Fr.snoc X400 N0 ge_b398
  have V_b398_400 : Arv Z h400 b398 k398 .char (4 : Int32) [(.int c0), (.int (0 : Int32)), (.int (0 : Int32)), (.int (0 : Int32))] (.int (0 : Int32)) := Arv.set Ar400 q400 S400 Nn400 H400 G400 (by have := (show fits .char (.int (nar .char ((p1 &&& (65535 : Int32)).toUInt32.toUInt16.toUInt32.toInt32))) = true from (fits_nar_char _)); rwa [show (nar .char ((p1 &&& (65535 : Int32)).toUInt32.toUInt16.toUInt32.toInt32)) = c0 from hc0.symm] at this) W400' 0 rfl (Nat.le_of_ble_eq_true rfl)
  refine Goes.step (T2 := T400) (g2 := (mkF m 14 #[iv p1, iv p2, iv p3, iv p4, rv b398, .unset, .unset, .unset, .unset] [])) st400 ?_
  refine Goes.step (T2 := T400) (g2 := (mkF m 16 #[iv p1, iv p2, iv p3, iv p4, rv b398, .unset, .unset, .unset, .unset] [(.ref b398)])) (fun _ hr => XS.aload X400.here hx rfl (hb hby at_14) rfl rfl hr) ?_
  refine Goes.step (T2 := T400) (g2 := (mkF m 17 #[iv p1, iv p2, iv p3, iv p4, rv b398, .unset, .unset, .unset, .unset] [(.int (1 : Int32)), (.ref b398)])) (fun _ hr => XS.iconst X400.here hx rfl (hb hby at_16) hr) ?_
  refine Goes.step (T2 := T400) (g2 := (mkF m 18 #[iv p1, iv p2, iv p3, iv p4, rv b398, .unset, .unset, .unset, .unset] [(.int p1), (.int (1 : Int32)), (.ref b398)])) (fun _ hr => XS.iloadN X400.here hx rfl (hb hby at_17) rfl  hr) ?_
  refine Goes.step (T2 := T400) (g2 := (mkF m 20 #[iv p1, iv p2, iv p3, iv p4, rv b398, .unset, .unset, .unset, .unset] [(.int (16 : Int32)), (.int p1), (.int (1 : Int32)), (.ref b398)])) (fun _ hr => XS.bipush X400.here hx rfl (hb hby at_18) hr) ?_
  refine Goes.step (T2 := T400) (g2 := (mkF m 21 #[iv p1, iv p2, iv p3, iv p4, rv b398, .unset, .unset, .unset, .unset] [(.int (Jvm.Free.XT.ushr p1 (16 : Int32))), (.int (1 : Int32)), (.ref b398)])) (fun _ hr => Jvm.Free.XT.iushr X400.here hx rfl (hb hby at_20) rfl hr) ?_
  refine Goes.step (T2 := T400) (g2 := (mkF m 23 #[iv p1, iv p2, iv p3, iv p4, rv b398, .unset, .unset, .unset, .unset] [(.int (65535 : Int32)), (.int (Jvm.Free.XT.ushr p1 (16 : Int32))), (.int (1 : Int32)), (.ref b398)])) (X400.ldcInt hx hown (mvT hZ (tw hw 1 rfl)) (g := (mkF m 21 #[iv p1, iv p2, iv p3, iv p4, rv b398, .unset, .unset, .unset, .unset] [(.int (Jvm.Free.XT.ushr p1 (16 : Int32))), (.int (1 : Int32)), (.ref b398)])) rfl (hb hby at_21)) ?_
  refine Goes.step (T2 := T400) (g2 := (mkF m 24 #[iv p1, iv p2, iv p3, iv p4, rv b398, .unset, .unset, .unset, .unset] [(.int ((Jvm.Free.XT.ushr p1 (16 : Int32)) &&& (65535 : Int32))), (.int (1 : Int32)), (.ref b398)])) (fun _ hr => XS.iand X400.here hx rfl (hb hby at_23) rfl hr) ?_
  refine Goes.step (T2 := T400) (g2 := (mkF m 25 #[iv p1, iv p2, iv p3, iv p4, rv b398, .unset, .unset, .unset, .unset] [(.int (((Jvm.Free.XT.ushr p1 (16 : Int32)) &&& (65535 : Int32)).toUInt32.toUInt16.toUInt32.toInt32)), (.int (1 : Int32)), (.ref b398)])) (fun _ hr => Jvm.Free.XT.i2c X400.here hx rfl (hb hby at_24) rfl hr) ?_
  obtain ⟨c1, hc1⟩ : ∃ z, z = nar .char (((Jvm.Free.XT.ushr p1 (16 : Int32)) &&& (65535 : Int32)).toUInt32.toUInt16.toUInt32.toInt32) := ⟨_, rfl⟩
  have hb1 : B16 c1 := by rw [hc1]; exact own_b16 _
  obtain ⟨cl401, Ar401, q401, S401, Nn401, H401, G401⟩ := id V_b398_400
  have hin401 : ¬ ((1 : Int32) < 0 ∨ cl401.slots.size ≤ ((1 : Int32)).toNatClampNeg) := inb_of S401 ⟨by decide, by decide⟩
  obtain ⟨T401, h401, X401, e401, W401, st401⟩ := stC X400 hx hZ e400 Ar401 (j := (1 : Int32)) hin401 (g := (mkF m 25 #[iv p1, iv p2, iv p3, iv p4, rv b398, .unset, .unset, .unset, .unset] [(.int (((Jvm.Free.XT.ushr p1 (16 : Int32)) &&& (65535 : Int32)).toUInt32.toUInt16.toUInt32.toInt32)), (.int (1 : Int32)), (.ref b398)])) rfl rfl (hb hby at_25)
  have W401' := W401
  rw [show (nar .char (((Jvm.Free.XT.ushr p1 (16 : Int32)) &&& (65535 : Int32)).toUInt32.toUInt16.toUInt32.toInt32)) = c1 from hc1.symm] at W401'
  have E_b398_401 : Exa Z h401 b398 "[C" := E_b398_400.wr W401
  have K401 : Keep h0 h401 [] := K400.wr W401 (Or.inr sz_b398)
  have N401 := Fr.snoc X401 N400 ge_b398
  have V_b398_401 : Arv Z h401 b398 k398 .char (4 : Int32) [(.int c0), (.int c1), (.int (0 : Int32)), (.int (0 : Int32))] (.int (0 : Int32)) := Arv.set Ar401 q401 S401 Nn401 H401 G401 (by have := (show fits .char (.int (nar .char (((Jvm.Free.XT.ushr p1 (16 : Int32)) &&& (65535 : Int32)).toUInt32.toUInt16.toUInt32.toInt32))) = true from (fits_nar_char _)); rwa [show (nar .char (((Jvm.Free.XT.ushr p1 (16 : Int32)) &&& (65535 : Int32)).toUInt32.toUInt16.toUInt32.toInt32)) = c1 from hc1.symm] at this) W401' 1 rfl (Nat.le_of_ble_eq_true rfl)
  refine Goes.step (T2 := T401) (g2 := (mkF m 26 #[iv p1, iv p2, iv p3, iv p4, rv b398, .unset, .unset, .unset, .unset] [])) st401 ?_
  refine Goes.step (T2 := T401) (g2 := (mkF m 28 #[iv p1, iv p2, iv p3, iv p4, rv b398, .unset, .unset, .unset, .unset] [(.ref b398)])) (fun _ hr => XS.aload X401.here hx rfl (hb hby at_26) rfl rfl hr) ?_
  refine Goes.step (T2 := T401) (g2 := (mkF m 29 #[iv p1, iv p2, iv p3, iv p4, rv b398, .unset, .unset, .unset, .unset] [(.int (2 : Int32)), (.ref b398)])) (fun _ hr => XS.iconst X401.here hx rfl (hb hby at_28) hr) ?_
  refine Goes.step (T2 := T401) (g2 := (mkF m 30 #[iv p1, iv p2, iv p3, iv p4, rv b398, .unset, .unset, .unset, .unset] [(.int p2), (.int (2 : Int32)), (.ref b398)])) (fun _ hr => XS.iloadN X401.here hx rfl (hb hby at_29) rfl  hr) ?_
  refine Goes.step (T2 := T401) (g2 := (mkF m 32 #[iv p1, iv p2, iv p3, iv p4, rv b398, .unset, .unset, .unset, .unset] [(.int (65535 : Int32)), (.int p2), (.int (2 : Int32)), (.ref b398)])) (X401.ldcInt hx hown (mvT hZ (tw hw 1 rfl)) (g := (mkF m 30 #[iv p1, iv p2, iv p3, iv p4, rv b398, .unset, .unset, .unset, .unset] [(.int p2), (.int (2 : Int32)), (.ref b398)])) rfl (hb hby at_30)) ?_
  refine Goes.step (T2 := T401) (g2 := (mkF m 33 #[iv p1, iv p2, iv p3, iv p4, rv b398, .unset, .unset, .unset, .unset] [(.int (p2 &&& (65535 : Int32))), (.int (2 : Int32)), (.ref b398)])) (fun _ hr => XS.iand X401.here hx rfl (hb hby at_32) rfl hr) ?_
  refine Goes.step (T2 := T401) (g2 := (mkF m 34 #[iv p1, iv p2, iv p3, iv p4, rv b398, .unset, .unset, .unset, .unset] [(.int ((p2 &&& (65535 : Int32)).toUInt32.toUInt16.toUInt32.toInt32)), (.int (2 : Int32)), (.ref b398)])) (fun _ hr => Jvm.Free.XT.i2c X401.here hx rfl (hb hby at_33) rfl hr) ?_
  obtain ⟨c2, hc2⟩ : ∃ z, z = nar .char ((p2 &&& (65535 : Int32)).toUInt32.toUInt16.toUInt32.toInt32) := ⟨_, rfl⟩
  have hb2 : B16 c2 := by rw [hc2]; exact own_b16 _
  obtain ⟨cl402, Ar402, q402, S402, Nn402, H402, G402⟩ := id V_b398_401
  have hin402 : ¬ ((2 : Int32) < 0 ∨ cl402.slots.size ≤ ((2 : Int32)).toNatClampNeg) := inb_of S402 ⟨by decide, by decide⟩
  obtain ⟨T402, h402, X402, e402, W402, st402⟩ := stC X401 hx hZ e401 Ar402 (j := (2 : Int32)) hin402 (g := (mkF m 34 #[iv p1, iv p2, iv p3, iv p4, rv b398, .unset, .unset, .unset, .unset] [(.int ((p2 &&& (65535 : Int32)).toUInt32.toUInt16.toUInt32.toInt32)), (.int (2 : Int32)), (.ref b398)])) rfl rfl (hb hby at_34)
  have W402' := W402
  rw [show (nar .char ((p2 &&& (65535 : Int32)).toUInt32.toUInt16.toUInt32.toInt32)) = c2 from hc2.symm] at W402'
  have E_b398_402 : Exa Z h402 b398 "[C" := E_b398_401.wr W402
  have K402 : Keep h0 h402 [] := K401.wr W402 (Or.inr sz_b398)
  have N402 := Fr.snoc X402 N401 ge_b398
  have V_b398_402 : Arv Z h402 b398 k398 .char (4 : Int32) [(.int c0), (.int c1), (.int c2), (.int (0 : Int32))] (.int (0 : Int32)) := Arv.set Ar402 q402 S402 Nn402 H402 G402 (by have := (show fits .char (.int (nar .char ((p2 &&& (65535 : Int32)).toUInt32.toUInt16.toUInt32.toInt32))) = true from (fits_nar_char _)); rwa [show (nar .char ((p2 &&& (65535 : Int32)).toUInt32.toUInt16.toUInt32.toInt32)) = c2 from hc2.symm] at this) W402' 2 rfl (Nat.le_of_ble_eq_true rfl)
  refine Goes.step (T2 := T402) (g2 := (mkF m 35 #[iv p1, iv p2, iv p3, iv p4, rv b398, .unset, .unset, .unset, .unset] [])) st402 ?_
  refine Goes.step (T2 := T402) (g2 := (mkF m 37 #[iv p1, iv p2, iv p3, iv p4, rv b398, .unset, .unset, .unset, .unset] [(.ref b398)])) (fun _ hr => XS.aload X402.here hx rfl (hb hby at_35) rfl rfl hr) ?_
  refine Goes.step (T2 := T402) (g2 := (mkF m 38 #[iv p1, iv p2, iv p3, iv p4, rv b398, .unset, .unset, .unset, .unset] [(.int (3 : Int32)), (.ref b398)])) (fun _ hr => XS.iconst X402.here hx rfl (hb hby at_37) hr) ?_
  refine Goes.step (T2 := T402) (g2 := (mkF m 39 #[iv p1, iv p2, iv p3, iv p4, rv b398, .unset, .unset, .unset, .unset] [(.int p2), (.int (3 : Int32)), (.ref b398)])) (fun _ hr => XS.iloadN X402.here hx rfl (hb hby at_38) rfl  hr) ?_
  refine Goes.step (T2 := T402) (g2 := (mkF m 41 #[iv p1, iv p2, iv p3, iv p4, rv b398, .unset, .unset, .unset, .unset] [(.int (16 : Int32)), (.int p2), (.int (3 : Int32)), (.ref b398)])) (fun _ hr => XS.bipush X402.here hx rfl (hb hby at_39) hr) ?_
  refine Goes.step (T2 := T402) (g2 := (mkF m 42 #[iv p1, iv p2, iv p3, iv p4, rv b398, .unset, .unset, .unset, .unset] [(.int (Jvm.Free.XT.ushr p2 (16 : Int32))), (.int (3 : Int32)), (.ref b398)])) (fun _ hr => Jvm.Free.XT.iushr X402.here hx rfl (hb hby at_41) rfl hr) ?_
  refine Goes.step (T2 := T402) (g2 := (mkF m 44 #[iv p1, iv p2, iv p3, iv p4, rv b398, .unset, .unset, .unset, .unset] [(.int (65535 : Int32)), (.int (Jvm.Free.XT.ushr p2 (16 : Int32))), (.int (3 : Int32)), (.ref b398)])) (X402.ldcInt hx hown (mvT hZ (tw hw 1 rfl)) (g := (mkF m 42 #[iv p1, iv p2, iv p3, iv p4, rv b398, .unset, .unset, .unset, .unset] [(.int (Jvm.Free.XT.ushr p2 (16 : Int32))), (.int (3 : Int32)), (.ref b398)])) rfl (hb hby at_42)) ?_
  refine Goes.step (T2 := T402) (g2 := (mkF m 45 #[iv p1, iv p2, iv p3, iv p4, rv b398, .unset, .unset, .unset, .unset] [(.int ((Jvm.Free.XT.ushr p2 (16 : Int32)) &&& (65535 : Int32))), (.int (3 : Int32)), (.ref b398)])) (fun _ hr => XS.iand X402.here hx rfl (hb hby at_44) rfl hr) ?_
  refine Goes.step (T2 := T402) (g2 := (mkF m 46 #[iv p1, iv p2, iv p3, iv p4, rv b398, .unset, .unset, .unset, .unset] [(.int (((Jvm.Free.XT.ushr p2 (16 : Int32)) &&& (65535 : Int32)).toUInt32.toUInt16.toUInt32.toInt32)), (.int (3 : Int32)), (.ref b398)])) (fun _ hr => Jvm.Free.XT.i2c X402.here hx rfl (hb hby at_45) rfl hr) ?_
  obtain ⟨c3, hc3⟩ : ∃ z, z = nar .char (((Jvm.Free.XT.ushr p2 (16 : Int32)) &&& (65535 : Int32)).toUInt32.toUInt16.toUInt32.toInt32) := ⟨_, rfl⟩
  have hb3 : B16 c3 := by rw [hc3]; exact own_b16 _
  obtain ⟨cl403, Ar403, q403, S403, Nn403, H403, G403⟩ := id V_b398_402
  have hin403 : ¬ ((3 : Int32) < 0 ∨ cl403.slots.size ≤ ((3 : Int32)).toNatClampNeg) := inb_of S403 ⟨by decide, by decide⟩
  obtain ⟨T403, h403, X403, e403, W403, st403⟩ := stC X402 hx hZ e402 Ar403 (j := (3 : Int32)) hin403 (g := (mkF m 46 #[iv p1, iv p2, iv p3, iv p4, rv b398, .unset, .unset, .unset, .unset] [(.int (((Jvm.Free.XT.ushr p2 (16 : Int32)) &&& (65535 : Int32)).toUInt32.toUInt16.toUInt32.toInt32)), (.int (3 : Int32)), (.ref b398)])) rfl rfl (hb hby at_46)
  have W403' := W403
  rw [show (nar .char (((Jvm.Free.XT.ushr p2 (16 : Int32)) &&& (65535 : Int32)).toUInt32.toUInt16.toUInt32.toInt32)) = c3 from hc3.symm] at W403'
  have E_b398_403 : Exa Z h403 b398 "[C" := E_b398_402.wr W403
  have K403 : Keep h0 h403 [] := K402.wr W403 (Or.inr sz_b398)
  have N403 := Fr.snoc X403 N402 ge_b398
  have V_b398_403 : Arv Z h403 b398 k398 .char (4 : Int32) [(.int c0), (.int c1), (.int c2), (.int c3)] (.int (0 : Int32)) := Arv.set Ar403 q403 S403 Nn403 H403 G403 (by have := (show fits .char (.int (nar .char (((Jvm.Free.XT.ushr p2 (16 : Int32)) &&& (65535 : Int32)).toUInt32.toUInt16.toUInt32.toInt32))) = true from (fits_nar_char _)); rwa [show (nar .char (((Jvm.Free.XT.ushr p2 (16 : Int32)) &&& (65535 : Int32)).toUInt32.toUInt16.toUInt32.toInt32)) = c3 from hc3.symm] at this) W403' 3 rfl (Nat.le_of_ble_eq_true rfl)
  refine Goes.step (T2 := T403) (g2 := (mkF m 47 #[iv p1, iv p2, iv p3, iv p4, rv b398, .unset, .unset, .unset, .unset] [])) st403 ?_
  refine Goes.step (T2 := T403) (g2 := (mkF m 48 #[iv p1, iv p2, iv p3, iv p4, rv b398, .unset, .unset, .unset, .unset] [(.int p3)])) (fun _ hr => XS.iloadN X403.here hx rfl (hb hby at_47) rfl  hr) ?_
  refine Goes.step (T2 := T403) (g2 := (mkF m 50 #[iv p1, iv p2, iv p3, iv p4, rv b398, .unset, .unset, .unset, .unset] [(.int (2147483647 : Int32)), (.int p3)])) (X403.ldcInt hx hown (mvT hZ (tw hw 2 rfl)) (g := (mkF m 48 #[iv p1, iv p2, iv p3, iv p4, rv b398, .unset, .unset, .unset, .unset] [(.int p3)])) rfl (hb hby at_48)) ?_
  refine Goes.step (T2 := T403) (g2 := (mkF m 51 #[iv p1, iv p2, iv p3, iv p4, rv b398, .unset, .unset, .unset, .unset] [(.int (p3 &&& (2147483647 : Int32)))])) (fun _ hr => XS.iand X403.here hx rfl (hb hby at_50) rfl hr) ?_
  refine Goes.step (T2 := T403) (g2 := (mkF m 52 #[iv p1, iv p2, iv p3, iv p4, rv b398, .unset, .unset, .unset, .unset] [(.int (5 : Int32)), (.int (p3 &&& (2147483647 : Int32)))])) (fun _ hr => XS.iconst X403.here hx rfl (hb hby at_51) hr) ?_
  refine Goes.step (T2 := T403) (g2 := (mkF m 53 #[iv p1, iv p2, iv p3, iv p4, rv b398, .unset, .unset, .unset, .unset] [(.int ((p3 &&& (2147483647 : Int32)) % (5 : Int32)))])) (fun _ hr => iremM X403 hx rfl (hb hby at_52) rfl (by decide) hr) ?_
  obtain ⟨f, hfq⟩ : ∃ z, z = ((p3 &&& (2147483647 : Int32)) % (5 : Int32)) := ⟨_, rfl⟩
  have hf : F5 f := by rw [hfq]; exact own_mod5 p3
  rw [← hfq]
  refine Goes.step (T2 := T403) (g2 := (mkF m 55 #[iv p1, iv p2, iv p3, iv p4, rv b398, iv f, .unset, .unset, .unset] [])) (fun _ hr => XS.istore X403.here hx rfl (hb hby at_53) rfl (l' := #[iv p1, iv p2, iv p3, iv p4, rv b398, iv f, .unset, .unset, .unset]) rfl hr) ?_
  refine Goes.step (T2 := T403) (g2 := (mkF m 56 #[iv p1, iv p2, iv p3, iv p4, rv b398, iv f, .unset, .unset, .unset] [(.int p4)])) (fun _ hr => XS.iloadN X403.here hx rfl (hb hby at_55) rfl  hr) ?_
  refine Goes.step (T2 := T403) (g2 := (mkF m 58 #[iv p1, iv p2, iv p3, iv p4, rv b398, iv f, .unset, .unset, .unset] [(.int (2147483647 : Int32)), (.int p4)])) (X403.ldcInt hx hown (mvT hZ (tw hw 2 rfl)) (g := (mkF m 56 #[iv p1, iv p2, iv p3, iv p4, rv b398, iv f, .unset, .unset, .unset] [(.int p4)])) rfl (hb hby at_56)) ?_
  refine Goes.step (T2 := T403) (g2 := (mkF m 59 #[iv p1, iv p2, iv p3, iv p4, rv b398, iv f, .unset, .unset, .unset] [(.int (p4 &&& (2147483647 : Int32)))])) (fun _ hr => XS.iand X403.here hx rfl (hb hby at_58) rfl hr) ?_
  refine Goes.step (T2 := T403) (g2 := (mkF m 60 #[iv p1, iv p2, iv p3, iv p4, rv b398, iv f, .unset, .unset, .unset] [(.int (5 : Int32)), (.int (p4 &&& (2147483647 : Int32)))])) (fun _ hr => XS.iconst X403.here hx rfl (hb hby at_59) hr) ?_
  refine Goes.step (T2 := T403) (g2 := (mkF m 61 #[iv p1, iv p2, iv p3, iv p4, rv b398, iv f, .unset, .unset, .unset] [(.int ((p4 &&& (2147483647 : Int32)) % (5 : Int32)))])) (fun _ hr => iremM X403 hx rfl (hb hby at_60) rfl (by decide) hr) ?_
  obtain ⟨t, htq⟩ : ∃ z, z = ((p4 &&& (2147483647 : Int32)) % (5 : Int32)) := ⟨_, rfl⟩
  have ht : F5 t := by rw [htq]; exact own_mod5 p4
  rw [← htq]
  refine Goes.step (T2 := T403) (g2 := (mkF m 63 #[iv p1, iv p2, iv p3, iv p4, rv b398, iv f, iv t, .unset, .unset] [])) (fun _ hr => XS.istore X403.here hx rfl (hb hby at_61) rfl (l' := #[iv p1, iv p2, iv p3, iv p4, rv b398, iv f, iv t, .unset, .unset]) rfl hr) ?_
  obtain ⟨T404, h404, X404, e404, E404, A404, D404, -, st404⟩ := newO X403 hx hZ hown (tw hw 3 rfl) (tw hw 4 rfl) (tw hw 5 rfl) e403 (g := (mkF m 63 #[iv p1, iv p2, iv p3, iv p4, rv b398, iv f, iv t, .unset, .unset] [])) rfl (hb hby at_63) (by decide) (by decide)
  obtain ⟨b404, g404⟩ : ∃ z, z = h403.size := ⟨_, rfl⟩
  rw [← g404] at A404 D404 st404
  have sz_b404 : h0.size ≤ b404 := Nat.le_trans K403.1 (Nat.le_of_eq g404.symm)
  have ge_b404 : n0 ≤ b404 := Nat.le_trans Z0 sz_b404
  have E_b398_404 : Exa Z h404 b398 "[C" := E_b398_403.ext E404
  have V_b398_404 : Arv Z h404 b398 k398 .char (4 : Int32) [(.int c0), (.int c1), (.int c2), (.int c3)] (.int (0 : Int32)) := V_b398_403.ext E404
  have K404 : Keep h0 h404 [] := K403.ext E404
  have F_b404_coder_404 : Fld Z h404 b404 "java/lang/String" "coder" "B" (.int (0 : Int32)) := D404 (Or.inr (tw hw 29 rfl)) (ty := .byte) (by decide)
  have F_b404_value_404 : Fld Z h404 b404 "java/lang/String" "value" "[B" .null := D404 (Or.inr (tw hw 31 rfl)) (ty := (.array .byte)) (by decide)
  refine Goes.step (T2 := T404) (g2 := (mkF m 66 #[iv p1, iv p2, iv p3, iv p4, rv b398, iv f, iv t, .unset, .unset] [(.ref b404)])) st404 ?_
  refine Goes.step (T2 := T404) (g2 := (mkF m 67 #[iv p1, iv p2, iv p3, iv p4, rv b398, iv f, iv t, .unset, .unset] [(.ref b404), (.ref b404)])) (fun _ hr => XS.dup X404.here hx rfl (hb hby at_66) rfl rfl hr) ?_
  refine Goes.step (T2 := T404) (g2 := (mkF m 69 #[iv p1, iv p2, iv p3, iv p4, rv b398, iv f, iv t, .unset, .unset] [(.ref b398), (.ref b404), (.ref b404)])) (fun _ hr => XS.aload X404.here hx rfl (hb hby at_67) rfl rfl hr) ?_
  have Zs405 : n0 ≤ h404.size := Nat.le_trans Z0 K404.1
  obtain ⟨_, _, ⟨T406, L406, k406, n406⟩, -, X406, ⟨Lc406, hQ406, l406, y406, z406⟩, st406⟩ := X404.specialBack hx (y := Y9) rfl hown (mvT hZ (tw hw 6 rfl)) (mvT hZ (tw hw 7 rfl)) (mvT hZ (tw hw 8 rfl)) (by decide) (backOf (W := 1) (rm_str1 l Z a0 hw [] b404 b398 k398 cs c0 c1 c2 c3 h404 n0 Zs405 (Old.keep O0 K404 hws) A404 F_b404_coder_404 F_b404_value_404 V_b398_404 S_String_COMPACT_STRINGS_old S_StringUTF16__assertionsDisabled_old S_StringUTF16_HI_BYTE_SHIFT_old S_StringUTF16_LO_BYTE_SHIFT_old ge_b404 (Ne.symm (Nat.ne_of_lt (Nat.lt_of_lt_of_le E_b398_403.lt (Nat.le_of_eq g404.symm)))) hcs hb0 hb1 hb2 hb3) hZ (tw hw 8 rfl) (tw hw 5 rfl) (by decide) (by decide)) (g := (mkF m 69 #[iv p1, iv p2, iv p3, iv p4, rv b398, iv f, iv t, .unset, .unset] [(.ref b398), (.ref b404), (.ref b404)])) rfl (by rw [hml]; rfl) (Steps.refl _) (a := b404) (argsL := [(.ref b398)]) (rest := [(.ref b404)]) (lenOf pd_14 rfl) rfl (by show 2 * 0 + _ ≤ _; exact Nat.le_of_eq rfl) (hb hby at_69) (fun _ _ => ⟨rfl, e404, (by decide : 2 + 2 ≤ _), (by decide : 8 + 12 ≤ _)⟩)
  dsimp only [Pt.U, Pt.locs, Pt.cells, Pt.slots] at X406 l406 y406 z406 st406 hQ406
  subst l406 y406 z406
  obtain ⟨rfl, N406q, Kc406, P406_0⟩ := hQ406
  have N406 := Fr.app N403 N406q
  have E_b398_406 : Exa Z T406.heap b398 "[C" := E_b398_404.keep Kc406
  have V_b398_406 : Arv Z T406.heap b398 k398 .char (4 : Int32) [(.int c0), (.int c1), (.int c2), (.int c3)] (.int (0 : Int32)) := V_b398_404.keep Kc406 (ninS (Nat.ne_of_lt (Nat.lt_of_lt_of_le E_b398_403.lt (Nat.le_of_eq g404.symm))) nin0)
  have E_b404_406 : Exa Z T406.heap b404 "java/lang/String" := A404.keep Kc406
  have K406 : Keep h0 T406.heap [] := K404.trans Kc406 (allS (Or.inr sz_b404) all0)
  refine Goes.step (T2 := T406) (g2 := (mkF m 72 #[iv p1, iv p2, iv p3, iv p4, rv b398, iv f, iv t, .unset, .unset] [(.ref b404)])) (fun _ hr => st406.trans hr) ?_
  refine Goes.step (T2 := T406) (g2 := (mkF m 74 #[iv p1, iv p2, iv p3, iv p4, rv b398, iv f, iv t, rv b404, .unset] [])) (fun _ hr => XS.astore X406.here hx rfl (hb hby at_72) rfl rfl (l' := #[iv p1, iv p2, iv p3, iv p4, rv b398, iv f, iv t, rv b404, .unset]) rfl hr) ?_
  refine Goes.step (T2 := T406) (g2 := (mkF m 76 #[iv p1, iv p2, iv p3, iv p4, rv b398, iv f, iv t, rv b404, .unset] [(.ref b398)])) (fun _ hr => XS.aload X406.here hx rfl (hb hby at_74) rfl rfl hr) ?_
  refine Goes.step (T2 := T406) (g2 := (mkF m 77 #[iv p1, iv p2, iv p3, iv p4, rv b398, iv f, iv t, rv b404, .unset] [(.int (0 : Int32)), (.ref b398)])) (fun _ hr => XS.iconst X406.here hx rfl (hb hby at_76) hr) ?_
  obtain ⟨cl407, Ar407, q407, S407, Nn407, H407, G407⟩ := id V_b398_406
  have hin407 : ¬ ((0 : Int32) < 0 ∨ cl407.slots.size ≤ ((0 : Int32)).toNatClampNeg) := inb_of S407 ⟨by decide, by decide⟩
  refine Goes.step (T2 := T406) (g2 := (mkF m 78 #[iv p1, iv p2, iv p3, iv p4, rv b398, iv f, iv t, rv b404, .unset] [(.int c0)])) (X406.caload hx (j := (0 : Int32)) (v := (.int c0)) (own_at rfl Ar407.1) (State.isArrayOf_alike hZ.alike Ar407.2.1) Ar407.2.2 hin407 (H407.at hin407 rfl) (g := (mkF m 77 #[iv p1, iv p2, iv p3, iv p4, rv b398, iv f, iv t, rv b404, .unset] [(.int (0 : Int32)), (.ref b398)])) rfl rfl (hb hby at_77)) ?_
  refine Goes.step (T2 := T406) (g2 := (mkF m 79 #[iv p1, iv p2, iv p3, iv p4, rv b398, iv f, iv t, rv b404, .unset] [(.int (0 : Int32)), (.int c0)])) (fun _ hr => XS.iconst X406.here hx rfl (hb hby at_78) hr) ?_
  refine Goes.step (T2 := T406) (g2 := (mkF m 81 #[iv p1, iv p2, iv p3, iv p4, rv b398, iv f, iv t, rv b404, .unset] [(.int f), (.int (0 : Int32)), (.int c0)])) (fun _ hr => XS.iload X406.here hx rfl (hb hby at_79) rfl  hr) ?_
  refine Goes.step (T2 := T406) (g2 := (mkF m 83 #[iv p1, iv p2, iv p3, iv p4, rv b398, iv f, iv t, rv b404, .unset] [(.int t), (.int f), (.int (0 : Int32)), (.int c0)])) (fun _ hr => XS.iload X406.here hx rfl (hb hby at_81) rfl  hr) ?_
  have Zs408 : n0 ≤ T406.heap.size := Nat.le_trans Z0 K406.1
  obtain ⟨_, _, ⟨T409, L409, k409, n409⟩, -, X409, ⟨Lc409, hQ409, l409, y409, z409⟩, st409⟩ := Jvm.LawKit.callS X406 hx (y := Y19) hown (mvT hZ (tw hw 32 rfl)) (mvT hZ (tw hw 33 rfl)) (mvT hZ (tw hw 34 rfl)) (mvT hZ (tw hw 35 rfl)) (by decide) (backOf (W := 0) (rm_ok l Z a0 hw [] c0 (0 : Int32) f t T406.heap n0 Zs408 (Old.keep O0 K406 hws)) hZ (tw hw 35 rfl) (tw hw 34 rfl) (by decide) (by decide)) (g := (mkF m 83 #[iv p1, iv p2, iv p3, iv p4, rv b398, iv f, iv t, rv b404, .unset] [(.int t), (.int f), (.int (0 : Int32)), (.int c0)])) rfl (by rw [hml]; rfl) (argsL := [(.int c0), (.int (0 : Int32)), (.int f), (.int t)]) (rest := []) (lenOf pd_15 rfl) rfl (by show 2 * 0 + _ ≤ _; exact Nat.le_of_eq rfl) (hb hby at_83) (fun _ _ => ⟨rfl, rfl, (by decide : 4 + 0 ≤ _), (by decide : 20 + 0 ≤ _)⟩)
  dsimp only [Pt.U, Pt.locs, Pt.cells, Pt.slots] at X409 l409 y409 z409 st409 hQ409
  subst l409 y409 z409
  obtain ⟨rfl, N409q, e409⟩ := hQ409
  have N409 := Fr.app N406 N409q
  refine Goes.step (T2 := T409) (g2 := (mkF m 86 #[iv p1, iv p2, iv p3, iv p4, rv b398, iv f, iv t, rv b404, .unset] [(.int (okv c0 (0 : Int32) f t))])) st409 ?_
  by_cases hc86_410 : (okv c0 (0 : Int32) f t) = (0 : Int32)
  · refine Goes.step (T2 := T409) (g2 := (mkF m 138 #[iv p1, iv p2, iv p3, iv p4, rv b398, iv f, iv t, rv b404, .unset] [])) (fun _ hr => XS.ifYes X409.here hx rfl (pc0 := 86) (pc' := 138) rfl (hb hby at_86) rfl ((if0 _ _).trans (teq hc86_410).1) (by decide) (by decide) hr) ?_
    refine Goes.step (T2 := T409) (g2 := (mkF m 139 #[iv p1, iv p2, iv p3, iv p4, rv b398, iv f, iv t, rv b404, .unset] [(.int (0 : Int32))])) (fun _ hr => XS.iconst X409.here hx rfl (hb hby at_138) hr) ?_
    refine Goes.step (T2 := T409) (g2 := (mkF m 141 #[iv p1, iv p2, iv p3, iv p4, rv b398, iv f, iv t, rv b404, iv 0] [])) (fun _ hr => XS.istore X409.here hx rfl (hb hby at_139) rfl (l' := #[iv p1, iv p2, iv p3, iv p4, rv b398, iv f, iv t, rv b404, iv 0]) rfl hr) ?_
    refine Goes.step (T2 := T409) (g2 := (mkF m 143 #[iv p1, iv p2, iv p3, iv p4, rv b398, iv f, iv t, rv b404, iv 0] [(.ref b404)])) (fun _ hr => XS.aload X409.here hx rfl (hb hby at_141) rfl rfl hr) ?_
    refine Goes.step (T2 := T409) (g2 := (mkF m 145 #[iv p1, iv p2, iv p3, iv p4, rv b398, iv f, iv t, rv b404, iv 0] [(.int f), (.ref b404)])) (fun _ hr => XS.iload X409.here hx rfl (hb hby at_143) rfl  hr) ?_
    refine Goes.step (T2 := T409) (g2 := (mkF m 147 #[iv p1, iv p2, iv p3, iv p4, rv b398, iv f, iv t, rv b404, iv 0] [(.int t), (.int f), (.ref b404)])) (fun _ hr => XS.iload X409.here hx rfl (hb hby at_145) rfl  hr) ?_
    have Zs411 : n0 ≤ T406.heap.size := Nat.le_trans Z0 K406.1
    obtain ⟨_, _, ⟨T412, L412, k412, n412⟩, -, X412, ⟨Lc412, hQ412, l412, y412, z412⟩, st412⟩ := Jvm.LawKit.callS X409 hx (y := Y18) hown (mvT hZ (tw hw 36 rfl)) (mvT hZ (tw hw 37 rfl)) (mvT hZ (tw hw 38 rfl)) (mvT hZ (tw hw 39 rfl)) (by decide) (backOf (W := 0) (rm_ad l Z a0 hw [] b404 cs c0 c1 c2 c3 vf f t T406.heap n0 Zs411 (Old.keep O0 K406 hws) E_b404_406 S_String_COMPACT_STRINGS_old S_Preconditions_SIOOBE_FORMATTER_old S_StringUTF16__assertionsDisabled_old S_StringUTF16_HI_BYTE_SHIFT_old S_StringUTF16_LO_BYTE_SHIFT_old hcs hvf hb0 hb1 hb2 hb3 P406_0 hf ht) hZ (tw hw 39 rfl) (tw hw 38 rfl) (by decide) (by decide)) (g := (mkF m 147 #[iv p1, iv p2, iv p3, iv p4, rv b398, iv f, iv t, rv b404, iv 0] [(.int t), (.int f), (.ref b404)])) rfl (by rw [hml]; rfl) (argsL := [(.ref b404), (.int f), (.int t)]) (rest := []) (lenOf pd_16 rfl) rfl (by show 2 * 0 + _ ≤ _; exact Nat.le_of_eq rfl) (hb hby at_147) (fun _ _ => ⟨rfl, e409, (by decide : 4 + 0 ≤ _), (by decide : 20 + 0 ≤ _)⟩)
    dsimp only [Pt.U, Pt.locs, Pt.cells, Pt.slots] at X412 l412 y412 z412 st412 hQ412
    subst l412 y412 z412
    obtain ⟨rfl, N412q, e412⟩ := hQ412
    have N412 := Fr.app N409 N412q
    refine Goes.step (T2 := T412) (g2 := (mkF m 150 #[iv p1, iv p2, iv p3, iv p4, rv b398, iv f, iv t, rv b404, iv 0] [(.int (adv c0 c1 c2 c3 f t))])) st412 ?_
    rw [show (adv c0 c1 c2 c3 f t) = (0 : Int32) from by rw [own_adv hf ht]; simp [hc86_410]]
    refine Goes.step (T2 := T412) (g2 := (mkF m 152 #[iv p1, iv p2, iv p3, iv p4, rv b398, iv f, iv t, rv b404, iv 0] [(.int (0 : Int32)), (.int (0 : Int32))])) (fun _ hr => XS.iload X412.here hx rfl (hb hby at_150) rfl  hr) ?_
    refine Goes.step (T2 := T412) (g2 := (mkF m 155 #[iv p1, iv p2, iv p3, iv p4, rv b398, iv f, iv t, rv b404, iv 0] [])) (fun _ hr => XS.icmpNo X412.here hx rfl (hb hby at_152) rfl (teq (by decide : (0 : Int32) = (0 : Int32))).2 hr) ?_
    refine Goes.step (T2 := T412) (g2 := (mkF m 156 #[iv p1, iv p2, iv p3, iv p4, rv b398, iv f, iv t, rv b404, iv 0] [(.int (1 : Int32))])) (fun _ hr => XS.iconst X412.here hx rfl (hb hby at_155) hr) ?_
    refine Goes.step (T2 := T412) (g2 := (mkF m 160 #[iv p1, iv p2, iv p3, iv p4, rv b398, iv f, iv t, rv b404, iv 0] [(.int (1 : Int32))])) (fun _ hr => XS.goto X412.here hx rfl (pc0 := 156) (pc' := 160) rfl (hb hby at_156) (by decide) (by decide) hr) ?_
    exact Goes.ret (v := some (.int (1 : Int32))) X412 (by decide) (by decide) (fun h => by rw [Bd.returns] at h; cases h) ⟨rfl, N412⟩ (fun fs hr => retN X412 hx (t := .boolean) Bd.returns (by simp) (hb hby at_160) hr)
  · refine Goes.step (T2 := T409) (g2 := (mkF m 89 #[iv p1, iv p2, iv p3, iv p4, rv b398, iv f, iv t, rv b404, .unset] [])) (fun _ hr => XS.ifNo X409.here hx rfl (hb hby at_86) rfl ((if0 _ _).trans (feq hc86_410).1) hr) ?_
    refine Goes.step (T2 := T409) (g2 := (mkF m 91 #[iv p1, iv p2, iv p3, iv p4, rv b398, iv f, iv t, rv b404, .unset] [(.ref b398)])) (fun _ hr => XS.aload X409.here hx rfl (hb hby at_89) rfl rfl hr) ?_
    refine Goes.step (T2 := T409) (g2 := (mkF m 92 #[iv p1, iv p2, iv p3, iv p4, rv b398, iv f, iv t, rv b404, .unset] [(.int (1 : Int32)), (.ref b398)])) (fun _ hr => XS.iconst X409.here hx rfl (hb hby at_91) hr) ?_
    obtain ⟨cl413, Ar413, q413, S413, Nn413, H413, G413⟩ := id V_b398_406
    have hin413 : ¬ ((1 : Int32) < 0 ∨ cl413.slots.size ≤ ((1 : Int32)).toNatClampNeg) := inb_of S413 ⟨by decide, by decide⟩
    refine Goes.step (T2 := T409) (g2 := (mkF m 93 #[iv p1, iv p2, iv p3, iv p4, rv b398, iv f, iv t, rv b404, .unset] [(.int c1)])) (X409.caload hx (j := (1 : Int32)) (v := (.int c1)) (own_at e409 Ar413.1) (State.isArrayOf_alike hZ.alike Ar413.2.1) Ar413.2.2 hin413 (H413.at hin413 rfl) (g := (mkF m 92 #[iv p1, iv p2, iv p3, iv p4, rv b398, iv f, iv t, rv b404, .unset] [(.int (1 : Int32)), (.ref b398)])) rfl rfl (hb hby at_92)) ?_
    refine Goes.step (T2 := T409) (g2 := (mkF m 94 #[iv p1, iv p2, iv p3, iv p4, rv b398, iv f, iv t, rv b404, .unset] [(.int (1 : Int32)), (.int c1)])) (fun _ hr => XS.iconst X409.here hx rfl (hb hby at_93) hr) ?_
    refine Goes.step (T2 := T409) (g2 := (mkF m 96 #[iv p1, iv p2, iv p3, iv p4, rv b398, iv f, iv t, rv b404, .unset] [(.int f), (.int (1 : Int32)), (.int c1)])) (fun _ hr => XS.iload X409.here hx rfl (hb hby at_94) rfl  hr) ?_
    refine Goes.step (T2 := T409) (g2 := (mkF m 98 #[iv p1, iv p2, iv p3, iv p4, rv b398, iv f, iv t, rv b404, .unset] [(.int t), (.int f), (.int (1 : Int32)), (.int c1)])) (fun _ hr => XS.iload X409.here hx rfl (hb hby at_96) rfl  hr) ?_
    have Zs414 : n0 ≤ T406.heap.size := Nat.le_trans Z0 K406.1
    obtain ⟨_, _, ⟨T415, L415, k415, n415⟩, -, X415, ⟨Lc415, hQ415, l415, y415, z415⟩, st415⟩ := Jvm.LawKit.callS X409 hx (y := Y19) hown (mvT hZ (tw hw 32 rfl)) (mvT hZ (tw hw 33 rfl)) (mvT hZ (tw hw 34 rfl)) (mvT hZ (tw hw 35 rfl)) (by decide) (backOf (W := 0) (rm_ok l Z a0 hw [] c1 (1 : Int32) f t T406.heap n0 Zs414 (Old.keep O0 K406 hws)) hZ (tw hw 35 rfl) (tw hw 34 rfl) (by decide) (by decide)) (g := (mkF m 98 #[iv p1, iv p2, iv p3, iv p4, rv b398, iv f, iv t, rv b404, .unset] [(.int t), (.int f), (.int (1 : Int32)), (.int c1)])) rfl (by rw [hml]; rfl) (argsL := [(.int c1), (.int (1 : Int32)), (.int f), (.int t)]) (rest := []) (lenOf pd_15 rfl) rfl (by show 2 * 0 + _ ≤ _; exact Nat.le_of_eq rfl) (hb hby at_98) (fun _ _ => ⟨rfl, e409, (by decide : 4 + 0 ≤ _), (by decide : 20 + 0 ≤ _)⟩)
    dsimp only [Pt.U, Pt.locs, Pt.cells, Pt.slots] at X415 l415 y415 z415 st415 hQ415
    subst l415 y415 z415
    obtain ⟨rfl, N415q, e415⟩ := hQ415
    have N415 := Fr.app N409 N415q
    refine Goes.step (T2 := T415) (g2 := (mkF m 101 #[iv p1, iv p2, iv p3, iv p4, rv b398, iv f, iv t, rv b404, .unset] [(.int (okv c1 (1 : Int32) f t))])) st415 ?_
    by_cases hc101_416 : (okv c1 (1 : Int32) f t) = (0 : Int32)
    · refine Goes.step (T2 := T415) (g2 := (mkF m 138 #[iv p1, iv p2, iv p3, iv p4, rv b398, iv f, iv t, rv b404, .unset] [])) (fun _ hr => XS.ifYes X415.here hx rfl (pc0 := 101) (pc' := 138) rfl (hb hby at_101) rfl ((if0 _ _).trans (teq hc101_416).1) (by decide) (by decide) hr) ?_
      refine Goes.step (T2 := T415) (g2 := (mkF m 139 #[iv p1, iv p2, iv p3, iv p4, rv b398, iv f, iv t, rv b404, .unset] [(.int (0 : Int32))])) (fun _ hr => XS.iconst X415.here hx rfl (hb hby at_138) hr) ?_
      refine Goes.step (T2 := T415) (g2 := (mkF m 141 #[iv p1, iv p2, iv p3, iv p4, rv b398, iv f, iv t, rv b404, iv 0] [])) (fun _ hr => XS.istore X415.here hx rfl (hb hby at_139) rfl (l' := #[iv p1, iv p2, iv p3, iv p4, rv b398, iv f, iv t, rv b404, iv 0]) rfl hr) ?_
      refine Goes.step (T2 := T415) (g2 := (mkF m 143 #[iv p1, iv p2, iv p3, iv p4, rv b398, iv f, iv t, rv b404, iv 0] [(.ref b404)])) (fun _ hr => XS.aload X415.here hx rfl (hb hby at_141) rfl rfl hr) ?_
      refine Goes.step (T2 := T415) (g2 := (mkF m 145 #[iv p1, iv p2, iv p3, iv p4, rv b398, iv f, iv t, rv b404, iv 0] [(.int f), (.ref b404)])) (fun _ hr => XS.iload X415.here hx rfl (hb hby at_143) rfl  hr) ?_
      refine Goes.step (T2 := T415) (g2 := (mkF m 147 #[iv p1, iv p2, iv p3, iv p4, rv b398, iv f, iv t, rv b404, iv 0] [(.int t), (.int f), (.ref b404)])) (fun _ hr => XS.iload X415.here hx rfl (hb hby at_145) rfl  hr) ?_
      have Zs417 : n0 ≤ T406.heap.size := Nat.le_trans Z0 K406.1
      obtain ⟨_, _, ⟨T418, L418, k418, n418⟩, -, X418, ⟨Lc418, hQ418, l418, y418, z418⟩, st418⟩ := Jvm.LawKit.callS X415 hx (y := Y18) hown (mvT hZ (tw hw 36 rfl)) (mvT hZ (tw hw 37 rfl)) (mvT hZ (tw hw 38 rfl)) (mvT hZ (tw hw 39 rfl)) (by decide) (backOf (W := 0) (rm_ad l Z a0 hw [] b404 cs c0 c1 c2 c3 vf f t T406.heap n0 Zs417 (Old.keep O0 K406 hws) E_b404_406 S_String_COMPACT_STRINGS_old S_Preconditions_SIOOBE_FORMATTER_old S_StringUTF16__assertionsDisabled_old S_StringUTF16_HI_BYTE_SHIFT_old S_StringUTF16_LO_BYTE_SHIFT_old hcs hvf hb0 hb1 hb2 hb3 P406_0 hf ht) hZ (tw hw 39 rfl) (tw hw 38 rfl) (by decide) (by decide)) (g := (mkF m 147 #[iv p1, iv p2, iv p3, iv p4, rv b398, iv f, iv t, rv b404, iv 0] [(.int t), (.int f), (.ref b404)])) rfl (by rw [hml]; rfl) (argsL := [(.ref b404), (.int f), (.int t)]) (rest := []) (lenOf pd_16 rfl) rfl (by show 2 * 0 + _ ≤ _; exact Nat.le_of_eq rfl) (hb hby at_147) (fun _ _ => ⟨rfl, e415, (by decide : 4 + 0 ≤ _), (by decide : 20 + 0 ≤ _)⟩)
      dsimp only [Pt.U, Pt.locs, Pt.cells, Pt.slots] at X418 l418 y418 z418 st418 hQ418
      subst l418 y418 z418
      obtain ⟨rfl, N418q, e418⟩ := hQ418
      have N418 := Fr.app N415 N418q
      refine Goes.step (T2 := T418) (g2 := (mkF m 150 #[iv p1, iv p2, iv p3, iv p4, rv b398, iv f, iv t, rv b404, iv 0] [(.int (adv c0 c1 c2 c3 f t))])) st418 ?_
      rw [show (adv c0 c1 c2 c3 f t) = (0 : Int32) from by rw [own_adv hf ht]; simp [hc86_410, hc101_416]]
      refine Goes.step (T2 := T418) (g2 := (mkF m 152 #[iv p1, iv p2, iv p3, iv p4, rv b398, iv f, iv t, rv b404, iv 0] [(.int (0 : Int32)), (.int (0 : Int32))])) (fun _ hr => XS.iload X418.here hx rfl (hb hby at_150) rfl  hr) ?_
      refine Goes.step (T2 := T418) (g2 := (mkF m 155 #[iv p1, iv p2, iv p3, iv p4, rv b398, iv f, iv t, rv b404, iv 0] [])) (fun _ hr => XS.icmpNo X418.here hx rfl (hb hby at_152) rfl (teq (by decide : (0 : Int32) = (0 : Int32))).2 hr) ?_
      refine Goes.step (T2 := T418) (g2 := (mkF m 156 #[iv p1, iv p2, iv p3, iv p4, rv b398, iv f, iv t, rv b404, iv 0] [(.int (1 : Int32))])) (fun _ hr => XS.iconst X418.here hx rfl (hb hby at_155) hr) ?_
      refine Goes.step (T2 := T418) (g2 := (mkF m 160 #[iv p1, iv p2, iv p3, iv p4, rv b398, iv f, iv t, rv b404, iv 0] [(.int (1 : Int32))])) (fun _ hr => XS.goto X418.here hx rfl (pc0 := 156) (pc' := 160) rfl (hb hby at_156) (by decide) (by decide) hr) ?_
      exact Goes.ret (v := some (.int (1 : Int32))) X418 (by decide) (by decide) (fun h => by rw [Bd.returns] at h; cases h) ⟨rfl, N418⟩ (fun fs hr => retN X418 hx (t := .boolean) Bd.returns (by simp) (hb hby at_160) hr)
    · refine Goes.step (T2 := T415) (g2 := (mkF m 104 #[iv p1, iv p2, iv p3, iv p4, rv b398, iv f, iv t, rv b404, .unset] [])) (fun _ hr => XS.ifNo X415.here hx rfl (hb hby at_101) rfl ((if0 _ _).trans (feq hc101_416).1) hr) ?_
      refine Goes.step (T2 := T415) (g2 := (mkF m 106 #[iv p1, iv p2, iv p3, iv p4, rv b398, iv f, iv t, rv b404, .unset] [(.ref b398)])) (fun _ hr => XS.aload X415.here hx rfl (hb hby at_104) rfl rfl hr) ?_
      refine Goes.step (T2 := T415) (g2 := (mkF m 107 #[iv p1, iv p2, iv p3, iv p4, rv b398, iv f, iv t, rv b404, .unset] [(.int (2 : Int32)), (.ref b398)])) (fun _ hr => XS.iconst X415.here hx rfl (hb hby at_106) hr) ?_
      obtain ⟨cl419, Ar419, q419, S419, Nn419, H419, G419⟩ := id V_b398_406
      have hin419 : ¬ ((2 : Int32) < 0 ∨ cl419.slots.size ≤ ((2 : Int32)).toNatClampNeg) := inb_of S419 ⟨by decide, by decide⟩
      refine Goes.step (T2 := T415) (g2 := (mkF m 108 #[iv p1, iv p2, iv p3, iv p4, rv b398, iv f, iv t, rv b404, .unset] [(.int c2)])) (X415.caload hx (j := (2 : Int32)) (v := (.int c2)) (own_at e415 Ar419.1) (State.isArrayOf_alike hZ.alike Ar419.2.1) Ar419.2.2 hin419 (H419.at hin419 rfl) (g := (mkF m 107 #[iv p1, iv p2, iv p3, iv p4, rv b398, iv f, iv t, rv b404, .unset] [(.int (2 : Int32)), (.ref b398)])) rfl rfl (hb hby at_107)) ?_
      refine Goes.step (T2 := T415) (g2 := (mkF m 109 #[iv p1, iv p2, iv p3, iv p4, rv b398, iv f, iv t, rv b404, .unset] [(.int (2 : Int32)), (.int c2)])) (fun _ hr => XS.iconst X415.here hx rfl (hb hby at_108) hr) ?_
      refine Goes.step (T2 := T415) (g2 := (mkF m 111 #[iv p1, iv p2, iv p3, iv p4, rv b398, iv f, iv t, rv b404, .unset] [(.int f), (.int (2 : Int32)), (.int c2)])) (fun _ hr => XS.iload X415.here hx rfl (hb hby at_109) rfl  hr) ?_
      refine Goes.step (T2 := T415) (g2 := (mkF m 113 #[iv p1, iv p2, iv p3, iv p4, rv b398, iv f, iv t, rv b404, .unset] [(.int t), (.int f), (.int (2 : Int32)), (.int c2)])) (fun _ hr => XS.iload X415.here hx rfl (hb hby at_111) rfl  hr) ?_
      have Zs420 : n0 ≤ T406.heap.size := Nat.le_trans Z0 K406.1
      obtain ⟨_, _, ⟨T421, L421, k421, n421⟩, -, X421, ⟨Lc421, hQ421, l421, y421, z421⟩, st421⟩ := Jvm.LawKit.callS X415 hx (y := Y19) hown (mvT hZ (tw hw 32 rfl)) (mvT hZ (tw hw 33 rfl)) (mvT hZ (tw hw 34 rfl)) (mvT hZ (tw hw 35 rfl)) (by decide) (backOf (W := 0) (rm_ok l Z a0 hw [] c2 (2 : Int32) f t T406.heap n0 Zs420 (Old.keep O0 K406 hws)) hZ (tw hw 35 rfl) (tw hw 34 rfl) (by decide) (by decide)) (g := (mkF m 113 #[iv p1, iv p2, iv p3, iv p4, rv b398, iv f, iv t, rv b404, .unset] [(.int t), (.int f), (.int (2 : Int32)), (.int c2)])) rfl (by rw [hml]; rfl) (argsL := [(.int c2), (.int (2 : Int32)), (.int f), (.int t)]) (rest := []) (lenOf pd_15 rfl) rfl (by show 2 * 0 + _ ≤ _; exact Nat.le_of_eq rfl) (hb hby at_113) (fun _ _ => ⟨rfl, e415, (by decide : 4 + 0 ≤ _), (by decide : 20 + 0 ≤ _)⟩)
      dsimp only [Pt.U, Pt.locs, Pt.cells, Pt.slots] at X421 l421 y421 z421 st421 hQ421
      subst l421 y421 z421
      obtain ⟨rfl, N421q, e421⟩ := hQ421
      have N421 := Fr.app N415 N421q
      refine Goes.step (T2 := T421) (g2 := (mkF m 116 #[iv p1, iv p2, iv p3, iv p4, rv b398, iv f, iv t, rv b404, .unset] [(.int (okv c2 (2 : Int32) f t))])) st421 ?_
      by_cases hc116_422 : (okv c2 (2 : Int32) f t) = (0 : Int32)
      · refine Goes.step (T2 := T421) (g2 := (mkF m 138 #[iv p1, iv p2, iv p3, iv p4, rv b398, iv f, iv t, rv b404, .unset] [])) (fun _ hr => XS.ifYes X421.here hx rfl (pc0 := 116) (pc' := 138) rfl (hb hby at_116) rfl ((if0 _ _).trans (teq hc116_422).1) (by decide) (by decide) hr) ?_
        refine Goes.step (T2 := T421) (g2 := (mkF m 139 #[iv p1, iv p2, iv p3, iv p4, rv b398, iv f, iv t, rv b404, .unset] [(.int (0 : Int32))])) (fun _ hr => XS.iconst X421.here hx rfl (hb hby at_138) hr) ?_
        refine Goes.step (T2 := T421) (g2 := (mkF m 141 #[iv p1, iv p2, iv p3, iv p4, rv b398, iv f, iv t, rv b404, iv 0] [])) (fun _ hr => XS.istore X421.here hx rfl (hb hby at_139) rfl (l' := #[iv p1, iv p2, iv p3, iv p4, rv b398, iv f, iv t, rv b404, iv 0]) rfl hr) ?_
        refine Goes.step (T2 := T421) (g2 := (mkF m 143 #[iv p1, iv p2, iv p3, iv p4, rv b398, iv f, iv t, rv b404, iv 0] [(.ref b404)])) (fun _ hr => XS.aload X421.here hx rfl (hb hby at_141) rfl rfl hr) ?_
        refine Goes.step (T2 := T421) (g2 := (mkF m 145 #[iv p1, iv p2, iv p3, iv p4, rv b398, iv f, iv t, rv b404, iv 0] [(.int f), (.ref b404)])) (fun _ hr => XS.iload X421.here hx rfl (hb hby at_143) rfl  hr) ?_
        refine Goes.step (T2 := T421) (g2 := (mkF m 147 #[iv p1, iv p2, iv p3, iv p4, rv b398, iv f, iv t, rv b404, iv 0] [(.int t), (.int f), (.ref b404)])) (fun _ hr => XS.iload X421.here hx rfl (hb hby at_145) rfl  hr) ?_
        have Zs423 : n0 ≤ T406.heap.size := Nat.le_trans Z0 K406.1
        obtain ⟨_, _, ⟨T424, L424, k424, n424⟩, -, X424, ⟨Lc424, hQ424, l424, y424, z424⟩, st424⟩ := Jvm.LawKit.callS X421 hx (y := Y18) hown (mvT hZ (tw hw 36 rfl)) (mvT hZ (tw hw 37 rfl)) (mvT hZ (tw hw 38 rfl)) (mvT hZ (tw hw 39 rfl)) (by decide) (backOf (W := 0) (rm_ad l Z a0 hw [] b404 cs c0 c1 c2 c3 vf f t T406.heap n0 Zs423 (Old.keep O0 K406 hws) E_b404_406 S_String_COMPACT_STRINGS_old S_Preconditions_SIOOBE_FORMATTER_old S_StringUTF16__assertionsDisabled_old S_StringUTF16_HI_BYTE_SHIFT_old S_StringUTF16_LO_BYTE_SHIFT_old hcs hvf hb0 hb1 hb2 hb3 P406_0 hf ht) hZ (tw hw 39 rfl) (tw hw 38 rfl) (by decide) (by decide)) (g := (mkF m 147 #[iv p1, iv p2, iv p3, iv p4, rv b398, iv f, iv t, rv b404, iv 0] [(.int t), (.int f), (.ref b404)])) rfl (by rw [hml]; rfl) (argsL := [(.ref b404), (.int f), (.int t)]) (rest := []) (lenOf pd_16 rfl) rfl (by show 2 * 0 + _ ≤ _; exact Nat.le_of_eq rfl) (hb hby at_147) (fun _ _ => ⟨rfl, e421, (by decide : 4 + 0 ≤ _), (by decide : 20 + 0 ≤ _)⟩)
        dsimp only [Pt.U, Pt.locs, Pt.cells, Pt.slots] at X424 l424 y424 z424 st424 hQ424
        subst l424 y424 z424
        obtain ⟨rfl, N424q, e424⟩ := hQ424
        have N424 := Fr.app N421 N424q
        refine Goes.step (T2 := T424) (g2 := (mkF m 150 #[iv p1, iv p2, iv p3, iv p4, rv b398, iv f, iv t, rv b404, iv 0] [(.int (adv c0 c1 c2 c3 f t))])) st424 ?_
        rw [show (adv c0 c1 c2 c3 f t) = (0 : Int32) from by rw [own_adv hf ht]; simp [hc86_410, hc101_416, hc116_422]]
        refine Goes.step (T2 := T424) (g2 := (mkF m 152 #[iv p1, iv p2, iv p3, iv p4, rv b398, iv f, iv t, rv b404, iv 0] [(.int (0 : Int32)), (.int (0 : Int32))])) (fun _ hr => XS.iload X424.here hx rfl (hb hby at_150) rfl  hr) ?_
        refine Goes.step (T2 := T424) (g2 := (mkF m 155 #[iv p1, iv p2, iv p3, iv p4, rv b398, iv f, iv t, rv b404, iv 0] [])) (fun _ hr => XS.icmpNo X424.here hx rfl (hb hby at_152) rfl (teq (by decide : (0 : Int32) = (0 : Int32))).2 hr) ?_
        refine Goes.step (T2 := T424) (g2 := (mkF m 156 #[iv p1, iv p2, iv p3, iv p4, rv b398, iv f, iv t, rv b404, iv 0] [(.int (1 : Int32))])) (fun _ hr => XS.iconst X424.here hx rfl (hb hby at_155) hr) ?_
        refine Goes.step (T2 := T424) (g2 := (mkF m 160 #[iv p1, iv p2, iv p3, iv p4, rv b398, iv f, iv t, rv b404, iv 0] [(.int (1 : Int32))])) (fun _ hr => XS.goto X424.here hx rfl (pc0 := 156) (pc' := 160) rfl (hb hby at_156) (by decide) (by decide) hr) ?_
        exact Goes.ret (v := some (.int (1 : Int32))) X424 (by decide) (by decide) (fun h => by rw [Bd.returns] at h; cases h) ⟨rfl, N424⟩ (fun fs hr => retN X424 hx (t := .boolean) Bd.returns (by simp) (hb hby at_160) hr)
      · refine Goes.step (T2 := T421) (g2 := (mkF m 119 #[iv p1, iv p2, iv p3, iv p4, rv b398, iv f, iv t, rv b404, .unset] [])) (fun _ hr => XS.ifNo X421.here hx rfl (hb hby at_116) rfl ((if0 _ _).trans (feq hc116_422).1) hr) ?_
        refine Goes.step (T2 := T421) (g2 := (mkF m 121 #[iv p1, iv p2, iv p3, iv p4, rv b398, iv f, iv t, rv b404, .unset] [(.ref b398)])) (fun _ hr => XS.aload X421.here hx rfl (hb hby at_119) rfl rfl hr) ?_
        refine Goes.step (T2 := T421) (g2 := (mkF m 122 #[iv p1, iv p2, iv p3, iv p4, rv b398, iv f, iv t, rv b404, .unset] [(.int (3 : Int32)), (.ref b398)])) (fun _ hr => XS.iconst X421.here hx rfl (hb hby at_121) hr) ?_
        obtain ⟨cl425, Ar425, q425, S425, Nn425, H425, G425⟩ := id V_b398_406
        have hin425 : ¬ ((3 : Int32) < 0 ∨ cl425.slots.size ≤ ((3 : Int32)).toNatClampNeg) := inb_of S425 ⟨by decide, by decide⟩
        refine Goes.step (T2 := T421) (g2 := (mkF m 123 #[iv p1, iv p2, iv p3, iv p4, rv b398, iv f, iv t, rv b404, .unset] [(.int c3)])) (X421.caload hx (j := (3 : Int32)) (v := (.int c3)) (own_at e421 Ar425.1) (State.isArrayOf_alike hZ.alike Ar425.2.1) Ar425.2.2 hin425 (H425.at hin425 rfl) (g := (mkF m 122 #[iv p1, iv p2, iv p3, iv p4, rv b398, iv f, iv t, rv b404, .unset] [(.int (3 : Int32)), (.ref b398)])) rfl rfl (hb hby at_122)) ?_
        refine Goes.step (T2 := T421) (g2 := (mkF m 124 #[iv p1, iv p2, iv p3, iv p4, rv b398, iv f, iv t, rv b404, .unset] [(.int (3 : Int32)), (.int c3)])) (fun _ hr => XS.iconst X421.here hx rfl (hb hby at_123) hr) ?_
        refine Goes.step (T2 := T421) (g2 := (mkF m 126 #[iv p1, iv p2, iv p3, iv p4, rv b398, iv f, iv t, rv b404, .unset] [(.int f), (.int (3 : Int32)), (.int c3)])) (fun _ hr => XS.iload X421.here hx rfl (hb hby at_124) rfl  hr) ?_
        refine Goes.step (T2 := T421) (g2 := (mkF m 128 #[iv p1, iv p2, iv p3, iv p4, rv b398, iv f, iv t, rv b404, .unset] [(.int t), (.int f), (.int (3 : Int32)), (.int c3)])) (fun _ hr => XS.iload X421.here hx rfl (hb hby at_126) rfl  hr) ?_
        have Zs426 : n0 ≤ T406.heap.size := Nat.le_trans Z0 K406.1
        obtain ⟨_, _, ⟨T427, L427, k427, n427⟩, -, X427, ⟨Lc427, hQ427, l427, y427, z427⟩, st427⟩ := Jvm.LawKit.callS X421 hx (y := Y19) hown (mvT hZ (tw hw 32 rfl)) (mvT hZ (tw hw 33 rfl)) (mvT hZ (tw hw 34 rfl)) (mvT hZ (tw hw 35 rfl)) (by decide) (backOf (W := 0) (rm_ok l Z a0 hw [] c3 (3 : Int32) f t T406.heap n0 Zs426 (Old.keep O0 K406 hws)) hZ (tw hw 35 rfl) (tw hw 34 rfl) (by decide) (by decide)) (g := (mkF m 128 #[iv p1, iv p2, iv p3, iv p4, rv b398, iv f, iv t, rv b404, .unset] [(.int t), (.int f), (.int (3 : Int32)), (.int c3)])) rfl (by rw [hml]; rfl) (argsL := [(.int c3), (.int (3 : Int32)), (.int f), (.int t)]) (rest := []) (lenOf pd_15 rfl) rfl (by show 2 * 0 + _ ≤ _; exact Nat.le_of_eq rfl) (hb hby at_128) (fun _ _ => ⟨rfl, e421, (by decide : 4 + 0 ≤ _), (by decide : 20 + 0 ≤ _)⟩)
        dsimp only [Pt.U, Pt.locs, Pt.cells, Pt.slots] at X427 l427 y427 z427 st427 hQ427
        subst l427 y427 z427
        obtain ⟨rfl, N427q, e427⟩ := hQ427
        have N427 := Fr.app N421 N427q
        refine Goes.step (T2 := T427) (g2 := (mkF m 131 #[iv p1, iv p2, iv p3, iv p4, rv b398, iv f, iv t, rv b404, .unset] [(.int (okv c3 (3 : Int32) f t))])) st427 ?_
        by_cases hc131_428 : (okv c3 (3 : Int32) f t) = (0 : Int32)
        · refine Goes.step (T2 := T427) (g2 := (mkF m 138 #[iv p1, iv p2, iv p3, iv p4, rv b398, iv f, iv t, rv b404, .unset] [])) (fun _ hr => XS.ifYes X427.here hx rfl (pc0 := 131) (pc' := 138) rfl (hb hby at_131) rfl ((if0 _ _).trans (teq hc131_428).1) (by decide) (by decide) hr) ?_
          refine Goes.step (T2 := T427) (g2 := (mkF m 139 #[iv p1, iv p2, iv p3, iv p4, rv b398, iv f, iv t, rv b404, .unset] [(.int (0 : Int32))])) (fun _ hr => XS.iconst X427.here hx rfl (hb hby at_138) hr) ?_
          refine Goes.step (T2 := T427) (g2 := (mkF m 141 #[iv p1, iv p2, iv p3, iv p4, rv b398, iv f, iv t, rv b404, iv 0] [])) (fun _ hr => XS.istore X427.here hx rfl (hb hby at_139) rfl (l' := #[iv p1, iv p2, iv p3, iv p4, rv b398, iv f, iv t, rv b404, iv 0]) rfl hr) ?_
          refine Goes.step (T2 := T427) (g2 := (mkF m 143 #[iv p1, iv p2, iv p3, iv p4, rv b398, iv f, iv t, rv b404, iv 0] [(.ref b404)])) (fun _ hr => XS.aload X427.here hx rfl (hb hby at_141) rfl rfl hr) ?_
          refine Goes.step (T2 := T427) (g2 := (mkF m 145 #[iv p1, iv p2, iv p3, iv p4, rv b398, iv f, iv t, rv b404, iv 0] [(.int f), (.ref b404)])) (fun _ hr => XS.iload X427.here hx rfl (hb hby at_143) rfl  hr) ?_
          refine Goes.step (T2 := T427) (g2 := (mkF m 147 #[iv p1, iv p2, iv p3, iv p4, rv b398, iv f, iv t, rv b404, iv 0] [(.int t), (.int f), (.ref b404)])) (fun _ hr => XS.iload X427.here hx rfl (hb hby at_145) rfl  hr) ?_
          have Zs429 : n0 ≤ T406.heap.size := Nat.le_trans Z0 K406.1
          obtain ⟨_, _, ⟨T430, L430, k430, n430⟩, -, X430, ⟨Lc430, hQ430, l430, y430, z430⟩, st430⟩ := Jvm.LawKit.callS X427 hx (y := Y18) hown (mvT hZ (tw hw 36 rfl)) (mvT hZ (tw hw 37 rfl)) (mvT hZ (tw hw 38 rfl)) (mvT hZ (tw hw 39 rfl)) (by decide) (backOf (W := 0) (rm_ad l Z a0 hw [] b404 cs c0 c1 c2 c3 vf f t T406.heap n0 Zs429 (Old.keep O0 K406 hws) E_b404_406 S_String_COMPACT_STRINGS_old S_Preconditions_SIOOBE_FORMATTER_old S_StringUTF16__assertionsDisabled_old S_StringUTF16_HI_BYTE_SHIFT_old S_StringUTF16_LO_BYTE_SHIFT_old hcs hvf hb0 hb1 hb2 hb3 P406_0 hf ht) hZ (tw hw 39 rfl) (tw hw 38 rfl) (by decide) (by decide)) (g := (mkF m 147 #[iv p1, iv p2, iv p3, iv p4, rv b398, iv f, iv t, rv b404, iv 0] [(.int t), (.int f), (.ref b404)])) rfl (by rw [hml]; rfl) (argsL := [(.ref b404), (.int f), (.int t)]) (rest := []) (lenOf pd_16 rfl) rfl (by show 2 * 0 + _ ≤ _; exact Nat.le_of_eq rfl) (hb hby at_147) (fun _ _ => ⟨rfl, e427, (by decide : 4 + 0 ≤ _), (by decide : 20 + 0 ≤ _)⟩)
          dsimp only [Pt.U, Pt.locs, Pt.cells, Pt.slots] at X430 l430 y430 z430 st430 hQ430
          subst l430 y430 z430
          obtain ⟨rfl, N430q, e430⟩ := hQ430
          have N430 := Fr.app N427 N430q
          refine Goes.step (T2 := T430) (g2 := (mkF m 150 #[iv p1, iv p2, iv p3, iv p4, rv b398, iv f, iv t, rv b404, iv 0] [(.int (adv c0 c1 c2 c3 f t))])) st430 ?_
          rw [show (adv c0 c1 c2 c3 f t) = (0 : Int32) from by rw [own_adv hf ht]; simp [hc86_410, hc101_416, hc116_422, hc131_428]]
          refine Goes.step (T2 := T430) (g2 := (mkF m 152 #[iv p1, iv p2, iv p3, iv p4, rv b398, iv f, iv t, rv b404, iv 0] [(.int (0 : Int32)), (.int (0 : Int32))])) (fun _ hr => XS.iload X430.here hx rfl (hb hby at_150) rfl  hr) ?_
          refine Goes.step (T2 := T430) (g2 := (mkF m 155 #[iv p1, iv p2, iv p3, iv p4, rv b398, iv f, iv t, rv b404, iv 0] [])) (fun _ hr => XS.icmpNo X430.here hx rfl (hb hby at_152) rfl (teq (by decide : (0 : Int32) = (0 : Int32))).2 hr) ?_
          refine Goes.step (T2 := T430) (g2 := (mkF m 156 #[iv p1, iv p2, iv p3, iv p4, rv b398, iv f, iv t, rv b404, iv 0] [(.int (1 : Int32))])) (fun _ hr => XS.iconst X430.here hx rfl (hb hby at_155) hr) ?_
          refine Goes.step (T2 := T430) (g2 := (mkF m 160 #[iv p1, iv p2, iv p3, iv p4, rv b398, iv f, iv t, rv b404, iv 0] [(.int (1 : Int32))])) (fun _ hr => XS.goto X430.here hx rfl (pc0 := 156) (pc' := 160) rfl (hb hby at_156) (by decide) (by decide) hr) ?_
          exact Goes.ret (v := some (.int (1 : Int32))) X430 (by decide) (by decide) (fun h => by rw [Bd.returns] at h; cases h) ⟨rfl, N430⟩ (fun fs hr => retN X430 hx (t := .boolean) Bd.returns (by simp) (hb hby at_160) hr)
        · refine Goes.step (T2 := T427) (g2 := (mkF m 134 #[iv p1, iv p2, iv p3, iv p4, rv b398, iv f, iv t, rv b404, .unset] [])) (fun _ hr => XS.ifNo X427.here hx rfl (hb hby at_131) rfl ((if0 _ _).trans (feq hc131_428).1) hr) ?_
          refine Goes.step (T2 := T427) (g2 := (mkF m 135 #[iv p1, iv p2, iv p3, iv p4, rv b398, iv f, iv t, rv b404, .unset] [(.int (1 : Int32))])) (fun _ hr => XS.iconst X427.here hx rfl (hb hby at_134) hr) ?_
          refine Goes.step (T2 := T427) (g2 := (mkF m 139 #[iv p1, iv p2, iv p3, iv p4, rv b398, iv f, iv t, rv b404, .unset] [(.int (1 : Int32))])) (fun _ hr => XS.goto X427.here hx rfl (pc0 := 135) (pc' := 139) rfl (hb hby at_135) (by decide) (by decide) hr) ?_
          refine Goes.step (T2 := T427) (g2 := (mkF m 141 #[iv p1, iv p2, iv p3, iv p4, rv b398, iv f, iv t, rv b404, iv 1] [])) (fun _ hr => XS.istore X427.here hx rfl (hb hby at_139) rfl (l' := #[iv p1, iv p2, iv p3, iv p4, rv b398, iv f, iv t, rv b404, iv 1]) rfl hr) ?_
          refine Goes.step (T2 := T427) (g2 := (mkF m 143 #[iv p1, iv p2, iv p3, iv p4, rv b398, iv f, iv t, rv b404, iv 1] [(.ref b404)])) (fun _ hr => XS.aload X427.here hx rfl (hb hby at_141) rfl rfl hr) ?_
          refine Goes.step (T2 := T427) (g2 := (mkF m 145 #[iv p1, iv p2, iv p3, iv p4, rv b398, iv f, iv t, rv b404, iv 1] [(.int f), (.ref b404)])) (fun _ hr => XS.iload X427.here hx rfl (hb hby at_143) rfl  hr) ?_
          refine Goes.step (T2 := T427) (g2 := (mkF m 147 #[iv p1, iv p2, iv p3, iv p4, rv b398, iv f, iv t, rv b404, iv 1] [(.int t), (.int f), (.ref b404)])) (fun _ hr => XS.iload X427.here hx rfl (hb hby at_145) rfl  hr) ?_
          have Zs431 : n0 ≤ T406.heap.size := Nat.le_trans Z0 K406.1
          obtain ⟨_, _, ⟨T432, L432, k432, n432⟩, -, X432, ⟨Lc432, hQ432, l432, y432, z432⟩, st432⟩ := Jvm.LawKit.callS X427 hx (y := Y18) hown (mvT hZ (tw hw 36 rfl)) (mvT hZ (tw hw 37 rfl)) (mvT hZ (tw hw 38 rfl)) (mvT hZ (tw hw 39 rfl)) (by decide) (backOf (W := 0) (rm_ad l Z a0 hw [] b404 cs c0 c1 c2 c3 vf f t T406.heap n0 Zs431 (Old.keep O0 K406 hws) E_b404_406 S_String_COMPACT_STRINGS_old S_Preconditions_SIOOBE_FORMATTER_old S_StringUTF16__assertionsDisabled_old S_StringUTF16_HI_BYTE_SHIFT_old S_StringUTF16_LO_BYTE_SHIFT_old hcs hvf hb0 hb1 hb2 hb3 P406_0 hf ht) hZ (tw hw 39 rfl) (tw hw 38 rfl) (by decide) (by decide)) (g := (mkF m 147 #[iv p1, iv p2, iv p3, iv p4, rv b398, iv f, iv t, rv b404, iv 1] [(.int t), (.int f), (.ref b404)])) rfl (by rw [hml]; rfl) (argsL := [(.ref b404), (.int f), (.int t)]) (rest := []) (lenOf pd_16 rfl) rfl (by show 2 * 0 + _ ≤ _; exact Nat.le_of_eq rfl) (hb hby at_147) (fun _ _ => ⟨rfl, e427, (by decide : 4 + 0 ≤ _), (by decide : 20 + 0 ≤ _)⟩)
          dsimp only [Pt.U, Pt.locs, Pt.cells, Pt.slots] at X432 l432 y432 z432 st432 hQ432
          subst l432 y432 z432
          obtain ⟨rfl, N432q, e432⟩ := hQ432
          have N432 := Fr.app N427 N432q
          refine Goes.step (T2 := T432) (g2 := (mkF m 150 #[iv p1, iv p2, iv p3, iv p4, rv b398, iv f, iv t, rv b404, iv 1] [(.int (adv c0 c1 c2 c3 f t))])) st432 ?_
          rw [show (adv c0 c1 c2 c3 f t) = (1 : Int32) from by rw [own_adv hf ht]; simp [hc86_410, hc101_416, hc116_422, hc131_428]]
          refine Goes.step (T2 := T432) (g2 := (mkF m 152 #[iv p1, iv p2, iv p3, iv p4, rv b398, iv f, iv t, rv b404, iv 1] [(.int (1 : Int32)), (.int (1 : Int32))])) (fun _ hr => XS.iload X432.here hx rfl (hb hby at_150) rfl  hr) ?_
          refine Goes.step (T2 := T432) (g2 := (mkF m 155 #[iv p1, iv p2, iv p3, iv p4, rv b398, iv f, iv t, rv b404, iv 1] [])) (fun _ hr => XS.icmpNo X432.here hx rfl (hb hby at_152) rfl (teq (by decide : (1 : Int32) = (1 : Int32))).2 hr) ?_
          refine Goes.step (T2 := T432) (g2 := (mkF m 156 #[iv p1, iv p2, iv p3, iv p4, rv b398, iv f, iv t, rv b404, iv 1] [(.int (1 : Int32))])) (fun _ hr => XS.iconst X432.here hx rfl (hb hby at_155) hr) ?_
          refine Goes.step (T2 := T432) (g2 := (mkF m 160 #[iv p1, iv p2, iv p3, iv p4, rv b398, iv f, iv t, rv b404, iv 1] [(.int (1 : Int32))])) (fun _ hr => XS.goto X432.here hx rfl (pc0 := 156) (pc' := 160) rfl (hb hby at_156) (by decide) (by decide) hr) ?_
          exact Goes.ret (v := some (.int (1 : Int32))) X432 (by decide) (by decide) (fun h => by rw [Bd.returns] at h; cases h) ⟨rfl, N432⟩ (fun fs hr => retN X432 hx (t := .boolean) Bd.returns (by simp) (hb hby at_160) hr)
theorem own_stat {s : State} {args : Array Value} {t : Term} {k : Int32} (h : (Jvm.Cond.eq t (.int k)).value args s none s [] = some true) : t.eval args s none [] s = some (.int k) := by
  obtain ⟨x', y', e1, e2, k1, k2⟩ := cmp_v (Or.inl h)
  have e3 : y' = .int k := (Option.some.inj ((Term.int_eval k).symm.trans e2)).symm
  subst e3
  obtain ⟨z, rfl⟩ := k2
  have e4 : z = k := by
    simp only [Cond.value, e1, e2] at h
    simpa using h
  subst e4
  exact e1
set_option maxRecDepth 65536 in
set_option maxHeartbeats 40000000 in
theorem comes_1 {Post : Tables → Env → Array Value → State → Outcome → State → Prop} (hpost : ∀ tb e args s v u, (limb_1_1.after args s (.returned v) u = true ∧ limb_1_2.after args s (.returned v) u = true ∧ True) → FrameEnd s (.returned v) u (Jvm.fieldLocs frame_1_writes args s ++ Jvm.arrayLocs frame_1_arrays args s ++ Jvm.staticLocs frame_1_statics s) 16 128 → Post tb e args s (.returned v) u) :
    ArmFor flags0 classFile x code maxLocals ret World_1 tables_1 room_1 Calls_1 rest_1 Pre_1 Post := by
  intro l hfl _ _ p e ha hc hk s m args below hf hA hF happ hP
  obtain ⟨hcalls, hrest, hpre⟩ := hP
  obtain ⟨-, -, -, hnamed, -, -, -, hat⟩ := (Spec.applies_iff hf).mp happ
  obtain ⟨hg, hn⟩ := and_e (Cond.before_iff.mp (show (Jvm.Cond.and given_1 narrow_1).before args s = true from hpre))
  obtain ⟨g1, g2⟩ := and_e hg
  obtain ⟨g3, g4⟩ := and_e g2
  obtain ⟨g5, g6⟩ := and_e g4
  obtain ⟨g7, g8⟩ := and_e g6
  obtain ⟨w0, w1, w2, w3, rfl⟩ : ∃ w0 w1 w2 w3 : Value, args = #[w0, w1, w2, w3] := by
    have hs : args.size = 4 := by simpa [Cond.value, given_1] using g1
    obtain ⟨L⟩ := args
    match L, hs with
    | [w0, w1, w2, w3], _ => exact ⟨w0, w1, w2, w3, rfl⟩
  have hw := fun d (hd : d ∈ tables_1) => atoms_spec (ws := Jvm.Cond.code x code maxLocals ret :: tables_1) hat d (List.mem_cons_of_mem _ hd)
  have hfit : Fit s := fun {y c} hc i hi => by
    obtain ⟨ha, rfl⟩ := Array.getElem?_eq_some_iff.mp hc
    have q := List.all_eq_true.mp ((Array.all_eq_true_iff_forall_mem.mp hF) _ (Array.getElem_mem ha)) i (List.mem_range.mpr hi)
    simpa [Array.getElem?_eq_getElem hi] using q
  obtain ⟨hsets, hown0⟩ := atoms_of _ (rest_1_c_eq ▸ (show rest_1_c.before _ s = true from hrest))
  have hr0 := Cond.before_iff.mp hown0
  obtain ⟨i0, ei0⟩ := is_v g3
  obtain rfl : w0 = (.int i0) := Option.some.inj ei0
  obtain ⟨i1, ei1⟩ := is_v g5
  obtain rfl : w1 = (.int i1) := Option.some.inj ei1
  obtain ⟨i2, ei2⟩ := is_v g7
  obtain rfl : w2 = (.int i2) := Option.some.inj ei2
  obtain ⟨i3, ei3⟩ := is_v g8
  obtain rfl : w3 = (.int i3) := Option.some.inj ei3
  obtain ⟨cs, ev_cs⟩ := is_v (Cond.before_iff.mp (hsets _ (List.mem_of_getElem? (i := 1) rfl)))
  have S_cs := Sta.start ev_cs (Or.inl (hsets _ (List.mem_of_getElem? (i := 0) rfl)))
  have hcs := own_cs ev_cs (Cond.before_iff.mp (hsets _ (List.mem_of_getElem? (i := 2) rfl)))
  obtain ⟨vf, ev_vf, hvf⟩ := isR_v (Cond.before_iff.mp (hsets _ (List.mem_of_getElem? (i := 8) rfl)))
  have S_vf := Sta.start ev_vf (Or.inl (hsets _ (List.mem_of_getElem? (i := 7) rfl)))
  have ev_ad := own_stat (Cond.before_iff.mp (hsets _ (List.mem_of_getElem? (i := 12) rfl)))
  have S_ad := Sta.start ev_ad (Or.inl (hsets _ (List.mem_of_getElem? (i := 11) rfl)))
  have ev_hi := own_stat (Cond.before_iff.mp (hsets _ (List.mem_of_getElem? (i := 15) rfl)))
  have S_hi := Sta.start ev_hi (Or.inl (hsets _ (List.mem_of_getElem? (i := 14) rfl)))
  have ev_lo := own_stat (Cond.before_iff.mp (hsets _ (List.mem_of_getElem? (i := 18) rfl)))
  have S_lo := Sta.start ev_lo (Or.inl (hsets _ (List.mem_of_getElem? (i := 17) rfl)))
  obtain ⟨n, o, h1, h2, h3, _, L, rfl, ⟨rfl, N⟩, hq⟩ := rm_law l s _ hw tables_1 i0 i1 i2 i3 cs vf s.heap s.heap.size (Nat.le_refl _) (Old.start s) S_cs S_vf S_ad S_hi S_lo hcs hvf p e ha hc hk s m _ below hf ((Spec.applies_iff_loose hf).mp happ).1 ⟨rfl, State.Warmed39.refl s, rfl⟩ trivial
  refine ⟨n, _, h1, h2, h3, hpost _ _ _ _ _ _ ⟨Cond.after_iff.mpr rfl, Cond.after_iff.mpr (eq_i res_at (Term.int_eval (1)) rfl), trivial⟩ ⟨hq.1, hq.2.1, (hq.2.2.sift fun y hy => Or.inr (N y hy)).mono (by decide) (by decide)⟩⟩
theorem main_1_1 : Claimed_1_1 := comes_1 fun _ _ _ _ _ _ h hF => ⟨h.1, hF⟩
theorem main_1_2 : Claimed_1_2 := comes_1 fun _ _ _ _ _ _ h hF => ⟨h.2.1, hF⟩
end Jvm.Pilot.@@N@@
namespace Jvm.Pilot.@@N@@
open Jvm Jvm.ClassFile Sem Op Lib Jvm.Free Jvm.Stand Jvm.Pilot.@@N@@.Jvm.D
/-! MADE BY PROGRAM (witnessworld.py) out of the Statement's table words and the real class files: 18 classes; the members and pool entries that the words name. The judged class is class 1, her method 1. -/
namespace start1
open Jvm.ClassFile
def u (s : String) : CpInfo := .utf8 (stringToUtf16 s)
/-- a pool by its gaps: so many unusable entries, then the entry; so many at the end -/
def gap : Nat → List CpInfo → List CpInfo
  | 0, r => r
  | n + 1, r => .unusable :: gap n r
def poolList (es : List (Nat × CpInfo)) (last : Nat) : List CpInfo := es.foldr (fun e r => gap e.1 (e.2 :: r)) (gap last [])
def pool (es : List (Nat × CpInfo)) (last : Nat) : Array CpInfo := ⟨poolList es last⟩
def fileOf (pool : Array CpInfo) (this : Nat) (attrs : Array Attribute := #[]) (ms : Array MethodInfo := #[]) (fl : Nat := 33) (sup : Nat := 0) (ifs : Array Nat := #[]) (fds : Array FieldInfo := #[]) : ClassFile where
  minorVersion := 0
  majorVersion := 65
  constantPool := pool
  accessFlags := fl
  thisClass := this
  superClass := sup
  interfaces := ifs
  fields := fds
  methods := ms
  attributes := attrs
def plain (name : String) (sup : Option ClassId) : Class where
  name := name
  kind := .ordinary
  loader := none
  accessFlags := 33
  super := sup
  interfaces := #[]
  cf := none
  fields := #[]
  methods := #[]
  instanceTypes := #[]
  staticTypes := #[]
  resolved := #[]
  callSites := []
  init := .initialized
  statics := none
  mirror := none

def pool0 : Array CpInfo := pool [(5, u "<init>"), (0, u "()V"), (1, .class_ 10), (1, u "java/lang/Object")] 113

def k0c0 : Code := { maxStack := 0, maxLocals := 1, code := object_method_1_code, exceptionTable := #[], attributes := #[] }
def k0m0 : Method := { name := "<init>", desc := "()V", sig := { parameters := [], returnType := none }, accessFlags := 1, code := some k0c0 }
/-- java/lang/Object -/
def k0 : Class := { plain "java/lang/Object" none with
  accessFlags := 33
  interfaces := #[]
  cf := some (fileOf pool0 8 #[] #[{ accessFlags := 1, nameIndex := 5, descriptorIndex := 6, attributes := #[] }] 33 0 #[] #[])
  fields := #[]
  methods := #[k0m0]
  instanceTypes := #[]
  staticTypes := #[]
  resolved := Array.replicate 124 none
  statics := none }

def pool1 : Array CpInfo := pool [(2, .class_ 4), (1, u "java/lang/Object"), (0, u "<init>"), (0, u "()V"), (0, .integer 65535), (0, .integer 2147483647), (0, .class_ 10), (0, u "java/lang/String"), (0, .methodref 9 12), (0, .nameAndType 5 13), (0, u "([C)V"), (0, .methodref 15 16), (0, .class_ 17), (0, .nameAndType 18 19), (0, u "com/example/api_policy_gateway/apipolicygateway/proxy/HeaderFieldsAllDigitsPinLaw"), (0, u "ok"), (0, u "(CIII)Z"), (0, .methodref 21 22), (0, .class_ 23), (0, .nameAndType 24 25), (0, u "com/example/api_policy_gateway/apipolicygateway/proxy/HeaderFields"), (0, u "allDigits"), (0, u "(Ljava/lang/String;II)Z"), (2, u "law"), (0, u "(IIII)Z")] 5

def k1m0 : Method := { name := "<init>", desc := "()V", sig := { parameters := [], returnType := none }, accessFlags := 1, code := none }
def k1c1 : Code := { maxStack := 4, maxLocals := 9, code := code, exceptionTable := #[], attributes := #[] }
def k1m1 : Method := { name := "law", desc := "(IIII)Z", sig := { parameters := [.int, .int, .int, .int], returnType := some .boolean }, accessFlags := 9, code := some k1c1 }
def k1c2 : Code := { maxStack := 2, maxLocals := 4, code := method_3_code, exceptionTable := #[], attributes := #[] }
def k1m2 : Method := { name := "ok", desc := "(CIII)Z", sig := { parameters := [.char, .int, .int, .int], returnType := some .boolean }, accessFlags := 10, code := some k1c2 }
/-- com/example/api_policy_gateway/apipolicygateway/proxy/HeaderFieldsAllDigitsPinLaw -/
def k1 : Class := { plain "com/example/api_policy_gateway/apipolicygateway/proxy/HeaderFieldsAllDigitsPinLaw" (some 0) with
  accessFlags := 49
  interfaces := #[]
  cf := some (fileOf pool1 15 #[] #[{ accessFlags := 1, nameIndex := 5, descriptorIndex := 6, attributes := #[] }, { accessFlags := 9, nameIndex := 28, descriptorIndex := 29, attributes := #[] }, { accessFlags := 10, nameIndex := 18, descriptorIndex := 19, attributes := #[] }] 49 2 #[] #[])
  fields := #[]
  methods := #[k1m0, k1m1, k1m2]
  instanceTypes := #[]
  staticTypes := #[]
  resolved := Array.replicate 35 none
  statics := none }

def pool2 : Array CpInfo := pool [(1, .class_ 2), (0, u "java/io/Serializable"), (0, .class_ 4), (0, u "java/lang/Object")] 2

/-- java/io/Serializable -/
def k2 : Class := { plain "java/io/Serializable" (some 0) with
  accessFlags := 1537
  interfaces := #[]
  cf := some (fileOf pool2 1 #[] #[] 1537 3 #[] #[])
  fields := #[]
  methods := #[]
  instanceTypes := #[]
  staticTypes := #[]
  resolved := Array.replicate 7 none
  statics := none }

def pool3 : Array CpInfo := pool [(1, .class_ 2), (0, u "java/lang/Comparable"), (0, .class_ 4), (0, u "java/lang/Object")] 7

/-- java/lang/Comparable -/
def k3 : Class := { plain "java/lang/Comparable" (some 0) with
  accessFlags := 1537
  interfaces := #[]
  cf := some (fileOf pool3 1 #[] #[] 1537 3 #[] #[])
  fields := #[]
  methods := #[]
  instanceTypes := #[]
  staticTypes := #[]
  resolved := Array.replicate 12 none
  statics := none }

def pool4 : Array CpInfo := pool [(2, .class_ 4), (1, u "java/lang/CharSequence"), (42, .class_ 48), (0, u "java/lang/CharSequence$1CodePointIterator"), (10, .class_ 60), (0, u "java/lang/CharSequence$1CharIterator"), (5, .class_ 67), (0, u "java/lang/Object")] 63

/-- java/lang/CharSequence -/
def k4 : Class := { plain "java/lang/CharSequence" (some 0) with
  accessFlags := 1537
  interfaces := #[]
  cf := some (fileOf pool4 2 #[.nestMembers #[47, 59]] #[] 1537 66 #[] #[])
  fields := #[]
  methods := #[]
  instanceTypes := #[]
  staticTypes := #[]
  resolved := Array.replicate 131 none
  statics := none }

def pool5 : Array CpInfo := pool [(1, .class_ 2), (0, u "java/lang/constant/Constable"), (0, .class_ 4), (0, u "java/lang/Object")] 6

/-- java/lang/constant/Constable -/
def k5 : Class := { plain "java/lang/constant/Constable" (some 0) with
  accessFlags := 1537
  interfaces := #[]
  cf := some (fileOf pool5 1 #[] #[] 1537 3 #[] #[])
  fields := #[]
  methods := #[]
  instanceTypes := #[]
  staticTypes := #[]
  resolved := Array.replicate 11 none
  statics := none }

def pool6 : Array CpInfo := pool [(1, .class_ 2), (0, u "java/lang/constant/ConstantDesc"), (0, .class_ 4), (0, u "java/lang/Object")] 32

/-- java/lang/constant/ConstantDesc -/
def k6 : Class := { plain "java/lang/constant/ConstantDesc" (some 0) with
  accessFlags := 1537
  interfaces := #[]
  cf := some (fileOf pool6 1 #[] #[] 1537 3 #[] #[])
  fields := #[]
  methods := #[]
  instanceTypes := #[]
  staticTypes := #[]
  resolved := Array.replicate 37 none
  statics := none }

def pool7 : Array CpInfo := pool [(1, .methodref 2 3), (0, .class_ 4), (0, .nameAndType 5 6), (0, u "java/lang/Object"), (0, u "<init>"), (0, u "()V"), (2, .fieldref 10 11), (0, .class_ 12), (0, .nameAndType 13 14), (0, u "java/lang/String"), (0, u "value"), (0, u "[B"), (0, .fieldref 10 16), (0, .nameAndType 17 18), (0, u "coder"), (0, u "B"), (2, u "hash"), (0, u "I"), (2, u "hashIsZero"), (0, u "Z"), (0, .methodref 10 28), (0, .nameAndType 5 29), (0, u "([CIILjava/lang/Void;)V"), (8, .fieldref 10 39), (0, .nameAndType 40 26), (0, u "COMPACT_STRINGS"), (1, .class_ 44), (1, u "java/lang/StringUTF16"), (0, u "compress"), (1, .methodref 42 48), (0, .nameAndType 49 50), (0, u "coderFromArrayLen"), (0, u "([BI)B"), (56, .class_ 109), (1, u "java/lang/StringLatin1"), (32, u "()Z"), (34, .methodref 42 178), (0, .nameAndType 45 179), (0, u "([CII)[B"), (183, u "([BI)C"), (27, u "(II)V"), (35, u "(I)C"), (64, .methodref 10 493), (0, .nameAndType 494 142), (0, u "isLatin1"), (0, .methodref 107 496), (0, .nameAndType 497 363), (0, u "charAt"), (0, .methodref 42 496), (2, u "checkIndex"), (73, .class_ 576), (0, u "java/lang/CharSequence"), (22, u "CASE_INSENSITIVE_ORDER"), (0, u "Ljava/util/Comparator;"), (409, u "([C)V"), (42, .fieldref 1054 1055), (0, .class_ 1056), (0, .nameAndType 1057 1058), (0, u "jdk/internal/util/Preconditions"), (0, u "SIOOBE_FORMATTER"), (0, u "Ljava/util/function/BiFunction;"), (0, .methodref 1054 1060), (0, .nameAndType 501 1061), (0, u "(IILjava/util/function/BiFunction;)I"), (39, u "serialPersistentFields"), (0, u "[Ljava/io/ObjectStreamField;"), (0, .class_ 1104), (0, u "java/lang/String$CaseInsensitiveComparator"), (1, .class_ 1107), (0, u "java/io/Serializable"), (0, .class_ 1109), (0, u "java/lang/Comparable"), (0, .class_ 1111), (0, u "java/lang/constant/Constable"), (0, .class_ 1113), (0, u "java/lang/constant/ConstantDesc"), (2, u "serialVersionUID"), (0, u "J"), (3, u "REPL"), (0, u "C"), (2, u "LATIN1"), (1, u "UTF16")] 323

def k7m0 : Method := { name := "<init>", desc := "()V", sig := { parameters := [], returnType := none }, accessFlags := 1, code := none }
def k7c1 : Code := { maxStack := 5, maxLocals := 2, code := jdk_42_method_3_code, exceptionTable := #[], attributes := #[] }
def k7m1 : Method := { name := "<init>", desc := "([C)V", sig := { parameters := [(.array .char)], returnType := none }, accessFlags := 1, code := some k7c1 }
def k7c2 : Code := { maxStack := 2, maxLocals := 2, code := jdk_42_method_56_code, exceptionTable := #[], attributes := #[] }
def k7m2 : Method := { name := "charAt", desc := "(I)C", sig := { parameters := [.int], returnType := some .char }, accessFlags := 1, code := some k7c2 }
def k7c3 : Code := { maxStack := 4, maxLocals := 6, code := jdk_42_method_149_code, exceptionTable := #[], attributes := #[] }
def k7m3 : Method := { name := "<init>", desc := "([CIILjava/lang/Void;)V", sig := { parameters := [(.array .char), .int, .int, (.object "java/lang/Void")], returnType := none }, accessFlags := 2, code := some k7c3 }
def k7c4 : Code := { maxStack := 1, maxLocals := 1, code := jdk_42_method_154_code, exceptionTable := #[], attributes := #[] }
def k7m4 : Method := { name := "isLatin1", desc := "()Z", sig := { parameters := [], returnType := some .boolean }, accessFlags := 0, code := some k7c4 }
def k7c5 : Code := { maxStack := 3, maxLocals := 2, code := jdk_42_method_155_code, exceptionTable := #[], attributes := #[] }
def k7m5 : Method := { name := "checkIndex", desc := "(II)V", sig := { parameters := [.int, .int], returnType := none }, accessFlags := 8, code := some k7c5 }
/-- java/lang/String -/
def k7 : Class := { plain "java/lang/String" (some 0) with
  accessFlags := 49
  interfaces := #[2, 3, 4, 5, 6]
  cf := some (fileOf pool7 10 #[.nestMembers #[1103]] #[{ accessFlags := 1, nameIndex := 5, descriptorIndex := 6, attributes := #[] }, { accessFlags := 1, nameIndex := 5, descriptorIndex := 1010, attributes := #[] }, { accessFlags := 1, nameIndex := 497, descriptorIndex := 427, attributes := #[] }, { accessFlags := 2, nameIndex := 5, descriptorIndex := 29, attributes := #[] }, { accessFlags := 0, nameIndex := 494, descriptorIndex := 142, attributes := #[] }, { accessFlags := 8, nameIndex := 501, descriptorIndex := 391, attributes := #[] }] 49 2 #[1106, 1108, 575, 1110, 1112] #[{ accessFlags := 18, nameIndex := 13, descriptorIndex := 14, attributes := #[] }, { accessFlags := 18, nameIndex := 17, descriptorIndex := 18, attributes := #[] }, { accessFlags := 2, nameIndex := 21, descriptorIndex := 22, attributes := #[] }, { accessFlags := 2, nameIndex := 25, descriptorIndex := 26, attributes := #[] }, { accessFlags := 26, nameIndex := 1116, descriptorIndex := 1117, attributes := #[] }, { accessFlags := 24, nameIndex := 40, descriptorIndex := 26, attributes := #[] }, { accessFlags := 26, nameIndex := 1101, descriptorIndex := 1102, attributes := #[] }, { accessFlags := 26, nameIndex := 1121, descriptorIndex := 1122, attributes := #[] }, { accessFlags := 25, nameIndex := 599, descriptorIndex := 600, attributes := #[] }, { accessFlags := 24, nameIndex := 1125, descriptorIndex := 18, attributes := #[] }, { accessFlags := 24, nameIndex := 1127, descriptorIndex := 18, attributes := #[] }])
  fields := #[{ name := "value", type := (.array .byte), accessFlags := 18, slot := 0, constantValue := 0 }, { name := "coder", type := .byte, accessFlags := 18, slot := 1, constantValue := 0 }, { name := "hash", type := .int, accessFlags := 2, slot := 2, constantValue := 0 }, { name := "hashIsZero", type := .boolean, accessFlags := 2, slot := 3, constantValue := 0 }, { name := "serialVersionUID", type := .long, accessFlags := 26, slot := 0, constantValue := 0 }, { name := "COMPACT_STRINGS", type := .boolean, accessFlags := 24, slot := 1, constantValue := 0 }, { name := "serialPersistentFields", type := (.array (.object "java/io/ObjectStreamField")), accessFlags := 26, slot := 2, constantValue := 0 }, { name := "REPL", type := .char, accessFlags := 26, slot := 3, constantValue := 0 }, { name := "CASE_INSENSITIVE_ORDER", type := (.object "java/util/Comparator"), accessFlags := 25, slot := 4, constantValue := 0 }, { name := "LATIN1", type := .byte, accessFlags := 24, slot := 5, constantValue := 0 }, { name := "UTF16", type := .byte, accessFlags := 24, slot := 6, constantValue := 0 }]
  methods := #[k7m0, k7m1, k7m2, k7m3, k7m4, k7m5]
  instanceTypes := #[(.array .byte), .byte, .int, .boolean]
  staticTypes := #[.long, .boolean, (.array (.object "java/io/ObjectStreamField")), .char, (.object "java/util/Comparator"), .byte, .byte]
  resolved := Array.replicate 1451 none
  statics := some 0 }

def pool8 : Array CpInfo := pool [(3, .class_ 4), (0, u "java/lang/String"), (1, .class_ 8), (1, u "java/lang/Object"), (0, u "<init>"), (0, u "()V"), (0, .methodref 12 13), (0, .class_ 14), (0, .nameAndType 15 16), (0, u "java/lang/StringUTF16"), (0, u "newBytesLength"), (0, u "(I)I"), (3, .integer 1073741823), (23, .fieldref 12 45), (0, .nameAndType 46 47), (0, u "$assertionsDisabled"), (0, u "Z"), (0, .methodref 12 49), (0, .nameAndType 50 51), (0, u "length"), (0, u "([B)I"), (7, .fieldref 12 60), (0, .nameAndType 61 62), (0, u "HI_BYTE_SHIFT"), (0, u "I"), (0, .fieldref 12 64), (0, .nameAndType 65 62), (0, u "LO_BYTE_SHIFT"), (1, .methodref 12 68), (0, .nameAndType 69 70), (0, u "checkIndex"), (0, u "(I[B)V"), (0, .methodref 12 72), (0, .nameAndType 73 74), (0, u "getChar"), (0, u "([BI)C"), (32, .methodref 12 108), (0, .nameAndType 109 110), (0, u "newBytesFor"), (0, u "(I)[B"), (0, .methodref 12 112), (0, .nameAndType 113 114), (0, u "putChar"), (0, u "([BII)V"), (0, .methodref 12 116), (0, .nameAndType 117 118), (0, u "compress"), (0, u "([CI[BII)I"), (0, .methodref 12 120), (0, .nameAndType 121 122), (0, u "toBytes"), (0, u "([CII)[B"), (138, u "coderFromArrayLen"), (0, u "([BI)B"), (106, .class_ 371), (1, u "java/lang/StringUTF16$LinesSpliterator"), (20, u "charAt"), (21, .methodref 3 415), (0, .nameAndType 69 416), (0, u "(II)V"), (13, u "MAX_LENGTH"), (196, .class_ 628), (0, u "java/lang/StringUTF16$CodePointsSpliterator"), (0, .class_ 630), (0, u "java/lang/StringUTF16$CharsSpliterator")] 4

def k8m0 : Method := { name := "<init>", desc := "()V", sig := { parameters := [], returnType := none }, accessFlags := 0, code := none }
def k8c1 : Code := { maxStack := 1, maxLocals := 1, code := jdk_52_method_2_code, exceptionTable := #[], attributes := #[] }
def k8m1 : Method := { name := "newBytesFor", desc := "(I)[B", sig := { parameters := [.int], returnType := some (.array .byte) }, accessFlags := 9, code := some k8c1 }
def k8c2 : Code := { maxStack := 4, maxLocals := 1, code := jdk_52_method_3_code, exceptionTable := #[], attributes := #[] }
def k8m2 : Method := { name := "newBytesLength", desc := "(I)I", sig := { parameters := [.int], returnType := some .int }, accessFlags := 9, code := some k8c2 }
def k8c3 : Code := { maxStack := 4, maxLocals := 3, code := jdk_52_method_4_code, exceptionTable := #[], attributes := #[] }
def k8m3 : Method := { name := "putChar", desc := "([BII)V", sig := { parameters := [(.array .byte), .int, .int], returnType := none }, accessFlags := 8, code := some k8c3 }
def k8c4 : Code := { maxStack := 3, maxLocals := 2, code := jdk_52_method_5_code, exceptionTable := #[], attributes := #[] }
def k8m4 : Method := { name := "getChar", desc := "([BI)C", sig := { parameters := [(.array .byte), .int], returnType := some .char }, accessFlags := 8, code := some k8c4 }
def k8c5 : Code := { maxStack := 2, maxLocals := 1, code := jdk_52_method_6_code, exceptionTable := #[], attributes := #[] }
def k8m5 : Method := { name := "length", desc := "([B)I", sig := { parameters := [(.array .byte)], returnType := some .int }, accessFlags := 9, code := some k8c5 }
def k8c6 : Code := { maxStack := 4, maxLocals := 5, code := jdk_52_method_14_code, exceptionTable := #[], attributes := #[] }
def k8m6 : Method := { name := "toBytes", desc := "([CII)[B", sig := { parameters := [(.array .char), .int, .int], returnType := some (.array .byte) }, accessFlags := 9, code := some k8c6 }
def k8c7 : Code := { maxStack := 2, maxLocals := 2, code := jdk_52_method_15_code, exceptionTable := #[], attributes := #[] }
def k8m7 : Method := { name := "coderFromArrayLen", desc := "([BI)B", sig := { parameters := [(.array .byte), .int], returnType := some .byte }, accessFlags := 8, code := some k8c7 }
def k8c8 : Code := { maxStack := 5, maxLocals := 6, code := jdk_52_method_16_code, exceptionTable := #[], attributes := #[] }
def k8m8 : Method := { name := "compress", desc := "([CII)[B", sig := { parameters := [(.array .char), .int, .int], returnType := some (.array .byte) }, accessFlags := 9, code := some k8c8 }
def k8c9 : Code := { maxStack := 3, maxLocals := 7, code := jdk_52_method_21_code, exceptionTable := #[], attributes := #[] }
def k8m9 : Method := { name := "compress", desc := "([CI[BII)I", sig := { parameters := [(.array .char), .int, (.array .byte), .int, .int], returnType := some .int }, accessFlags := 9, code := some k8c9 }
def k8c10 : Code := { maxStack := 2, maxLocals := 2, code := jdk_52_method_83_code, exceptionTable := #[], attributes := #[] }
def k8m10 : Method := { name := "charAt", desc := "([BI)C", sig := { parameters := [(.array .byte), .int], returnType := some .char }, accessFlags := 9, code := some k8c10 }
def k8c11 : Code := { maxStack := 2, maxLocals := 2, code := jdk_52_method_91_code, exceptionTable := #[], attributes := #[] }
def k8m11 : Method := { name := "checkIndex", desc := "(I[B)V", sig := { parameters := [.int, (.array .byte)], returnType := none }, accessFlags := 9, code := some k8c11 }
/-- java/lang/StringUTF16 -/
def k8 : Class := { plain "java/lang/StringUTF16" (some 0) with
  accessFlags := 48
  interfaces := #[]
  cf := some (fileOf pool8 12 #[.nestMembers #[627, 629, 369]] #[{ accessFlags := 0, nameIndex := 9, descriptorIndex := 10, attributes := #[] }, { accessFlags := 9, nameIndex := 109, descriptorIndex := 110, attributes := #[] }, { accessFlags := 9, nameIndex := 15, descriptorIndex := 16, attributes := #[] }, { accessFlags := 8, nameIndex := 113, descriptorIndex := 114, attributes := #[] }, { accessFlags := 8, nameIndex := 73, descriptorIndex := 74, attributes := #[] }, { accessFlags := 9, nameIndex := 50, descriptorIndex := 51, attributes := #[] }, { accessFlags := 9, nameIndex := 121, descriptorIndex := 122, attributes := #[] }, { accessFlags := 8, nameIndex := 261, descriptorIndex := 262, attributes := #[] }, { accessFlags := 9, nameIndex := 117, descriptorIndex := 122, attributes := #[] }, { accessFlags := 9, nameIndex := 117, descriptorIndex := 118, attributes := #[] }, { accessFlags := 9, nameIndex := 392, descriptorIndex := 74, attributes := #[] }, { accessFlags := 9, nameIndex := 69, descriptorIndex := 70, attributes := #[] }] 48 6 #[] #[{ accessFlags := 26, nameIndex := 61, descriptorIndex := 62, attributes := #[] }, { accessFlags := 26, nameIndex := 65, descriptorIndex := 62, attributes := #[] }, { accessFlags := 24, nameIndex := 430, descriptorIndex := 62, attributes := #[] }, { accessFlags := 4120, nameIndex := 46, descriptorIndex := 47, attributes := #[] }])
  fields := #[{ name := "HI_BYTE_SHIFT", type := .int, accessFlags := 26, slot := 0, constantValue := 0 }, { name := "LO_BYTE_SHIFT", type := .int, accessFlags := 26, slot := 1, constantValue := 0 }, { name := "MAX_LENGTH", type := .int, accessFlags := 24, slot := 2, constantValue := 0 }, { name := "$assertionsDisabled", type := .boolean, accessFlags := 4120, slot := 3, constantValue := 0 }]
  methods := #[k8m0, k8m1, k8m2, k8m3, k8m4, k8m5, k8m6, k8m7, k8m8, k8m9, k8m10, k8m11]
  instanceTypes := #[]
  staticTypes := #[.int, .int, .int, .boolean]
  resolved := Array.replicate 635 none
  statics := some 1 }

def pool9 : Array CpInfo := pool [(3, .class_ 4), (0, u "com/example/api_policy_gateway/apipolicygateway/proxy/HeaderFields"), (2, u "<init>"), (5, .class_ 15), (1, u "java/lang/Object"), (0, u "()V"), (2, u "names"), (0, u "Ljava/util/List;"), (2, u "values"), (2, u "readOnly"), (0, u "Z"), (0, .class_ 29), (0, u "com/example/api_policy_gateway/apipolicygateway/proxy/HeaderFields$Reader"), (17, .class_ 48), (0, u "java/lang/String"), (88, u "HOP_BY_HOP"), (116, .methodref 47 255), (0, .nameAndType 256 257), (0, u "charAt"), (0, u "(I)C"), (6, u "(Ljava/lang/String;II)Z"), (5, u "FRAMING"), (6, u "TOKEN_CHARS"), (0, u "[Z"), (5, u "allDigits"), (59, u "USUAL_COUNT"), (0, u "I"), (2, u "LINE_SLACK")] 67

def k9m0 : Method := { name := "<init>", desc := "()V", sig := { parameters := [], returnType := none }, accessFlags := 1, code := none }
def k9c1 : Code := { maxStack := 2, maxLocals := 4, code := prog_32_method_41_code, exceptionTable := #[], attributes := #[] }
def k9m1 : Method := { name := "allDigits", desc := "(Ljava/lang/String;II)Z", sig := { parameters := [(.object "java/lang/String"), .int, .int], returnType := some .boolean }, accessFlags := 8, code := some k9c1 }
/-- com/example/api_policy_gateway/apipolicygateway/proxy/HeaderFields -/
def k9 : Class := { plain "com/example/api_policy_gateway/apipolicygateway/proxy/HeaderFields" (some 0) with
  accessFlags := 49
  interfaces := #[]
  cf := some (fileOf pool9 3 #[.nestMembers #[28]] #[{ accessFlags := 1, nameIndex := 7, descriptorIndex := 16, attributes := #[] }, { accessFlags := 8, nameIndex := 284, descriptorIndex := 264, attributes := #[] }] 49 13 #[] #[{ accessFlags := 26, nameIndex := 137, descriptorIndex := 20, attributes := #[] }, { accessFlags := 26, nameIndex := 270, descriptorIndex := 20, attributes := #[] }, { accessFlags := 26, nameIndex := 277, descriptorIndex := 278, attributes := #[] }, { accessFlags := 26, nameIndex := 344, descriptorIndex := 345, attributes := #[] }, { accessFlags := 26, nameIndex := 348, descriptorIndex := 345, attributes := #[] }, { accessFlags := 18, nameIndex := 19, descriptorIndex := 20, attributes := #[] }, { accessFlags := 18, nameIndex := 23, descriptorIndex := 20, attributes := #[] }, { accessFlags := 18, nameIndex := 26, descriptorIndex := 27, attributes := #[] }])
  fields := #[{ name := "HOP_BY_HOP", type := (.object "java/util/List"), accessFlags := 26, slot := 0, constantValue := 0 }, { name := "FRAMING", type := (.object "java/util/List"), accessFlags := 26, slot := 1, constantValue := 0 }, { name := "TOKEN_CHARS", type := (.array .boolean), accessFlags := 26, slot := 2, constantValue := 0 }, { name := "USUAL_COUNT", type := .int, accessFlags := 26, slot := 3, constantValue := 0 }, { name := "LINE_SLACK", type := .int, accessFlags := 26, slot := 4, constantValue := 0 }, { name := "names", type := (.object "java/util/List"), accessFlags := 18, slot := 0, constantValue := 0 }, { name := "values", type := (.object "java/util/List"), accessFlags := 18, slot := 1, constantValue := 0 }, { name := "readOnly", type := .boolean, accessFlags := 18, slot := 2, constantValue := 0 }]
  methods := #[k9m0, k9m1]
  instanceTypes := #[(.object "java/util/List"), (.object "java/util/List"), .boolean]
  staticTypes := #[(.object "java/util/List"), (.object "java/util/List"), (.array .boolean), .int, .int]
  resolved := Array.replicate 416 none
  statics := none }

def pool10 : Array CpInfo := pool [(1, .class_ 2), (0, u "java/lang/String"), (1, .class_ 6), (1, u "java/lang/Object"), (0, u "<init>"), (0, u "()V"), (0, .methodref 1 10), (0, .nameAndType 11 12), (0, u "checkIndex"), (0, u "(II)V"), (1, .class_ 16), (1, u "java/lang/StringLatin1"), (36, u "([BI)C"), (67, u "$assertionsDisabled"), (0, u "Z"), (98, .class_ 223), (1, u "java/lang/StringLatin1$LinesSpliterator"), (28, u "charAt"), (137, .class_ 391), (0, u "java/lang/StringLatin1$CharsSpliterator")] 3

def k10m0 : Method := { name := "<init>", desc := "()V", sig := { parameters := [], returnType := none }, accessFlags := 0, code := none }
def k10c1 : Code := { maxStack := 2, maxLocals := 2, code := jdk_43_method_2_code, exceptionTable := #[], attributes := #[] }
def k10m1 : Method := { name := "charAt", desc := "([BI)C", sig := { parameters := [(.array .byte), .int], returnType := some .char }, accessFlags := 9, code := some k10c1 }
/-- java/lang/StringLatin1 -/
def k10 : Class := { plain "java/lang/StringLatin1" (some 0) with
  accessFlags := 48
  interfaces := #[]
  cf := some (fileOf pool10 14 #[.nestMembers #[390, 221]] #[{ accessFlags := 0, nameIndex := 7, descriptorIndex := 8, attributes := #[] }, { accessFlags := 9, nameIndex := 252, descriptorIndex := 53, attributes := #[] }] 48 4 #[] #[{ accessFlags := 4120, nameIndex := 121, descriptorIndex := 122, attributes := #[] }])
  fields := #[{ name := "$assertionsDisabled", type := .boolean, accessFlags := 4120, slot := 0, constantValue := 0 }]
  methods := #[k10m0, k10m1]
  instanceTypes := #[]
  staticTypes := #[.boolean]
  resolved := Array.replicate 395 none
  statics := none }

def pool11 : Array CpInfo := pool [(2, .class_ 4), (1, u "java/lang/Object"), (0, u "<init>"), (0, u "()V"), (17, .class_ 26), (1, u "jdk/internal/util/Preconditions"), (6, u "checkIndex"), (21, .class_ 56), (0, u "jdk/internal/util/Preconditions$4"), (57, .class_ 115), (0, u "jdk/internal/util/Preconditions$1"), (7, u "SIOOBE_FORMATTER"), (0, u "Ljava/util/function/BiFunction;"), (0, .class_ 126), (0, u "jdk/internal/util/Preconditions$2"), (3, u "AIOOBE_FORMATTER"), (0, .class_ 132), (0, u "jdk/internal/util/Preconditions$3"), (3, u "IOOBE_FORMATTER"), (41, u "(IILjava/util/function/BiFunction;)I")] 15

def k11m0 : Method := { name := "<init>", desc := "()V", sig := { parameters := [], returnType := none }, accessFlags := 1, code := none }
def k11c1 : Code := { maxStack := 3, maxLocals := 3, code := jdk_41_method_11_code, exceptionTable := #[], attributes := #[] }
def k11m1 : Method := { name := "checkIndex", desc := "(IILjava/util/function/BiFunction;)I", sig := { parameters := [.int, .int, (.object "java/util/function/BiFunction")], returnType := some .int }, accessFlags := 9, code := some k11c1 }
/-- jdk/internal/util/Preconditions -/
def k11 : Class := { plain "jdk/internal/util/Preconditions" (some 0) with
  accessFlags := 33
  interfaces := #[]
  cf := some (fileOf pool11 24 #[.nestMembers #[55, 131, 125, 114]] #[{ accessFlags := 1, nameIndex := 5, descriptorIndex := 6, attributes := #[] }, { accessFlags := 9, nameIndex := 33, descriptorIndex := 178, attributes := #[] }] 33 2 #[] #[{ accessFlags := 25, nameIndex := 123, descriptorIndex := 124, attributes := #[] }, { accessFlags := 25, nameIndex := 130, descriptorIndex := 124, attributes := #[] }, { accessFlags := 25, nameIndex := 136, descriptorIndex := 124, attributes := #[] }])
  fields := #[{ name := "SIOOBE_FORMATTER", type := (.object "java/util/function/BiFunction"), accessFlags := 25, slot := 0, constantValue := 0 }, { name := "AIOOBE_FORMATTER", type := (.object "java/util/function/BiFunction"), accessFlags := 25, slot := 1, constantValue := 0 }, { name := "IOOBE_FORMATTER", type := (.object "java/util/function/BiFunction"), accessFlags := 25, slot := 2, constantValue := 0 }]
  methods := #[k11m0, k11m1]
  instanceTypes := #[]
  staticTypes := #[(.object "java/util/function/BiFunction"), (.object "java/util/function/BiFunction"), (.object "java/util/function/BiFunction")]
  resolved := Array.replicate 194 none
  statics := some 2 }

def pool12 : Array CpInfo := pool [(9, u "<init>"), (6, .class_ 18), (1, u "java/lang/Object"), (0, u "()V"), (1, .class_ 23), (1, u "jdk/internal/util/ArraysSupport"), (0, u "LOG2_ARRAY_LONG_INDEX_SCALE"), (0, u "I"), (2, u "U"), (0, u "Ljdk/internal/misc/Unsafe;"), (8, u "BIG_ENDIAN"), (0, u "Z"), (8, u "LOG2_BYTE_BIT_SIZE"), (4, u "LOG2_ARRAY_INT_INDEX_SCALE"), (54, u "JLA"), (0, u "Ljdk/internal/access/JavaLangAccess;"), (11, u "LOG2_ARRAY_BOOLEAN_INDEX_SCALE"), (9, u "LOG2_ARRAY_BYTE_INDEX_SCALE"), (5, u "LOG2_ARRAY_CHAR_INDEX_SCALE"), (5, u "LOG2_ARRAY_SHORT_INDEX_SCALE"), (18, u "LOG2_ARRAY_FLOAT_INDEX_SCALE"), (24, u "LOG2_ARRAY_DOUBLE_INDEX_SCALE"), (89, u "T_BOOLEAN"), (2, u "T_CHAR"), (1, u "T_FLOAT"), (1, u "T_DOUBLE"), (1, u "T_BYTE"), (1, u "T_SHORT"), (1, u "T_INT"), (1, u "T_LONG"), (1, u "SOFT_MAX_ARRAY_LENGTH")] 83

def k12m0 : Method := { name := "<init>", desc := "()V", sig := { parameters := [], returnType := none }, accessFlags := 2, code := none }
/-- jdk/internal/util/ArraysSupport -/
def k12 : Class := { plain "jdk/internal/util/ArraysSupport" (some 0) with
  accessFlags := 33
  interfaces := #[]
  cf := some (fileOf pool12 21 #[] #[{ accessFlags := 2, nameIndex := 9, descriptorIndex := 19, attributes := #[] }] 33 16 #[] #[{ accessFlags := 24, nameIndex := 28, descriptorIndex := 29, attributes := #[] }, { accessFlags := 26, nameIndex := 38, descriptorIndex := 39, attributes := #[] }, { accessFlags := 25, nameIndex := 121, descriptorIndex := 25, attributes := #[] }, { accessFlags := 25, nameIndex := 131, descriptorIndex := 25, attributes := #[] }, { accessFlags := 25, nameIndex := 137, descriptorIndex := 25, attributes := #[] }, { accessFlags := 25, nameIndex := 143, descriptorIndex := 25, attributes := #[] }, { accessFlags := 25, nameIndex := 53, descriptorIndex := 25, attributes := #[] }, { accessFlags := 25, nameIndex := 24, descriptorIndex := 25, attributes := #[] }, { accessFlags := 25, nameIndex := 162, descriptorIndex := 25, attributes := #[] }, { accessFlags := 25, nameIndex := 187, descriptorIndex := 25, attributes := #[] }, { accessFlags := 26, nameIndex := 48, descriptorIndex := 25, attributes := #[] }, { accessFlags := 25, nameIndex := 277, descriptorIndex := 25, attributes := #[] }, { accessFlags := 25, nameIndex := 280, descriptorIndex := 25, attributes := #[] }, { accessFlags := 25, nameIndex := 282, descriptorIndex := 25, attributes := #[] }, { accessFlags := 25, nameIndex := 284, descriptorIndex := 25, attributes := #[] }, { accessFlags := 25, nameIndex := 286, descriptorIndex := 25, attributes := #[] }, { accessFlags := 25, nameIndex := 288, descriptorIndex := 25, attributes := #[] }, { accessFlags := 25, nameIndex := 290, descriptorIndex := 25, attributes := #[] }, { accessFlags := 25, nameIndex := 292, descriptorIndex := 25, attributes := #[] }, { accessFlags := 26, nameIndex := 108, descriptorIndex := 109, attributes := #[] }, { accessFlags := 25, nameIndex := 294, descriptorIndex := 25, attributes := #[] }])
  fields := #[{ name := "U", type := (.object "jdk/internal/misc/Unsafe"), accessFlags := 24, slot := 0, constantValue := 0 }, { name := "BIG_ENDIAN", type := .boolean, accessFlags := 26, slot := 1, constantValue := 0 }, { name := "LOG2_ARRAY_BOOLEAN_INDEX_SCALE", type := .int, accessFlags := 25, slot := 2, constantValue := 0 }, { name := "LOG2_ARRAY_BYTE_INDEX_SCALE", type := .int, accessFlags := 25, slot := 3, constantValue := 0 }, { name := "LOG2_ARRAY_CHAR_INDEX_SCALE", type := .int, accessFlags := 25, slot := 4, constantValue := 0 }, { name := "LOG2_ARRAY_SHORT_INDEX_SCALE", type := .int, accessFlags := 25, slot := 5, constantValue := 0 }, { name := "LOG2_ARRAY_INT_INDEX_SCALE", type := .int, accessFlags := 25, slot := 6, constantValue := 0 }, { name := "LOG2_ARRAY_LONG_INDEX_SCALE", type := .int, accessFlags := 25, slot := 7, constantValue := 0 }, { name := "LOG2_ARRAY_FLOAT_INDEX_SCALE", type := .int, accessFlags := 25, slot := 8, constantValue := 0 }, { name := "LOG2_ARRAY_DOUBLE_INDEX_SCALE", type := .int, accessFlags := 25, slot := 9, constantValue := 0 }, { name := "LOG2_BYTE_BIT_SIZE", type := .int, accessFlags := 26, slot := 10, constantValue := 0 }, { name := "T_BOOLEAN", type := .int, accessFlags := 25, slot := 11, constantValue := 0 }, { name := "T_CHAR", type := .int, accessFlags := 25, slot := 12, constantValue := 0 }, { name := "T_FLOAT", type := .int, accessFlags := 25, slot := 13, constantValue := 0 }, { name := "T_DOUBLE", type := .int, accessFlags := 25, slot := 14, constantValue := 0 }, { name := "T_BYTE", type := .int, accessFlags := 25, slot := 15, constantValue := 0 }, { name := "T_SHORT", type := .int, accessFlags := 25, slot := 16, constantValue := 0 }, { name := "T_INT", type := .int, accessFlags := 25, slot := 17, constantValue := 0 }, { name := "T_LONG", type := .int, accessFlags := 25, slot := 18, constantValue := 0 }, { name := "JLA", type := (.object "jdk/internal/access/JavaLangAccess"), accessFlags := 26, slot := 19, constantValue := 0 }, { name := "SOFT_MAX_ARRAY_LENGTH", type := .int, accessFlags := 25, slot := 20, constantValue := 0 }]
  methods := #[k12m0]
  instanceTypes := #[]
  staticTypes := #[(.object "jdk/internal/misc/Unsafe"), .boolean, .int, .int, .int, .int, .int, .int, .int, .int, .int, .int, .int, .int, .int, .int, .int, .int, .int, (.object "jdk/internal/access/JavaLangAccess"), .int]
  resolved := Array.replicate 378 none
  statics := none }

def pool13 : Array CpInfo := pool [(1, u "java/lang/Cloneable"), (0, .class_ 1), (0, u "java/lang/Object"), (0, .class_ 3)] 3

/-- java/lang/Cloneable -/
def k13 : Class := { plain "java/lang/Cloneable" (some 0) with
  accessFlags := 1537
  interfaces := #[]
  cf := some (fileOf pool13 2 #[] #[] 1537 4 #[] #[])
  fields := #[]
  methods := #[]
  instanceTypes := #[]
  staticTypes := #[]
  resolved := Array.replicate 8 none
  statics := none }

/-- the primitive byte -/
def k14 : Class := { plain "byte" none with kind := .primitive 'B', accessFlags := 0x411 }
/-- [B -/
def k15 : Class := { plain "[B" (some 0) with kind := .array 14 .byte, interfaces := #[13, 2], accessFlags := 1041 }

/-- the primitive char -/
def k16 : Class := { plain "char" none with kind := .primitive 'C', accessFlags := 0x411 }
/-- [C -/
def k17 : Class := { plain "[C" (some 0) with kind := .array 16 .char, interfaces := #[13, 2], accessFlags := 1041 }

def heap : Heap := #[{ cls := 7, slots := #[.long 0, .int 1, .null, .int 0, .null, .int 0, .int 0], vm := .statics 7 },
  { cls := 8, slots := #[.int 0, .int 8, .int 0, .int 1], vm := .statics 8 },
  { cls := 11, slots := #[.null, .null, .null], vm := .statics 11 }]
def classes : Array Class := #[k0, k1, k2, k3, k4, k5, k6, k7, k8, k9, k10, k11, k12, k13, k14, k15, k16, k17]
def interned : List (Array UInt16 × Addr) := []
def slotsUsed : Nat := 14
def theMethod : MethodId := ⟨1, 1⟩
def args0 : Array Value := #[.int 5, .int 1, .int 1, .int 2]
def aboutOver (below : List Frame) : State where
  vm := { classes := classes, interned := interned.toArray }
  heap := heap
  slotsUsed := slotsUsed
  threads := #[{ frames := .invoking theMethod args0 :: below }]
def below0 : List Frame := [.native { method := ⟨0, 0⟩, args := #[] }]
def about1 : State := aboutOver below0
def p0 : Program := .bare "" "" ""
def e0 : Env := launch0.env 0 0 0
theorem w_frames : about1.frames = Frame.invoking theMethod args0 :: below0 := rfl
set_option maxRecDepth 65536 in
theorem w_args : argsFit about1.vm theMethod args0 = true := by decide +kernel
set_option maxRecDepth 65536 in
theorem w_heap : heapFits about1 = true := by decide +kernel
set_option maxRecDepth 65536 in
theorem w_runnable : about1.curStatus? = some .runnable := by decide +kernel
set_option maxRecDepth 65536 in
theorem w_alone : about1.alone = true := by decide +kernel
set_option maxRecDepth 65536 in
theorem w_named : about1.methodNamed? x = some theMethod := by decide +kernel
set_option maxRecDepth 65536 in
theorem w_hears : about1.hears theMethod below0 = true := by decide +kernel
set_option maxRecDepth 65536 in
theorem w_ripe : about1.ripe theMethod args0 below0 = true := by decide +kernel
theorem w_running : about1.status = .running := rfl
set_option maxRecDepth 65536 in
theorem w_room : about1.hasRoom e0.platform room_1 = true :=
  launch0.hasRoom_least _ room_1 (by decide +kernel) (by decide +kernel) (by decide +kernel) (by decide +kernel) (by decide +kernel) (by decide +kernel)
theorem allAtoms_all (ts : List Jvm.Cond) (a : Array Jvm.Value) (st : Jvm.State) : (allAtoms ts).before a st = ts.all (fun c => c.before a st) := by
  induction ts with
  | nil => rfl
  | cons c t ih =>
    show (Jvm.Cond.and c (allAtoms t)).before a st = _
    rw [Jvm.Cond.before_and, ih, List.all_cons]
def words1 : List Jvm.Cond := Jvm.Cond.code x code maxLocals ret :: tables_1
/-- a 'code' word, met by the world's own term for the bytes: nothing is compared byte by byte -/
theorem code_word {y : MethodName} {bytes : ByteArray} {mx : Nat} {rt : Option FieldType} {a : Array Value} {s : State} {m : MethodId} {meth : Method} {c : Code} (h1 : s.methodNamed? y = some m) (h2 : s.vm.method? m = some meth) (h3 : meth.code = some c) (h4 : c.code = bytes)
    (h5 : (c.maxLocals == mx && c.exceptionTable.isEmpty && decide (c.maxStack ≤ mostOperands) && decide (meth.sig.returnType = rt) && !meth.locks && decide (parseMethodDescriptor y.desc = some meth.sig)) = true) : (Jvm.Cond.code y bytes mx rt).before a s = true := by
  simp only [Bool.and_eq_true, beq_iff_eq, Bool.not_eq_true', decide_eq_true_eq] at h5
  obtain ⟨⟨⟨⟨⟨g1, g2⟩, g3⟩, g4⟩, g5⟩, g6⟩ := h5
  simp [Cond.before, Cond.holds, Cond.value, h1, h2, h3, h4, g1, g2, g3, g4, g5, g6]
def isCode : Jvm.Cond → Bool
  | .code _ _ _ _ => true
  | _ => false
theorem all_split {L : List Jvm.Cond} {P : Jvm.Cond → Bool} (h1 : L.all (fun c => isCode c || P c) = true) (h2 : ∀ c ∈ L.filter isCode, P c = true) : L.all P = true := by
  refine List.all_eq_true.mpr fun c hc => ?_
  have h := List.all_eq_true.mp h1 c hc
  rcases Bool.eq_false_or_eq_true (isCode c) with hi | hi
  · exact h2 c (List.mem_filter.mpr ⟨hc, hi⟩)
  · simpa [hi] using h
set_option maxRecDepth 65536 in
theorem w_c0 : (Jvm.Cond.code x code maxLocals ret).before args0 about1 = true := code_word (m := ⟨1, 1⟩) (meth := k1m1) (c := k1c1) (by decide +kernel) rfl rfl rfl (by decide +kernel)
set_option maxRecDepth 65536 in
theorem w_c1 : (Jvm.Cond.code ({ cls := "java/lang/String", name := "<init>", desc := "([C)V" } : Jvm.MethodName) jdk_42_method_3_code (2 : Nat) (Option.none : Option Jvm.ClassFile.FieldType)).before args0 about1 = true := code_word (m := ⟨7, 1⟩) (meth := k7m1) (c := k7c1) (by decide +kernel) rfl rfl rfl (by decide +kernel)
set_option maxRecDepth 65536 in
theorem w_c2 : (Jvm.Cond.code ({ cls := "java/lang/String", name := "<init>", desc := "([CIILjava/lang/Void;)V" } : Jvm.MethodName) jdk_42_method_149_code (6 : Nat) (Option.none : Option Jvm.ClassFile.FieldType)).before args0 about1 = true := code_word (m := ⟨7, 3⟩) (meth := k7m3) (c := k7c3) (by decide +kernel) rfl rfl rfl (by decide +kernel)
set_option maxRecDepth 65536 in
theorem w_c3 : (Jvm.Cond.code ({ cls := "java/lang/Object", name := "<init>", desc := "()V" } : Jvm.MethodName) object_method_1_code (1 : Nat) (Option.none : Option Jvm.ClassFile.FieldType)).before args0 about1 = true := code_word (m := ⟨0, 0⟩) (meth := k0m0) (c := k0c0) (by decide +kernel) rfl rfl rfl (by decide +kernel)
set_option maxRecDepth 65536 in
theorem w_c4 : (Jvm.Cond.code ({ cls := "java/lang/StringUTF16", name := "compress", desc := "([CII)[B" } : Jvm.MethodName) jdk_52_method_16_code (6 : Nat) (Option.some (Jvm.ClassFile.FieldType.array Jvm.ClassFile.FieldType.byte))).before args0 about1 = true := code_word (m := ⟨8, 8⟩) (meth := k8m8) (c := k8c8) (by decide +kernel) rfl rfl rfl (by decide +kernel)
set_option maxRecDepth 65536 in
theorem w_c5 : (Jvm.Cond.code ({ cls := "java/lang/StringUTF16", name := "compress", desc := "([CI[BII)I" } : Jvm.MethodName) jdk_52_method_21_code (7 : Nat) (Option.some Jvm.ClassFile.FieldType.int)).before args0 about1 = true := code_word (m := ⟨8, 9⟩) (meth := k8m9) (c := k8c9) (by decide +kernel) rfl rfl rfl (by decide +kernel)
set_option maxRecDepth 65536 in
theorem w_c6 : (Jvm.Cond.code ({ cls := "java/lang/StringUTF16", name := "coderFromArrayLen", desc := "([BI)B" } : Jvm.MethodName) jdk_52_method_15_code (2 : Nat) (Option.some Jvm.ClassFile.FieldType.byte)).before args0 about1 = true := code_word (m := ⟨8, 7⟩) (meth := k8m7) (c := k8c7) (by decide +kernel) rfl rfl rfl (by decide +kernel)
set_option maxRecDepth 65536 in
theorem w_c7 : (Jvm.Cond.code ({ cls := "com/example/api_policy_gateway/apipolicygateway/proxy/HeaderFieldsAllDigitsPinLaw", name := "ok", desc := "(CIII)Z" } : Jvm.MethodName) method_3_code (4 : Nat) (Option.some Jvm.ClassFile.FieldType.boolean)).before args0 about1 = true := code_word (m := ⟨1, 2⟩) (meth := k1m2) (c := k1c2) (by decide +kernel) rfl rfl rfl (by decide +kernel)
set_option maxRecDepth 65536 in
theorem w_c8 : (Jvm.Cond.code ({ cls := "com/example/api_policy_gateway/apipolicygateway/proxy/HeaderFields", name := "allDigits", desc := "(Ljava/lang/String;II)Z" } : Jvm.MethodName) prog_32_method_41_code (4 : Nat) (Option.some Jvm.ClassFile.FieldType.boolean)).before args0 about1 = true := code_word (m := ⟨9, 1⟩) (meth := k9m1) (c := k9c1) (by decide +kernel) rfl rfl rfl (by decide +kernel)
set_option maxRecDepth 65536 in
theorem w_c9 : (Jvm.Cond.code ({ cls := "java/lang/StringUTF16", name := "toBytes", desc := "([CII)[B" } : Jvm.MethodName) jdk_52_method_14_code (5 : Nat) (Option.some (Jvm.ClassFile.FieldType.array Jvm.ClassFile.FieldType.byte))).before args0 about1 = true := code_word (m := ⟨8, 6⟩) (meth := k8m6) (c := k8c6) (by decide +kernel) rfl rfl rfl (by decide +kernel)
set_option maxRecDepth 65536 in
theorem w_c10 : (Jvm.Cond.code ({ cls := "java/lang/StringUTF16", name := "newBytesFor", desc := "(I)[B" } : Jvm.MethodName) jdk_52_method_2_code (1 : Nat) (Option.some (Jvm.ClassFile.FieldType.array Jvm.ClassFile.FieldType.byte))).before args0 about1 = true := code_word (m := ⟨8, 1⟩) (meth := k8m1) (c := k8c1) (by decide +kernel) rfl rfl rfl (by decide +kernel)
set_option maxRecDepth 65536 in
theorem w_c11 : (Jvm.Cond.code ({ cls := "java/lang/StringUTF16", name := "newBytesLength", desc := "(I)I" } : Jvm.MethodName) jdk_52_method_3_code (1 : Nat) (Option.some Jvm.ClassFile.FieldType.int)).before args0 about1 = true := code_word (m := ⟨8, 2⟩) (meth := k8m2) (c := k8c2) (by decide +kernel) rfl rfl rfl (by decide +kernel)
set_option maxRecDepth 65536 in
theorem w_c12 : (Jvm.Cond.code ({ cls := "java/lang/StringUTF16", name := "putChar", desc := "([BII)V" } : Jvm.MethodName) jdk_52_method_4_code (3 : Nat) (Option.none : Option Jvm.ClassFile.FieldType)).before args0 about1 = true := code_word (m := ⟨8, 3⟩) (meth := k8m3) (c := k8c3) (by decide +kernel) rfl rfl rfl (by decide +kernel)
set_option maxRecDepth 65536 in
theorem w_c13 : (Jvm.Cond.code ({ cls := "java/lang/StringUTF16", name := "getChar", desc := "([BI)C" } : Jvm.MethodName) jdk_52_method_5_code (2 : Nat) (Option.some Jvm.ClassFile.FieldType.char)).before args0 about1 = true := code_word (m := ⟨8, 4⟩) (meth := k8m4) (c := k8c4) (by decide +kernel) rfl rfl rfl (by decide +kernel)
set_option maxRecDepth 65536 in
theorem w_c14 : (Jvm.Cond.code ({ cls := "java/lang/String", name := "charAt", desc := "(I)C" } : Jvm.MethodName) jdk_42_method_56_code (2 : Nat) (Option.some Jvm.ClassFile.FieldType.char)).before args0 about1 = true := code_word (m := ⟨7, 2⟩) (meth := k7m2) (c := k7c2) (by decide +kernel) rfl rfl rfl (by decide +kernel)
set_option maxRecDepth 65536 in
theorem w_c15 : (Jvm.Cond.code ({ cls := "java/lang/String", name := "isLatin1", desc := "()Z" } : Jvm.MethodName) jdk_42_method_154_code (1 : Nat) (Option.some Jvm.ClassFile.FieldType.boolean)).before args0 about1 = true := code_word (m := ⟨7, 4⟩) (meth := k7m4) (c := k7c4) (by decide +kernel) rfl rfl rfl (by decide +kernel)
set_option maxRecDepth 65536 in
theorem w_c16 : (Jvm.Cond.code ({ cls := "java/lang/StringLatin1", name := "charAt", desc := "([BI)C" } : Jvm.MethodName) jdk_43_method_2_code (2 : Nat) (Option.some Jvm.ClassFile.FieldType.char)).before args0 about1 = true := code_word (m := ⟨10, 1⟩) (meth := k10m1) (c := k10c1) (by decide +kernel) rfl rfl rfl (by decide +kernel)
set_option maxRecDepth 65536 in
theorem w_c17 : (Jvm.Cond.code ({ cls := "java/lang/String", name := "checkIndex", desc := "(II)V" } : Jvm.MethodName) jdk_42_method_155_code (2 : Nat) (Option.none : Option Jvm.ClassFile.FieldType)).before args0 about1 = true := code_word (m := ⟨7, 5⟩) (meth := k7m5) (c := k7c5) (by decide +kernel) rfl rfl rfl (by decide +kernel)
set_option maxRecDepth 65536 in
theorem w_c18 : (Jvm.Cond.code ({ cls := "jdk/internal/util/Preconditions", name := "checkIndex", desc := "(IILjava/util/function/BiFunction;)I" } : Jvm.MethodName) jdk_41_method_11_code (3 : Nat) (Option.some Jvm.ClassFile.FieldType.int)).before args0 about1 = true := code_word (m := ⟨11, 1⟩) (meth := k11m1) (c := k11c1) (by decide +kernel) rfl rfl rfl (by decide +kernel)
set_option maxRecDepth 65536 in
theorem w_c19 : (Jvm.Cond.code ({ cls := "java/lang/StringUTF16", name := "charAt", desc := "([BI)C" } : Jvm.MethodName) jdk_52_method_83_code (2 : Nat) (Option.some Jvm.ClassFile.FieldType.char)).before args0 about1 = true := code_word (m := ⟨8, 10⟩) (meth := k8m10) (c := k8c10) (by decide +kernel) rfl rfl rfl (by decide +kernel)
set_option maxRecDepth 65536 in
theorem w_c20 : (Jvm.Cond.code ({ cls := "java/lang/StringUTF16", name := "checkIndex", desc := "(I[B)V" } : Jvm.MethodName) jdk_52_method_91_code (2 : Nat) (Option.none : Option Jvm.ClassFile.FieldType)).before args0 about1 = true := code_word (m := ⟨8, 11⟩) (meth := k8m11) (c := k8c11) (by decide +kernel) rfl rfl rfl (by decide +kernel)
set_option maxRecDepth 65536 in
theorem w_c21 : (Jvm.Cond.code ({ cls := "java/lang/StringUTF16", name := "length", desc := "([B)I" } : Jvm.MethodName) jdk_52_method_6_code (1 : Nat) (Option.some Jvm.ClassFile.FieldType.int)).before args0 about1 = true := code_word (m := ⟨8, 5⟩) (meth := k8m5) (c := k8c5) (by decide +kernel) rfl rfl rfl (by decide +kernel)
def codes1 : List Jvm.Cond := [Jvm.Cond.code x code maxLocals ret, Jvm.Cond.code ({ cls := "java/lang/String", name := "<init>", desc := "([C)V" } : Jvm.MethodName) jdk_42_method_3_code (2 : Nat) (Option.none : Option Jvm.ClassFile.FieldType), Jvm.Cond.code ({ cls := "java/lang/String", name := "<init>", desc := "([CIILjava/lang/Void;)V" } : Jvm.MethodName) jdk_42_method_149_code (6 : Nat) (Option.none : Option Jvm.ClassFile.FieldType), Jvm.Cond.code ({ cls := "java/lang/Object", name := "<init>", desc := "()V" } : Jvm.MethodName) object_method_1_code (1 : Nat) (Option.none : Option Jvm.ClassFile.FieldType), Jvm.Cond.code ({ cls := "java/lang/StringUTF16", name := "compress", desc := "([CII)[B" } : Jvm.MethodName) jdk_52_method_16_code (6 : Nat) (Option.some (Jvm.ClassFile.FieldType.array Jvm.ClassFile.FieldType.byte)), Jvm.Cond.code ({ cls := "java/lang/StringUTF16", name := "compress", desc := "([CI[BII)I" } : Jvm.MethodName) jdk_52_method_21_code (7 : Nat) (Option.some Jvm.ClassFile.FieldType.int), Jvm.Cond.code ({ cls := "java/lang/StringUTF16", name := "coderFromArrayLen", desc := "([BI)B" } : Jvm.MethodName) jdk_52_method_15_code (2 : Nat) (Option.some Jvm.ClassFile.FieldType.byte), Jvm.Cond.code ({ cls := "com/example/api_policy_gateway/apipolicygateway/proxy/HeaderFieldsAllDigitsPinLaw", name := "ok", desc := "(CIII)Z" } : Jvm.MethodName) method_3_code (4 : Nat) (Option.some Jvm.ClassFile.FieldType.boolean), Jvm.Cond.code ({ cls := "com/example/api_policy_gateway/apipolicygateway/proxy/HeaderFields", name := "allDigits", desc := "(Ljava/lang/String;II)Z" } : Jvm.MethodName) prog_32_method_41_code (4 : Nat) (Option.some Jvm.ClassFile.FieldType.boolean), Jvm.Cond.code ({ cls := "java/lang/StringUTF16", name := "toBytes", desc := "([CII)[B" } : Jvm.MethodName) jdk_52_method_14_code (5 : Nat) (Option.some (Jvm.ClassFile.FieldType.array Jvm.ClassFile.FieldType.byte)), Jvm.Cond.code ({ cls := "java/lang/StringUTF16", name := "newBytesFor", desc := "(I)[B" } : Jvm.MethodName) jdk_52_method_2_code (1 : Nat) (Option.some (Jvm.ClassFile.FieldType.array Jvm.ClassFile.FieldType.byte)), Jvm.Cond.code ({ cls := "java/lang/StringUTF16", name := "newBytesLength", desc := "(I)I" } : Jvm.MethodName) jdk_52_method_3_code (1 : Nat) (Option.some Jvm.ClassFile.FieldType.int), Jvm.Cond.code ({ cls := "java/lang/StringUTF16", name := "putChar", desc := "([BII)V" } : Jvm.MethodName) jdk_52_method_4_code (3 : Nat) (Option.none : Option Jvm.ClassFile.FieldType), Jvm.Cond.code ({ cls := "java/lang/StringUTF16", name := "getChar", desc := "([BI)C" } : Jvm.MethodName) jdk_52_method_5_code (2 : Nat) (Option.some Jvm.ClassFile.FieldType.char), Jvm.Cond.code ({ cls := "java/lang/String", name := "charAt", desc := "(I)C" } : Jvm.MethodName) jdk_42_method_56_code (2 : Nat) (Option.some Jvm.ClassFile.FieldType.char), Jvm.Cond.code ({ cls := "java/lang/String", name := "isLatin1", desc := "()Z" } : Jvm.MethodName) jdk_42_method_154_code (1 : Nat) (Option.some Jvm.ClassFile.FieldType.boolean), Jvm.Cond.code ({ cls := "java/lang/StringLatin1", name := "charAt", desc := "([BI)C" } : Jvm.MethodName) jdk_43_method_2_code (2 : Nat) (Option.some Jvm.ClassFile.FieldType.char), Jvm.Cond.code ({ cls := "java/lang/String", name := "checkIndex", desc := "(II)V" } : Jvm.MethodName) jdk_42_method_155_code (2 : Nat) (Option.none : Option Jvm.ClassFile.FieldType), Jvm.Cond.code ({ cls := "jdk/internal/util/Preconditions", name := "checkIndex", desc := "(IILjava/util/function/BiFunction;)I" } : Jvm.MethodName) jdk_41_method_11_code (3 : Nat) (Option.some Jvm.ClassFile.FieldType.int), Jvm.Cond.code ({ cls := "java/lang/StringUTF16", name := "charAt", desc := "([BI)C" } : Jvm.MethodName) jdk_52_method_83_code (2 : Nat) (Option.some Jvm.ClassFile.FieldType.char), Jvm.Cond.code ({ cls := "java/lang/StringUTF16", name := "checkIndex", desc := "(I[B)V" } : Jvm.MethodName) jdk_52_method_91_code (2 : Nat) (Option.none : Option Jvm.ClassFile.FieldType), Jvm.Cond.code ({ cls := "java/lang/StringUTF16", name := "length", desc := "([B)I" } : Jvm.MethodName) jdk_52_method_6_code (1 : Nat) (Option.some Jvm.ClassFile.FieldType.int)]
set_option maxRecDepth 65536 in
theorem codes_eq : words1.filter isCode = codes1 := rfl
theorem w_codes : ∀ c ∈ words1.filter isCode, c.before args0 about1 = true := by
  rw [codes_eq]
  intro c hc
  simp only [codes1, List.mem_cons, List.not_mem_nil, or_false] at hc
  rcases hc with rfl | rfl | rfl | rfl | rfl | rfl | rfl | rfl | rfl | rfl | rfl | rfl | rfl | rfl | rfl | rfl | rfl | rfl | rfl | rfl | rfl | rfl
  · exact w_c0
  · exact w_c1
  · exact w_c2
  · exact w_c3
  · exact w_c4
  · exact w_c5
  · exact w_c6
  · exact w_c7
  · exact w_c8
  · exact w_c9
  · exact w_c10
  · exact w_c11
  · exact w_c12
  · exact w_c13
  · exact w_c14
  · exact w_c15
  · exact w_c16
  · exact w_c17
  · exact w_c18
  · exact w_c19
  · exact w_c20
  · exact w_c21
set_option maxRecDepth 65536 in
theorem w_t1 : (words1.take 24).all (fun c => isCode c || c.before args0 about1) = true := by decide +kernel
set_option maxRecDepth 65536 in
theorem w_t2 : ((words1.drop 24).take 24).all (fun c => isCode c || c.before args0 about1) = true := by decide +kernel
set_option maxRecDepth 65536 in
theorem w_t3 : (((words1.drop 24).drop 24).take 24).all (fun c => isCode c || c.before args0 about1) = true := by decide +kernel
set_option maxRecDepth 65536 in
theorem w_t4 : (((words1.drop 24).drop 24).drop 24).all (fun c => isCode c || c.before args0 about1) = true := by decide +kernel
theorem w_tables : (allAtoms (Jvm.Cond.code x code maxLocals ret :: tables_1)).before args0 about1 = true := by
  rw [allAtoms_all]
  show words1.all (fun c => c.before args0 about1) = true
  refine all_split ?_ w_codes
  rw [← List.take_append_drop 24 words1, List.all_append, w_t1, ← List.take_append_drop 24 (words1.drop 24), List.all_append, w_t2, ← List.take_append_drop 24 ((words1.drop 24).drop 24), List.all_append, w_t3, w_t4]
  rfl
set_option maxRecDepth 65536 in
theorem w_rest : rest_1_c.before args0 about1 = true := by decide +kernel
set_option maxRecDepth 65536 in
theorem w_case : (Jvm.Cond.and given_1 narrow_1).before args0 about1 = true := by decide +kernel
theorem w_applies : (headSpec (Jvm.Cond.code x code maxLocals ret :: tables_1) room_1).applies x e0.platform about1 = true :=
  (Spec.applies_iff w_frames).mpr ⟨w_running, w_runnable, w_alone, w_named, w_hears, w_ripe, w_room, w_tables⟩
theorem atStart : AtStart classFile x code maxLocals ret World_1 tables_1 room_1 Calls_1 rest_1 Pre_1 launch0 p0 e0 about1 theMethod args0 below0 :=
  ⟨lists_1, trivial, launch0.admits_env _ _ _, launch0.least_env, fairChoices_fair.cas, fairChoices_fair.clock, w_frames, w_args, w_heap, w_applies, trivial, w_rest, w_case⟩
end start1
theorem witness_1 : WitnessClaimed_1 := ⟨start1.p0, start1.e0, start1.about1, start1.theMethod, start1.args0, start1.below0, start1.atStart⟩
end Jvm.Pilot.@@N@@
