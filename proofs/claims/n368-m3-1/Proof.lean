import JvmDerived
import JvmDerived.Pilot.@@N@@Statement
import JvmDerived.Pilot.@@N@@Code
set_option linter.unusedVariables false
set_option linter.unusedSimpArgs false
@@BLOCK:NumsL.lean.txt@@
namespace Jvm.RoadKit
open Sem ClassFile Op Lib Jvm.Stand Jvm.Free Jvm.LawKit
section New
variable {p : Program} {l : Launch} {e : Env} {R : Room} {s : State} {m : MethodId} {args : Array Value} {below : List Frame} {meth : Method} {c : Code} {T : State} {locs : List Loc} {cells slots : Nat}
theorem retI (X : Stand p l e R s m args below meth c T locs cells slots) (hx : p.tables.exec = Jvm.exec) {pc : Nat} {Ls : Array Slot} {z : Int32} {rest : List Value} (hret : meth.sig.returnType = some .int) (hd : decode c.code pc = .ok (.ireturn, 1)) {fs : List Frame}
    (hl : ∀ (f : JFrame) (acts : List Action), f.method = m → f.locked = none → f.entered = [] → (doReturn e (T.setTop f) acts (some (.int z))).1 = T.setFrames fs) : Steps p.tables e below (T.setTop (mkF m pc Ls (.int z :: rest))) (T.setFrames fs) := by
  have hm' : T.vm.method? m = some meth := X.method'
  have hn : narrow .int (.int z) = .int z := rfl
  show Steps p.tables e below (T.setTop { method := m, pc := pc, locals := Ls, stack := _ :: rest, locked := none }) _
  jvm_step X.here [X.here.top, hx, hd, hm', hret, hn]
  first | (intro acts; rw [hl _ acts rfl rfl rfl]) | rw [hl _ _ rfl rfl rfl]
  exact Steps.refl _
end New
end Jvm.RoadKit
namespace Jvm.Pilot.@@N@@
open Jvm Jvm.ClassFile Sem Op Lib Jvm.Free Jvm.Stand Jvm.LawKit Jvm.RoadKit Bundle Jvm.Pilot.@@N@@.Jvm.D
/-- what a walk comes to, said forward -/
def Go (p : Program) (e : Env) (below : List Frame) (R : State → Outcome → Prop) (A : State) : Prop := ∃ t o, Steps p.tables e below A t ∧ R t o
def Fin1 (s : State) (below : List Frame) (Q : Option Value → Heap → List Loc → Prop) (K N : Nat) (t : State) (o : Outcome) : Prop := t.status = .running ∧ Ended t below o ∧ ∃ v L, o = .returned v ∧ Q v t.heap L ∧ FrameEnd s o t L K N
theorem Go.step {p : Program} {e : Env} {below : List Frame} {R : State → Outcome → Prop} {A B : State} (k : ∀ t, Steps p.tables e below A t → Steps p.tables e below B t) (h : Go p e below R A) : Go p e below R B := by
  obtain ⟨t, o, h1, h2⟩ := h
  exact ⟨t, o, k t h1, h2⟩
section GoRet
variable {p : Program} {l : Launch} {e : Env} {R : Room} {s : State} {m : MethodId} {args : Array Value} {below : List Frame} {meth : Method} {c : Code} {T : State} {locs : List Loc} {cells slots : Nat} {Q : Option Value → Heap → List Loc → Prop} {K N pc : Nat} {Ls : Array Slot} {rest : List Value}
theorem Go.retZ (X : Stand p l e R s m args below meth c T locs cells slots) (hx : p.tables.exec = Jvm.exec) {z : Int32} {t : FieldType} (hret : meth.sig.returnType = some t) (ht : t = .boolean ∨ t = .byte ∨ t = .char ∨ t = .short) (hlk : meth.locks = false) (hd : decode c.code pc = .ok (.ireturn, 1)) (hq : Q (some (.int (nar t z))) T.heap locs) (hc : cells ≤ K) (hn : slots ≤ N) : Go p e below (Fin1 s below Q K N) (T.setTop (mkF m pc Ls (.int z :: rest))) := by
  obtain ⟨fs, hr, hrun, hended, hW, hsame⟩ := X.leave (v := some (.int (nar t z))) (fun h => by rw [hret] at h; cases h) hlk
  exact ⟨_, _, retN X hx hret ht hd hr, hrun, hended, _, _, rfl, hq, ⟨_, rfl⟩, hW, hsame.mono hc hn⟩
theorem Go.retI (X : Stand p l e R s m args below meth c T locs cells slots) (hx : p.tables.exec = Jvm.exec) {z : Int32} (hret : meth.sig.returnType = some .int) (hlk : meth.locks = false) (hd : decode c.code pc = .ok (.ireturn, 1)) (hq : Q (some (.int z)) T.heap locs) (hc : cells ≤ K) (hn : slots ≤ N) : Go p e below (Fin1 s below Q K N) (T.setTop (mkF m pc Ls (.int z :: rest))) := by
  obtain ⟨fs, hr, hrun, hended, hW, hsame⟩ := X.leave (v := some (.int z)) (fun h => by rw [hret] at h; cases h) hlk
  exact ⟨_, _, Jvm.RoadKit.retI X hx hret hd hr, hrun, hended, _, _, rfl, hq, ⟨_, rfl⟩, hW, hsame.mono hc hn⟩
theorem Go.retJ (X : Stand p l e R s m args below meth c T locs cells slots) (hx : p.tables.exec = Jvm.exec) {z : Int64} (hret : meth.sig.returnType = some .long) (hlk : meth.locks = false) (hd : decode c.code pc = .ok (.lreturn, 1)) (hq : Q (some (.long z)) T.heap locs) (hc : cells ≤ K) (hn : slots ≤ N) : Go p e below (Fin1 s below Q K N) (T.setTop (mkF m pc Ls (.long z :: rest))) := by
  obtain ⟨fs, hr, hrun, hended, hW, hsame⟩ := X.leave (v := some (.long z)) (fun h => by rw [hret] at h; cases h) hlk
  exact ⟨_, _, retOut X hx hret rfl (Or.inr (Or.inl ⟨rfl, rfl, _, rfl⟩)) hd hr, hrun, hended, _, _, rfl, hq, ⟨_, rfl⟩, hW, hsame.mono hc hn⟩
theorem Go.retR (X : Stand p l e R s m args below meth c T locs cells slots) (hx : p.tables.exec = Jvm.exec) {w : Value} {t : FieldType} (hret : meth.sig.returnType = some t) (ht : t.isReference = true) (hw : w.isRef = true) (hlk : meth.locks = false) (hd : decode c.code pc = .ok (.areturn, 1)) (hq : Q (some w) T.heap locs) (hc : cells ≤ K) (hn : slots ≤ N) : Go p e below (Fin1 s below Q K N) (T.setTop (mkF m pc Ls (w :: rest))) := by
  obtain ⟨fs, hr, hrun, hended, hW, hsame⟩ := X.leave (v := some w) (fun h => by rw [hret] at h; cases h) hlk
  have hnw : narrow t w = w := by rcases ref_cases hw with rfl | ⟨a, rfl⟩ <;> cases t <;> first | rfl | (cases ht)
  exact ⟨_, _, retOut X hx hret hnw (Or.inr (Or.inr (Or.inr (Or.inr ⟨rfl, ht, hw⟩)))) hd hr, hrun, hended, _, _, rfl, hq, ⟨_, rfl⟩, hW, hsame.mono hc hn⟩
theorem Go.retV (X : Stand p l e R s m args below meth c T locs cells slots) (hx : p.tables.exec = Jvm.exec) (hret : meth.sig.returnType = none) (hlk : meth.locks = false) (hd : decode c.code pc = .ok (.return_, 1)) (hq : Q none T.heap locs) (hc : cells ≤ K) (hn : slots ≤ N) : Go p e below (Fin1 s below Q K N) (T.setTop (mkF m pc Ls [])) := by
  obtain ⟨fs, hr, hrun, hended, hW, hsame⟩ := X.leave (v := none) (fun _ => rfl) hlk
  exact ⟨_, _, X.returnOut hx hret hd hr, hrun, hended, _, _, rfl, hq, ⟨_, rfl⟩, hW, hsame.mono hc hn⟩
end GoRet
def Fin2 (s : State) (below : List Frame) (Q : Option Value → Heap → List Loc → Prop) (K N : Nat) (t : State) (o : Outcome) : Prop := t.status = .running ∧ Ended t below o ∧ ∃ v L, o = .returned v ∧ Q v t.heap L ∧ ReturnedEndW s o t L K N
theorem wmono {s t : State} {o : Outcome} {L : List Loc} {k n k' n' : Nat} (h : ReturnedEndW s o t L k n) (h1 : k ≤ k') (h2 : n ≤ n') : ReturnedEndW s o t L k' n' := ⟨h.1, h.2.1, h.2.2.1, h.2.2.2.mono h1 h2⟩
section GoRetW
variable {p : Program} {l : Launch} {e : Env} {R : Room} {s : State} {vm0 : Vm} {m : MethodId} {args : Array Value} {below : List Frame} {meth : Method} {c : Code} {T : State} {locs : List Loc} {cells slots : Nat} {Q : Option Value → Heap → List Loc → Prop} {K N pc k0 : Nat} {Ls : Array Slot} {rest : List Value}
theorem GoW.retZ (X : Stand p l e R (s.setVm vm0) m args below meth c T locs cells slots) (hS : s.Since vm0 k0) (hk : k0 ≤ T.heap.size) (hx : p.tables.exec = Jvm.exec) {z : Int32} {t : FieldType} (hret : meth.sig.returnType = some t) (ht : t = .boolean ∨ t = .byte ∨ t = .char ∨ t = .short) (hlk : meth.locks = false) (hd : decode c.code pc = .ok (.ireturn, 1)) (hq : Q (some (.int (nar t z))) T.heap locs) (hc : cells ≤ K) (hn : slots ≤ N) : Go p e below (Fin2 s below Q K N) (T.setTop (mkF m pc Ls (.int z :: rest))) := by
  obtain ⟨fs, hr, hrun, hended, hW⟩ := X.leaveW hS hk (v := some (.int (nar t z))) (fun h => by rw [hret] at h; cases h) hlk
  exact ⟨_, _, retN X hx hret ht hd hr, hrun, hended, _, _, rfl, hq, wmono hW hc hn⟩
theorem GoW.retI (X : Stand p l e R (s.setVm vm0) m args below meth c T locs cells slots) (hS : s.Since vm0 k0) (hk : k0 ≤ T.heap.size) (hx : p.tables.exec = Jvm.exec) {z : Int32} (hret : meth.sig.returnType = some .int) (hlk : meth.locks = false) (hd : decode c.code pc = .ok (.ireturn, 1)) (hq : Q (some (.int z)) T.heap locs) (hc : cells ≤ K) (hn : slots ≤ N) : Go p e below (Fin2 s below Q K N) (T.setTop (mkF m pc Ls (.int z :: rest))) := by
  obtain ⟨fs, hr, hrun, hended, hW⟩ := X.leaveW hS hk (v := some (.int z)) (fun h => by rw [hret] at h; cases h) hlk
  exact ⟨_, _, Jvm.RoadKit.retI X hx hret hd hr, hrun, hended, _, _, rfl, hq, wmono hW hc hn⟩
theorem GoW.retR (X : Stand p l e R (s.setVm vm0) m args below meth c T locs cells slots) (hS : s.Since vm0 k0) (hk : k0 ≤ T.heap.size) (hx : p.tables.exec = Jvm.exec) {w : Value} {t : FieldType} (hret : meth.sig.returnType = some t) (ht : t.isReference = true) (hw : w.isRef = true) (hlk : meth.locks = false) (hd : decode c.code pc = .ok (.areturn, 1)) (hq : Q (some w) T.heap locs) (hc : cells ≤ K) (hn : slots ≤ N) : Go p e below (Fin2 s below Q K N) (T.setTop (mkF m pc Ls (w :: rest))) := by
  obtain ⟨fs, hr, hrun, hended, hW⟩ := X.leaveW hS hk (v := some w) (fun h => by rw [hret] at h; cases h) hlk
  have hnw : narrow t w = w := by rcases ref_cases hw with rfl | ⟨a, rfl⟩ <;> cases t <;> first | rfl | (cases ht)
  exact ⟨_, _, retOut X hx hret hnw (Or.inr (Or.inr (Or.inr (Or.inr ⟨rfl, ht, hw⟩)))) hd hr, hrun, hended, _, _, rfl, hq, wmono hW hc hn⟩
theorem GoW.retV (X : Stand p l e R (s.setVm vm0) m args below meth c T locs cells slots) (hS : s.Since vm0 k0) (hk : k0 ≤ T.heap.size) (hx : p.tables.exec = Jvm.exec) (hret : meth.sig.returnType = none) (hlk : meth.locks = false) (hd : decode c.code pc = .ok (.return_, 1)) (hq : Q none T.heap locs) (hc : cells ≤ K) (hn : slots ≤ N) : Go p e below (Fin2 s below Q K N) (T.setTop (mkF m pc Ls [])) := by
  obtain ⟨fs, hr, hrun, hended, hW⟩ := X.leaveW hS hk (v := none) (fun _ => rfl) hlk
  exact ⟨_, _, X.returnOut hx hret hd hr, hrun, hended, _, _, rfl, hq, wmono hW hc hn⟩
end GoRetW
theorem old_z0 {Z : State} {n0 : Nat} {h : Heap} (O : Old Z n0 h) : n0 ≤ h.size := O.1 ▸ O.2.1
theorem eq_long {args : Array Value} {s : State} {t : Term} {z : Int64} (h : (Jvm.Cond.eq t (.long z)).value args s none s [] = some true) : t.eval args s none [] s = some (.long z) := by
  simp only [Cond.value, Term.eval] at h
  cases e : t.eval args s none [] s with
  | none => simp [e] at h
  | some v => cases v <;> simp_all
theorem eq_int {args : Array Value} {s : State} {t : Term} {z : Int32} (h : (Jvm.Cond.eq t (.int z)).value args s none s [] = some true) : t.eval args s none [] s = some (.int z) := by
  simp only [Cond.value, Term.eval] at h
  cases e : t.eval args s none [] s with
  | none => simp [e] at h
  | some v => cases v <;> simp_all
def Wd (Z : State) (a_PENDING : Addr) (a_COMPLETED : Addr) (a_QUEUED : Addr) (a_EXECUTING : Addr) (a_HELD : Addr) (a_ERROR : Addr) (a_SUSPENDED : Addr) (a_ABORTED : Addr) (a_ARCHIVED : Addr) (a_UNKNOWN : Addr) : Prop := (Sta Z Z.heap "com/example/exposure/exposure/ExecutionPhase" "PENDING" "Lcom/example/exposure/exposure/ExecutionPhase;" (.ref a_PENDING)) ∧ (Exa Z Z.heap a_PENDING "com/example/exposure/exposure/ExecutionPhase") ∧ (Sta Z Z.heap "com/example/exposure/exposure/ExecutionPhase" "COMPLETED" "Lcom/example/exposure/exposure/ExecutionPhase;" (.ref a_COMPLETED)) ∧ (Exa Z Z.heap a_COMPLETED "com/example/exposure/exposure/ExecutionPhase") ∧ (Sta Z Z.heap "com/example/exposure/exposure/ExecutionPhase" "QUEUED" "Lcom/example/exposure/exposure/ExecutionPhase;" (.ref a_QUEUED)) ∧ (Exa Z Z.heap a_QUEUED "com/example/exposure/exposure/ExecutionPhase") ∧ (Sta Z Z.heap "com/example/exposure/exposure/ExecutionPhase" "EXECUTING" "Lcom/example/exposure/exposure/ExecutionPhase;" (.ref a_EXECUTING)) ∧ (Exa Z Z.heap a_EXECUTING "com/example/exposure/exposure/ExecutionPhase") ∧ (Sta Z Z.heap "com/example/exposure/exposure/ExecutionPhase" "HELD" "Lcom/example/exposure/exposure/ExecutionPhase;" (.ref a_HELD)) ∧ (Exa Z Z.heap a_HELD "com/example/exposure/exposure/ExecutionPhase") ∧ (Sta Z Z.heap "com/example/exposure/exposure/ExecutionPhase" "ERROR" "Lcom/example/exposure/exposure/ExecutionPhase;" (.ref a_ERROR)) ∧ (Exa Z Z.heap a_ERROR "com/example/exposure/exposure/ExecutionPhase") ∧ (Sta Z Z.heap "com/example/exposure/exposure/ExecutionPhase" "SUSPENDED" "Lcom/example/exposure/exposure/ExecutionPhase;" (.ref a_SUSPENDED)) ∧ (Exa Z Z.heap a_SUSPENDED "com/example/exposure/exposure/ExecutionPhase") ∧ (Sta Z Z.heap "com/example/exposure/exposure/ExecutionPhase" "ABORTED" "Lcom/example/exposure/exposure/ExecutionPhase;" (.ref a_ABORTED)) ∧ (Exa Z Z.heap a_ABORTED "com/example/exposure/exposure/ExecutionPhase") ∧ (Sta Z Z.heap "com/example/exposure/exposure/ExecutionPhase" "ARCHIVED" "Lcom/example/exposure/exposure/ExecutionPhase;" (.ref a_ARCHIVED)) ∧ (Exa Z Z.heap a_ARCHIVED "com/example/exposure/exposure/ExecutionPhase") ∧ (Sta Z Z.heap "com/example/exposure/exposure/ExecutionPhase" "UNKNOWN" "Lcom/example/exposure/exposure/ExecutionPhase;" (.ref a_UNKNOWN)) ∧ (Exa Z Z.heap a_UNKNOWN "com/example/exposure/exposure/ExecutionPhase") ∧ (Fld Z Z.heap a_PENDING "java/lang/Enum" "ordinal" "I" (.int (0 : Int32))) ∧ (Fld Z Z.heap a_COMPLETED "java/lang/Enum" "ordinal" "I" (.int (3 : Int32))) ∧ (Fld Z Z.heap a_QUEUED "java/lang/Enum" "ordinal" "I" (.int (1 : Int32))) ∧ (Fld Z Z.heap a_EXECUTING "java/lang/Enum" "ordinal" "I" (.int (2 : Int32))) ∧ (Fld Z Z.heap a_HELD "java/lang/Enum" "ordinal" "I" (.int (6 : Int32))) ∧ (Fld Z Z.heap a_ERROR "java/lang/Enum" "ordinal" "I" (.int (4 : Int32))) ∧ (Fld Z Z.heap a_SUSPENDED "java/lang/Enum" "ordinal" "I" (.int (7 : Int32))) ∧ (Fld Z Z.heap a_ABORTED "java/lang/Enum" "ordinal" "I" (.int (8 : Int32))) ∧ (Fld Z Z.heap a_ARCHIVED "java/lang/Enum" "ordinal" "I" (.int (9 : Int32))) ∧ (Fld Z Z.heap a_UNKNOWN "java/lang/Enum" "ordinal" "I" (.int (5 : Int32)))
theorem i32_is {k : Int32} (z : Int32) (h : k.toInt = z.toInt) : k = z := Int32.toInt_inj.mp h
theorem rem_bd (x m : Int32) (hm : 0 < m.toInt) : 0 ≤ ((x &&& (2147483647 : Int32)) % m).toInt ∧ ((x &&& (2147483647 : Int32)) % m).toInt < m.toInt := by
  have e1 : (x &&& (2147483647 : Int32)).toInt = x.toInt % 2 ^ 31 := Jvm.Kit.i32_mask x 2147483647 (k := 31) (by decide) (by decide)
  have h0 : 0 ≤ (x &&& (2147483647 : Int32)).toInt := by rw [e1]; exact Int.emod_nonneg _ (by decide)
  rw [Jvm.Kit.i32_rem_nonneg h0]
  exact ⟨Int.emod_nonneg _ (by omega), Int.emod_lt_of_pos _ hm⟩
theorem cs10 {k : Int32} (h : 0 ≤ k.toInt ∧ k.toInt < 10) : k = (0 : Int32) ∨ k = (1 : Int32) ∨ k = (2 : Int32) ∨ k = (3 : Int32) ∨ k = (4 : Int32) ∨ k = (5 : Int32) ∨ k = (6 : Int32) ∨ k = (7 : Int32) ∨ k = (8 : Int32) ∨ k = (9 : Int32) := by
  have q : k.toInt = 0 ∨ k.toInt = 1 ∨ k.toInt = 2 ∨ k.toInt = 3 ∨ k.toInt = 4 ∨ k.toInt = 5 ∨ k.toInt = 6 ∨ k.toInt = 7 ∨ k.toInt = 8 ∨ k.toInt = 9 := by omega
  rcases q with q | q | q | q | q | q | q | q | q | q
  · exact Or.inl (i32_is 0 q)
  · exact Or.inr (Or.inl (i32_is 1 q))
  · exact Or.inr (Or.inr (Or.inl (i32_is 2 q)))
  · exact Or.inr (Or.inr (Or.inr (Or.inl (i32_is 3 q))))
  · exact Or.inr (Or.inr (Or.inr (Or.inr (Or.inl (i32_is 4 q)))))
  · exact Or.inr (Or.inr (Or.inr (Or.inr (Or.inr (Or.inl (i32_is 5 q))))))
  · exact Or.inr (Or.inr (Or.inr (Or.inr (Or.inr (Or.inr (Or.inl (i32_is 6 q)))))))
  · exact Or.inr (Or.inr (Or.inr (Or.inr (Or.inr (Or.inr (Or.inr (Or.inl (i32_is 7 q))))))))
  · exact Or.inr (Or.inr (Or.inr (Or.inr (Or.inr (Or.inr (Or.inr (Or.inr (Or.inl (i32_is 8 q)))))))))
  · exact Or.inr (Or.inr (Or.inr (Or.inr (Or.inr (Or.inr (Or.inr (Or.inr (Or.inr ((i32_is 9 q))))))))))
theorem d1_0 : decode method_2_code 0 = .ok (.iload_n 0, 1) := by decide +kernel
theorem d1_1 : decode method_2_code 1 = .ok (.ifCond .ne 7, 3) := by decide +kernel
theorem d1_4 : decode method_2_code 4 = .ok (.getstatic 7, 3) := by decide +kernel
theorem d1_7 : decode method_2_code 7 = .ok (.areturn, 1) := by decide +kernel
theorem d1_8 : decode method_2_code 8 = .ok (.iload_n 0, 1) := by decide +kernel
theorem d1_9 : decode method_2_code 9 = .ok (.iconst 1, 1) := by decide +kernel
theorem d1_10 : decode method_2_code 10 = .ok (.if_icmp .ne 7, 3) := by decide +kernel
theorem d1_13 : decode method_2_code 13 = .ok (.getstatic 13, 3) := by decide +kernel
theorem d1_16 : decode method_2_code 16 = .ok (.areturn, 1) := by decide +kernel
theorem d1_17 : decode method_2_code 17 = .ok (.iload_n 0, 1) := by decide +kernel
theorem d1_18 : decode method_2_code 18 = .ok (.iconst 2, 1) := by decide +kernel
theorem d1_19 : decode method_2_code 19 = .ok (.if_icmp .ne 7, 3) := by decide +kernel
theorem d1_22 : decode method_2_code 22 = .ok (.getstatic 16, 3) := by decide +kernel
theorem d1_25 : decode method_2_code 25 = .ok (.areturn, 1) := by decide +kernel
theorem d1_26 : decode method_2_code 26 = .ok (.iload_n 0, 1) := by decide +kernel
theorem d1_27 : decode method_2_code 27 = .ok (.iconst 3, 1) := by decide +kernel
theorem d1_28 : decode method_2_code 28 = .ok (.if_icmp .ne 7, 3) := by decide +kernel
theorem d1_31 : decode method_2_code 31 = .ok (.getstatic 19, 3) := by decide +kernel
theorem d1_34 : decode method_2_code 34 = .ok (.areturn, 1) := by decide +kernel
theorem d1_35 : decode method_2_code 35 = .ok (.iload_n 0, 1) := by decide +kernel
theorem d1_36 : decode method_2_code 36 = .ok (.iconst 4, 1) := by decide +kernel
theorem d1_37 : decode method_2_code 37 = .ok (.if_icmp .ne 7, 3) := by decide +kernel
theorem d1_40 : decode method_2_code 40 = .ok (.getstatic 22, 3) := by decide +kernel
theorem d1_43 : decode method_2_code 43 = .ok (.areturn, 1) := by decide +kernel
theorem d1_44 : decode method_2_code 44 = .ok (.iload_n 0, 1) := by decide +kernel
theorem d1_45 : decode method_2_code 45 = .ok (.iconst 5, 1) := by decide +kernel
theorem d1_46 : decode method_2_code 46 = .ok (.if_icmp .ne 7, 3) := by decide +kernel
theorem d1_49 : decode method_2_code 49 = .ok (.getstatic 25, 3) := by decide +kernel
theorem d1_52 : decode method_2_code 52 = .ok (.areturn, 1) := by decide +kernel
theorem d1_53 : decode method_2_code 53 = .ok (.iload_n 0, 1) := by decide +kernel
theorem d1_54 : decode method_2_code 54 = .ok (.bipush 6, 2) := by decide +kernel
theorem d1_56 : decode method_2_code 56 = .ok (.if_icmp .ne 7, 3) := by decide +kernel
theorem d1_59 : decode method_2_code 59 = .ok (.getstatic 28, 3) := by decide +kernel
theorem d1_62 : decode method_2_code 62 = .ok (.areturn, 1) := by decide +kernel
theorem d1_63 : decode method_2_code 63 = .ok (.iload_n 0, 1) := by decide +kernel
theorem d1_64 : decode method_2_code 64 = .ok (.bipush 7, 2) := by decide +kernel
theorem d1_66 : decode method_2_code 66 = .ok (.if_icmp .ne 7, 3) := by decide +kernel
theorem d1_69 : decode method_2_code 69 = .ok (.getstatic 31, 3) := by decide +kernel
theorem d1_72 : decode method_2_code 72 = .ok (.areturn, 1) := by decide +kernel
theorem d1_73 : decode method_2_code 73 = .ok (.iload_n 0, 1) := by decide +kernel
theorem d1_74 : decode method_2_code 74 = .ok (.bipush 8, 2) := by decide +kernel
theorem d1_76 : decode method_2_code 76 = .ok (.if_icmp .ne 7, 3) := by decide +kernel
theorem d1_79 : decode method_2_code 79 = .ok (.getstatic 34, 3) := by decide +kernel
theorem d1_82 : decode method_2_code 82 = .ok (.areturn, 1) := by decide +kernel
theorem d1_83 : decode method_2_code 83 = .ok (.getstatic 37, 3) := by decide +kernel
theorem d1_86 : decode method_2_code 86 = .ok (.areturn, 1) := by decide +kernel
theorem pn_0 : plainName "com/example/exposure/exposure/ExecutionPhaseIsFinalPinLaw" = true := by first | (simp [plainName, overriddenIn]; done) | decide +kernel
theorem ef_rm1 (m : MethodId) (x0 : Int32)  : entryFrame m #[(.int x0)] 1 = mkF m 0 #[.val (.int x0)] [] := by first | (simp [entryFrame, mkF, argsToLocals, Value.category]; done) | rfl
def Q_rm1 (Z : State) (a_PENDING : Addr) (a_COMPLETED : Addr) (a_QUEUED : Addr) (a_EXECUTING : Addr) (a_HELD : Addr) (a_ERROR : Addr) (a_SUSPENDED : Addr) (a_ABORTED : Addr) (a_ARCHIVED : Addr) (a_UNKNOWN : Addr) (k : Int32) (res : Addr) (h0 : Heap) (n0 : Nat) (v : Option Value) (h : Heap) (L : List Loc) : Prop := v = some (.ref res) ∧ Fr n0 L ∧ h = h0
set_option maxRecDepth 65536 in
set_option maxHeartbeats 40000000 in
theorem rm1 (l : Launch) (Z : State) (a0 : Array Value) (hw : ∀ d ∈ tables_1, d.before a0 Z = true) (ws : List Jvm.Cond) (a_PENDING : Addr) (a_COMPLETED : Addr) (a_QUEUED : Addr) (a_EXECUTING : Addr) (a_HELD : Addr) (a_ERROR : Addr) (a_SUSPENDED : Addr) (a_ABORTED : Addr) (a_ARCHIVED : Addr) (a_UNKNOWN : Addr) (HW : Wd Z a_PENDING a_COMPLETED a_QUEUED a_EXECUTING a_HELD a_ERROR a_SUSPENDED a_ABORTED a_ARCHIVED a_UNKNOWN) (k : Int32) (res : Addr) (h0 : Heap) (n0 : Nat) (Ol : Old Z n0 h0)  (hres : (if k = (0 : Int32) then a_PENDING else if k = (1 : Int32) then a_QUEUED else if k = (2 : Int32) then a_EXECUTING else if k = (3 : Int32) then a_COMPLETED else if k = (4 : Int32) then a_ERROR else if k = (5 : Int32) then a_UNKNOWN else if k = (6 : Int32) then a_HELD else if k = (7 : Int32) then a_SUSPENDED else if k = (8 : Int32) then a_ABORTED else a_ARCHIVED) = res) :
    MetFree l (⟨"com/example/exposure/exposure/ExecutionPhaseIsFinalPinLaw", "pick", "(I)Lcom/example/exposure/exposure/ExecutionPhase;"⟩ : MethodName) (head1 (Jvm.Cond.code (⟨"com/example/exposure/exposure/ExecutionPhaseIsFinalPinLaw", "pick", "(I)Lcom/example/exposure/exposure/ExecutionPhase;"⟩ : MethodName) method_2_code 1 (some (.object "com/example/exposure/exposure/ExecutionPhase")) :: ws) ({ frames := 0, cells := 0, slots := 0, locals := 0 } : Room)) (fun a_ U_ => a_ = #[(.int k)] ∧ Z.Warmed39 U_.vm ∧ U_.heap = h0) (fun _ _ _ _ _ => True) (fun _ U_ o_ V_ => ∃ v_ L_, o_ = .returned v_ ∧ Q_rm1 Z a_PENDING a_COMPLETED a_QUEUED a_EXECUTING a_HELD a_ERROR a_SUSPENDED a_ABORTED a_ARCHIVED a_UNKNOWN k res h0 n0 v_ V_.heap L_ ∧ FrameEnd U_ o_ V_ L_ ({ frames := 0, cells := 0, slots := 0, locals := 0 } : Room).cells ({ frames := 0, cells := 0, slots := 0, locals := 0 } : Room).slots) := by
  refine MetFree.of_bodySF (plainFor_of_name pn_0) hisR ?_
  intro p e s m args below meth c s₁ Bd hml0 hP hK
  obtain ⟨rfl, hZ, hh⟩ := hP
  have hx := Bd.exec
  have hby := Bd.bytes
  have hml : c.maxLocals = 1 := hml0
  have hown : s.vm.findClass "com/example/exposure/exposure/ExecutionPhaseIsFinalPinLaw" = some m.cls := findClass_of_methodNamed Bd.named
  have hnm := (name_of_methodNamed Bd.named Bd.method).1
  have X0 : Stand p l e ({ frames := 0, cells := 0, slots := 0, locals := 0 } : Room) s m #[(.int k)] below meth c s₁ [] 0 0 := Stand.of_body Bd
  have e0 : s₁.heap = h0 := by rw [← hh, Bd.state]; rfl
  have N0 := Fr.nil n0
  have kp0 := Keep.refl h0 []
  show Go p e below (Fin1 s below (Q_rm1 Z a_PENDING a_COMPLETED a_QUEUED a_EXECUTING a_HELD a_ERROR a_SUSPENDED a_ABORTED a_ARCHIVED a_UNKNOWN k res h0 n0) ({ frames := 0, cells := 0, slots := 0, locals := 0 } : Room).cells ({ frames := 0, cells := 0, slots := 0, locals := 0 } : Room).slots) _
  refine Go.step (fun t_ k_ => castTop (ef_rm1 m k) k_) ?_
  obtain ⟨S_PENDING, E_PENDING, S_COMPLETED, E_COMPLETED, S_QUEUED, E_QUEUED, S_EXECUTING, E_EXECUTING, S_HELD, E_HELD, S_ERROR, E_ERROR, S_SUSPENDED, E_SUSPENDED, S_ABORTED, E_ABORTED, S_ARCHIVED, E_ARCHIVED, S_UNKNOWN, E_UNKNOWN, F_PENDING_ordinal, F_COMPLETED_ordinal, F_QUEUED_ordinal, F_EXECUTING_ordinal, F_HELD_ordinal, F_ERROR_ordinal, F_SUSPENDED_ordinal, F_ABORTED_ordinal, F_ARCHIVED_ordinal, F_UNKNOWN_ordinal⟩ := id HW
  show Go p e below _ (s₁.setTop (mkF m 0 #[.val (.int k)] []))
  refine Go.step (fun t_ k_ => XS.iloadN X0.here hx rfl (hb hby d1_0) rfl k_) ?_
  show Go p e below _ (s₁.setTop (mkF m 1 #[.val (.int k)] [(.int k)]))
  by_cases hc1 : k = (0 : Int32)
  case pos =>
    refine Go.step (fun t_ k_ => XS.ifNo X0.here hx rfl (hb hby d1_1) rfl ((if0 _ _).trans (teq hc1).2) k_) ?_
    show Go p e below _ (s₁.setTop (mkF m 4 #[.val (.int k)] []))
    obtain ⟨T1, X1, e1, st1⟩ := getS2 X0 hx hZ hown (host := "") (Or.inl (hw _ (List.mem_of_getElem? (i := 5) rfl))) Via.refl e0 (S_PENDING.ext Ol.2) (g := (mkF m 4 #[.val (.int k)] [])) rfl (hb hby d1_4)
    refine Go.step st1 ?_
    show Go p e below _ (T1.setTop (mkF m 7 #[.val (.int k)] [(.ref a_PENDING)]))
    refine Go.retR X1 hx Bd.returns rfl rfl Bd.notSynchronized (hb hby d1_7) (by rw [e1]; exact ⟨by first | (rw [← hres]; done) | (rw [← hres]; simp [if_pos hc1]; done) | (rw [← hres]; simp [hc1]; done) | (rw [← hres]; simp_all; done), N0, rfl⟩) (by decide) (by decide)
  case neg =>
    refine Go.step (fun t_ k_ => XS.ifYes X0.here hx rfl (pc0 := 1) (pc' := 8) rfl (hb hby d1_1) rfl ((if0 _ _).trans (feq hc1).2) (by decide) (by decide) k_) ?_
    show Go p e below _ (s₁.setTop (mkF m 8 #[.val (.int k)] []))
    refine Go.step (fun t_ k_ => XS.iloadN X0.here hx rfl (hb hby d1_8) rfl k_) ?_
    show Go p e below _ (s₁.setTop (mkF m 9 #[.val (.int k)] [(.int k)]))
    refine Go.step (fun t_ k_ => XS.iconst X0.here hx rfl (hb hby d1_9) k_) ?_
    show Go p e below _ (s₁.setTop (mkF m 10 #[.val (.int k)] [(.int (1 : Int32)), (.int k)]))
    by_cases hc10 : k = (1 : Int32)
    case pos =>
      refine Go.step (fun t_ k_ => XS.icmpNo X0.here hx rfl (hb hby d1_10) rfl (teq hc10).2 k_) ?_
      show Go p e below _ (s₁.setTop (mkF m 13 #[.val (.int k)] []))
      obtain ⟨T2, X2, e2, st2⟩ := getS2 X0 hx hZ hown (host := "") (Or.inl (hw _ (List.mem_of_getElem? (i := 41) rfl))) Via.refl e0 (S_QUEUED.ext Ol.2) (g := (mkF m 13 #[.val (.int k)] [])) rfl (hb hby d1_13)
      refine Go.step st2 ?_
      show Go p e below _ (T2.setTop (mkF m 16 #[.val (.int k)] [(.ref a_QUEUED)]))
      refine Go.retR X2 hx Bd.returns rfl rfl Bd.notSynchronized (hb hby d1_16) (by rw [e2]; exact ⟨by first | (rw [← hres]; done) | (rw [← hres]; simp [if_neg hc1, if_pos hc10]; done) | (rw [← hres]; simp [hc1, hc10]; done) | (rw [← hres]; simp_all; done), N0, rfl⟩) (by decide) (by decide)
    case neg =>
      refine Go.step (fun t_ k_ => XS.icmpYes X0.here hx rfl (pc0 := 10) (pc' := 17) rfl (hb hby d1_10) rfl (feq hc10).2 (by decide) (by decide) k_) ?_
      show Go p e below _ (s₁.setTop (mkF m 17 #[.val (.int k)] []))
      refine Go.step (fun t_ k_ => XS.iloadN X0.here hx rfl (hb hby d1_17) rfl k_) ?_
      show Go p e below _ (s₁.setTop (mkF m 18 #[.val (.int k)] [(.int k)]))
      refine Go.step (fun t_ k_ => XS.iconst X0.here hx rfl (hb hby d1_18) k_) ?_
      show Go p e below _ (s₁.setTop (mkF m 19 #[.val (.int k)] [(.int (2 : Int32)), (.int k)]))
      by_cases hc19 : k = (2 : Int32)
      case pos =>
        refine Go.step (fun t_ k_ => XS.icmpNo X0.here hx rfl (hb hby d1_19) rfl (teq hc19).2 k_) ?_
        show Go p e below _ (s₁.setTop (mkF m 22 #[.val (.int k)] []))
        obtain ⟨T3, X3, e3, st3⟩ := getS2 X0 hx hZ hown (host := "") (Or.inl (hw _ (List.mem_of_getElem? (i := 46) rfl))) Via.refl e0 (S_EXECUTING.ext Ol.2) (g := (mkF m 22 #[.val (.int k)] [])) rfl (hb hby d1_22)
        refine Go.step st3 ?_
        show Go p e below _ (T3.setTop (mkF m 25 #[.val (.int k)] [(.ref a_EXECUTING)]))
        refine Go.retR X3 hx Bd.returns rfl rfl Bd.notSynchronized (hb hby d1_25) (by rw [e3]; exact ⟨by first | (rw [← hres]; done) | (rw [← hres]; simp [if_neg hc1, if_neg hc10, if_pos hc19]; done) | (rw [← hres]; simp [hc1, hc10, hc19]; done) | (rw [← hres]; simp_all; done), N0, rfl⟩) (by decide) (by decide)
      case neg =>
        refine Go.step (fun t_ k_ => XS.icmpYes X0.here hx rfl (pc0 := 19) (pc' := 26) rfl (hb hby d1_19) rfl (feq hc19).2 (by decide) (by decide) k_) ?_
        show Go p e below _ (s₁.setTop (mkF m 26 #[.val (.int k)] []))
        refine Go.step (fun t_ k_ => XS.iloadN X0.here hx rfl (hb hby d1_26) rfl k_) ?_
        show Go p e below _ (s₁.setTop (mkF m 27 #[.val (.int k)] [(.int k)]))
        refine Go.step (fun t_ k_ => XS.iconst X0.here hx rfl (hb hby d1_27) k_) ?_
        show Go p e below _ (s₁.setTop (mkF m 28 #[.val (.int k)] [(.int (3 : Int32)), (.int k)]))
        by_cases hc28 : k = (3 : Int32)
        case pos =>
          refine Go.step (fun t_ k_ => XS.icmpNo X0.here hx rfl (hb hby d1_28) rfl (teq hc28).2 k_) ?_
          show Go p e below _ (s₁.setTop (mkF m 31 #[.val (.int k)] []))
          obtain ⟨T4, X4, e4, st4⟩ := getS2 X0 hx hZ hown (host := "") (Or.inl (hw _ (List.mem_of_getElem? (i := 22) rfl))) Via.refl e0 (S_COMPLETED.ext Ol.2) (g := (mkF m 31 #[.val (.int k)] [])) rfl (hb hby d1_31)
          refine Go.step st4 ?_
          show Go p e below _ (T4.setTop (mkF m 34 #[.val (.int k)] [(.ref a_COMPLETED)]))
          refine Go.retR X4 hx Bd.returns rfl rfl Bd.notSynchronized (hb hby d1_34) (by rw [e4]; exact ⟨by first | (rw [← hres]; done) | (rw [← hres]; simp [if_neg hc1, if_neg hc10, if_neg hc19, if_pos hc28]; done) | (rw [← hres]; simp [hc1, hc10, hc19, hc28]; done) | (rw [← hres]; simp_all; done), N0, rfl⟩) (by decide) (by decide)
        case neg =>
          refine Go.step (fun t_ k_ => XS.icmpYes X0.here hx rfl (pc0 := 28) (pc' := 35) rfl (hb hby d1_28) rfl (feq hc28).2 (by decide) (by decide) k_) ?_
          show Go p e below _ (s₁.setTop (mkF m 35 #[.val (.int k)] []))
          refine Go.step (fun t_ k_ => XS.iloadN X0.here hx rfl (hb hby d1_35) rfl k_) ?_
          show Go p e below _ (s₁.setTop (mkF m 36 #[.val (.int k)] [(.int k)]))
          refine Go.step (fun t_ k_ => XS.iconst X0.here hx rfl (hb hby d1_36) k_) ?_
          show Go p e below _ (s₁.setTop (mkF m 37 #[.val (.int k)] [(.int (4 : Int32)), (.int k)]))
          by_cases hc37 : k = (4 : Int32)
          case pos =>
            refine Go.step (fun t_ k_ => XS.icmpNo X0.here hx rfl (hb hby d1_37) rfl (teq hc37).2 k_) ?_
            show Go p e below _ (s₁.setTop (mkF m 40 #[.val (.int k)] []))
            obtain ⟨T5, X5, e5, st5⟩ := getS2 X0 hx hZ hown (host := "") (Or.inl (hw _ (List.mem_of_getElem? (i := 42) rfl))) Via.refl e0 (S_ERROR.ext Ol.2) (g := (mkF m 40 #[.val (.int k)] [])) rfl (hb hby d1_40)
            refine Go.step st5 ?_
            show Go p e below _ (T5.setTop (mkF m 43 #[.val (.int k)] [(.ref a_ERROR)]))
            refine Go.retR X5 hx Bd.returns rfl rfl Bd.notSynchronized (hb hby d1_43) (by rw [e5]; exact ⟨by first | (rw [← hres]; done) | (rw [← hres]; simp [if_neg hc1, if_neg hc10, if_neg hc19, if_neg hc28, if_pos hc37]; done) | (rw [← hres]; simp [hc1, hc10, hc19, hc28, hc37]; done) | (rw [← hres]; simp_all; done), N0, rfl⟩) (by decide) (by decide)
          case neg =>
            refine Go.step (fun t_ k_ => XS.icmpYes X0.here hx rfl (pc0 := 37) (pc' := 44) rfl (hb hby d1_37) rfl (feq hc37).2 (by decide) (by decide) k_) ?_
            show Go p e below _ (s₁.setTop (mkF m 44 #[.val (.int k)] []))
            refine Go.step (fun t_ k_ => XS.iloadN X0.here hx rfl (hb hby d1_44) rfl k_) ?_
            show Go p e below _ (s₁.setTop (mkF m 45 #[.val (.int k)] [(.int k)]))
            refine Go.step (fun t_ k_ => XS.iconst X0.here hx rfl (hb hby d1_45) k_) ?_
            show Go p e below _ (s₁.setTop (mkF m 46 #[.val (.int k)] [(.int (5 : Int32)), (.int k)]))
            by_cases hc46 : k = (5 : Int32)
            case pos =>
              refine Go.step (fun t_ k_ => XS.icmpNo X0.here hx rfl (hb hby d1_46) rfl (teq hc46).2 k_) ?_
              show Go p e below _ (s₁.setTop (mkF m 49 #[.val (.int k)] []))
              obtain ⟨T6, X6, e6, st6⟩ := getS2 X0 hx hZ hown (host := "") (Or.inl (hw _ (List.mem_of_getElem? (i := 51) rfl))) Via.refl e0 (S_UNKNOWN.ext Ol.2) (g := (mkF m 49 #[.val (.int k)] [])) rfl (hb hby d1_49)
              refine Go.step st6 ?_
              show Go p e below _ (T6.setTop (mkF m 52 #[.val (.int k)] [(.ref a_UNKNOWN)]))
              refine Go.retR X6 hx Bd.returns rfl rfl Bd.notSynchronized (hb hby d1_52) (by rw [e6]; exact ⟨by first | (rw [← hres]; done) | (rw [← hres]; simp [if_neg hc1, if_neg hc10, if_neg hc19, if_neg hc28, if_neg hc37, if_pos hc46]; done) | (rw [← hres]; simp [hc1, hc10, hc19, hc28, hc37, hc46]; done) | (rw [← hres]; simp_all; done), N0, rfl⟩) (by decide) (by decide)
            case neg =>
              refine Go.step (fun t_ k_ => XS.icmpYes X0.here hx rfl (pc0 := 46) (pc' := 53) rfl (hb hby d1_46) rfl (feq hc46).2 (by decide) (by decide) k_) ?_
              show Go p e below _ (s₁.setTop (mkF m 53 #[.val (.int k)] []))
              refine Go.step (fun t_ k_ => XS.iloadN X0.here hx rfl (hb hby d1_53) rfl k_) ?_
              show Go p e below _ (s₁.setTop (mkF m 54 #[.val (.int k)] [(.int k)]))
              refine Go.step (fun t_ k_ => XS.bipush X0.here hx rfl (hb hby d1_54) k_) ?_
              show Go p e below _ (s₁.setTop (mkF m 56 #[.val (.int k)] [(.int (6 : Int32)), (.int k)]))
              by_cases hc56 : k = (6 : Int32)
              case pos =>
                refine Go.step (fun t_ k_ => XS.icmpNo X0.here hx rfl (hb hby d1_56) rfl (teq hc56).2 k_) ?_
                show Go p e below _ (s₁.setTop (mkF m 59 #[.val (.int k)] []))
                obtain ⟨T7, X7, e7, st7⟩ := getS2 X0 hx hZ hown (host := "") (Or.inl (hw _ (List.mem_of_getElem? (i := 53) rfl))) Via.refl e0 (S_HELD.ext Ol.2) (g := (mkF m 59 #[.val (.int k)] [])) rfl (hb hby d1_59)
                refine Go.step st7 ?_
                show Go p e below _ (T7.setTop (mkF m 62 #[.val (.int k)] [(.ref a_HELD)]))
                refine Go.retR X7 hx Bd.returns rfl rfl Bd.notSynchronized (hb hby d1_62) (by rw [e7]; exact ⟨by first | (rw [← hres]; done) | (rw [← hres]; simp [if_neg hc1, if_neg hc10, if_neg hc19, if_neg hc28, if_neg hc37, if_neg hc46, if_pos hc56]; done) | (rw [← hres]; simp [hc1, hc10, hc19, hc28, hc37, hc46, hc56]; done) | (rw [← hres]; simp_all; done), N0, rfl⟩) (by decide) (by decide)
              case neg =>
                refine Go.step (fun t_ k_ => XS.icmpYes X0.here hx rfl (pc0 := 56) (pc' := 63) rfl (hb hby d1_56) rfl (feq hc56).2 (by decide) (by decide) k_) ?_
                show Go p e below _ (s₁.setTop (mkF m 63 #[.val (.int k)] []))
                refine Go.step (fun t_ k_ => XS.iloadN X0.here hx rfl (hb hby d1_63) rfl k_) ?_
                show Go p e below _ (s₁.setTop (mkF m 64 #[.val (.int k)] [(.int k)]))
                refine Go.step (fun t_ k_ => XS.bipush X0.here hx rfl (hb hby d1_64) k_) ?_
                show Go p e below _ (s₁.setTop (mkF m 66 #[.val (.int k)] [(.int (7 : Int32)), (.int k)]))
                by_cases hc66 : k = (7 : Int32)
                case pos =>
                  refine Go.step (fun t_ k_ => XS.icmpNo X0.here hx rfl (hb hby d1_66) rfl (teq hc66).2 k_) ?_
                  show Go p e below _ (s₁.setTop (mkF m 69 #[.val (.int k)] []))
                  obtain ⟨T8, X8, e8, st8⟩ := getS2 X0 hx hZ hown (host := "") (Or.inl (hw _ (List.mem_of_getElem? (i := 44) rfl))) Via.refl e0 (S_SUSPENDED.ext Ol.2) (g := (mkF m 69 #[.val (.int k)] [])) rfl (hb hby d1_69)
                  refine Go.step st8 ?_
                  show Go p e below _ (T8.setTop (mkF m 72 #[.val (.int k)] [(.ref a_SUSPENDED)]))
                  refine Go.retR X8 hx Bd.returns rfl rfl Bd.notSynchronized (hb hby d1_72) (by rw [e8]; exact ⟨by first | (rw [← hres]; done) | (rw [← hres]; simp [if_neg hc1, if_neg hc10, if_neg hc19, if_neg hc28, if_neg hc37, if_neg hc46, if_neg hc56, if_pos hc66]; done) | (rw [← hres]; simp [hc1, hc10, hc19, hc28, hc37, hc46, hc56, hc66]; done) | (rw [← hres]; simp_all; done), N0, rfl⟩) (by decide) (by decide)
                case neg =>
                  refine Go.step (fun t_ k_ => XS.icmpYes X0.here hx rfl (pc0 := 66) (pc' := 73) rfl (hb hby d1_66) rfl (feq hc66).2 (by decide) (by decide) k_) ?_
                  show Go p e below _ (s₁.setTop (mkF m 73 #[.val (.int k)] []))
                  refine Go.step (fun t_ k_ => XS.iloadN X0.here hx rfl (hb hby d1_73) rfl k_) ?_
                  show Go p e below _ (s₁.setTop (mkF m 74 #[.val (.int k)] [(.int k)]))
                  refine Go.step (fun t_ k_ => XS.bipush X0.here hx rfl (hb hby d1_74) k_) ?_
                  show Go p e below _ (s₁.setTop (mkF m 76 #[.val (.int k)] [(.int (8 : Int32)), (.int k)]))
                  by_cases hc76 : k = (8 : Int32)
                  case pos =>
                    refine Go.step (fun t_ k_ => XS.icmpNo X0.here hx rfl (hb hby d1_76) rfl (teq hc76).2 k_) ?_
                    show Go p e below _ (s₁.setTop (mkF m 79 #[.val (.int k)] []))
                    obtain ⟨T9, X9, e9, st9⟩ := getS2 X0 hx hZ hown (host := "") (Or.inl (hw _ (List.mem_of_getElem? (i := 47) rfl))) Via.refl e0 (S_ABORTED.ext Ol.2) (g := (mkF m 79 #[.val (.int k)] [])) rfl (hb hby d1_79)
                    refine Go.step st9 ?_
                    show Go p e below _ (T9.setTop (mkF m 82 #[.val (.int k)] [(.ref a_ABORTED)]))
                    refine Go.retR X9 hx Bd.returns rfl rfl Bd.notSynchronized (hb hby d1_82) (by rw [e9]; exact ⟨by first | (rw [← hres]; done) | (rw [← hres]; simp [if_neg hc1, if_neg hc10, if_neg hc19, if_neg hc28, if_neg hc37, if_neg hc46, if_neg hc56, if_neg hc66, if_pos hc76]; done) | (rw [← hres]; simp [hc1, hc10, hc19, hc28, hc37, hc46, hc56, hc66, hc76]; done) | (rw [← hres]; simp_all; done), N0, rfl⟩) (by decide) (by decide)
                  case neg =>
                    refine Go.step (fun t_ k_ => XS.icmpYes X0.here hx rfl (pc0 := 76) (pc' := 83) rfl (hb hby d1_76) rfl (feq hc76).2 (by decide) (by decide) k_) ?_
                    show Go p e below _ (s₁.setTop (mkF m 83 #[.val (.int k)] []))
                    obtain ⟨T10, X10, e10, st10⟩ := getS2 X0 hx hZ hown (host := "") (Or.inl (hw _ (List.mem_of_getElem? (i := 49) rfl))) Via.refl e0 (S_ARCHIVED.ext Ol.2) (g := (mkF m 83 #[.val (.int k)] [])) rfl (hb hby d1_83)
                    refine Go.step st10 ?_
                    show Go p e below _ (T10.setTop (mkF m 86 #[.val (.int k)] [(.ref a_ARCHIVED)]))
                    refine Go.retR X10 hx Bd.returns rfl rfl Bd.notSynchronized (hb hby d1_86) (by rw [e10]; exact ⟨by first | (rw [← hres]; done) | (rw [← hres]; simp [if_neg hc1, if_neg hc10, if_neg hc19, if_neg hc28, if_neg hc37, if_neg hc46, if_neg hc56, if_neg hc66, if_neg hc76]; done) | (rw [← hres]; simp [hc1, hc10, hc19, hc28, hc37, hc46, hc56, hc66, hc76]; done) | (rw [← hres]; simp_all; done), N0, rfl⟩) (by decide) (by decide)
theorem d3_0 : decode jdk_37_method_2_code 0 = .ok (.aload_n 0, 1) := by decide +kernel
theorem d3_1 : decode jdk_37_method_2_code 1 = .ok (.getfield 7, 3) := by decide +kernel
theorem d3_4 : decode jdk_37_method_2_code 4 = .ok (.ireturn, 1) := by decide +kernel
theorem pn_1 : plainName "java/lang/Enum" = true := by first | (simp [plainName, overriddenIn]; done) | decide +kernel
theorem ef_rm3 (m : MethodId) (x0 : Addr)  : entryFrame m #[(.ref x0)] 1 = mkF m 0 #[.val (.ref x0)] [] := by first | (simp [entryFrame, mkF, argsToLocals, Value.category]; done) | rfl
def Q_rm3 (Z : State) (a_PENDING : Addr) (a_COMPLETED : Addr) (a_QUEUED : Addr) (a_EXECUTING : Addr) (a_HELD : Addr) (a_ERROR : Addr) (a_SUSPENDED : Addr) (a_ABORTED : Addr) (a_ARCHIVED : Addr) (a_UNKNOWN : Addr) (r : Addr) (res : Int32) (h0 : Heap) (n0 : Nat) (v : Option Value) (h : Heap) (L : List Loc) : Prop := v = some (.int res) ∧ Fr n0 L ∧ h = h0
set_option maxRecDepth 65536 in
set_option maxHeartbeats 40000000 in
theorem rm3 (l : Launch) (Z : State) (a0 : Array Value) (hw : ∀ d ∈ tables_1, d.before a0 Z = true) (ws : List Jvm.Cond) (a_PENDING : Addr) (a_COMPLETED : Addr) (a_QUEUED : Addr) (a_EXECUTING : Addr) (a_HELD : Addr) (a_ERROR : Addr) (a_SUSPENDED : Addr) (a_ABORTED : Addr) (a_ARCHIVED : Addr) (a_UNKNOWN : Addr) (HW : Wd Z a_PENDING a_COMPLETED a_QUEUED a_EXECUTING a_HELD a_ERROR a_SUSPENDED a_ABORTED a_ARCHIVED a_UNKNOWN) (r : Addr) (res : Int32) (h0 : Heap) (n0 : Nat) (Ol : Old Z n0 h0) (G_o : Fld Z Z.heap r "java/lang/Enum" "ordinal" "I" (.int res)) (hres : (res) = res) :
    MetFree l (⟨"java/lang/Enum", "ordinal", "()I"⟩ : MethodName) (head1 (Jvm.Cond.code (⟨"java/lang/Enum", "ordinal", "()I"⟩ : MethodName) jdk_37_method_2_code 1 (some .int) :: ws) ({ frames := 0, cells := 0, slots := 0, locals := 0 } : Room)) (fun a_ U_ => a_ = #[(.ref r)] ∧ Z.Warmed39 U_.vm ∧ U_.heap = h0) (fun _ _ _ _ _ => True) (fun _ U_ o_ V_ => ∃ v_ L_, o_ = .returned v_ ∧ Q_rm3 Z a_PENDING a_COMPLETED a_QUEUED a_EXECUTING a_HELD a_ERROR a_SUSPENDED a_ABORTED a_ARCHIVED a_UNKNOWN r res h0 n0 v_ V_.heap L_ ∧ FrameEnd U_ o_ V_ L_ ({ frames := 0, cells := 0, slots := 0, locals := 0 } : Room).cells ({ frames := 0, cells := 0, slots := 0, locals := 0 } : Room).slots) := by
  refine MetFree.of_bodySF (plainFor_of_name pn_1) hisR ?_
  intro p e s m args below meth c s₁ Bd hml0 hP hK
  obtain ⟨rfl, hZ, hh⟩ := hP
  have hx := Bd.exec
  have hby := Bd.bytes
  have hml : c.maxLocals = 1 := hml0
  have hown : s.vm.findClass "java/lang/Enum" = some m.cls := findClass_of_methodNamed Bd.named
  have hnm := (name_of_methodNamed Bd.named Bd.method).1
  have X0 : Stand p l e ({ frames := 0, cells := 0, slots := 0, locals := 0 } : Room) s m #[(.ref r)] below meth c s₁ [] 0 0 := Stand.of_body Bd
  have e0 : s₁.heap = h0 := by rw [← hh, Bd.state]; rfl
  have N0 := Fr.nil n0
  have kp0 := Keep.refl h0 []
  show Go p e below (Fin1 s below (Q_rm3 Z a_PENDING a_COMPLETED a_QUEUED a_EXECUTING a_HELD a_ERROR a_SUSPENDED a_ABORTED a_ARCHIVED a_UNKNOWN r res h0 n0) ({ frames := 0, cells := 0, slots := 0, locals := 0 } : Room).cells ({ frames := 0, cells := 0, slots := 0, locals := 0 } : Room).slots) _
  refine Go.step (fun t_ k_ => castTop (ef_rm3 m r) k_) ?_
  obtain ⟨S_PENDING, E_PENDING, S_COMPLETED, E_COMPLETED, S_QUEUED, E_QUEUED, S_EXECUTING, E_EXECUTING, S_HELD, E_HELD, S_ERROR, E_ERROR, S_SUSPENDED, E_SUSPENDED, S_ABORTED, E_ABORTED, S_ARCHIVED, E_ARCHIVED, S_UNKNOWN, E_UNKNOWN, F_PENDING_ordinal, F_COMPLETED_ordinal, F_QUEUED_ordinal, F_EXECUTING_ordinal, F_HELD_ordinal, F_ERROR_ordinal, F_SUSPENDED_ordinal, F_ABORTED_ordinal, F_ARCHIVED_ordinal, F_UNKNOWN_ordinal⟩ := id HW
  show Go p e below _ (s₁.setTop (mkF m 0 #[.val (.ref r)] []))
  refine Go.step (fun t_ k_ => XS.aloadN X0.here hx rfl (hb hby d3_0) rfl rfl k_) ?_
  show Go p e below _ (s₁.setTop (mkF m 1 #[.val (.ref r)] [(.ref r)]))
  obtain ⟨T1, X1, e1, st1⟩ := getF X0 hx hZ hown (host := "") (Or.inl (hw _ (List.mem_of_getElem? (i := 20) rfl))) Via.refl e0 (G_o.ext Ol.2) (g := (mkF m 1 #[.val (.ref r)] [(.ref r)])) rfl rfl (hb hby d3_1)
  refine Go.step st1 ?_
  show Go p e below _ (T1.setTop (mkF m 4 #[.val (.ref r)] [(.int res)]))
  refine Go.retI X1 hx Bd.returns Bd.notSynchronized (hb hby d3_4) (by rw [e1]; exact ⟨by first | (rw [← hres]; done) | (rw [← hres]; simp []; done) | (rw [← hres]; simp []; done) | (rw [← hres]; simp_all; done), N0, rfl⟩) (by decide) (by decide)
theorem d2_0 : decode prog_11_method_6_code 0 = .ok (.aload_n 0, 1) := by decide +kernel
theorem d2_1 : decode prog_11_method_6_code 1 = .ok (.invokevirtual 53, 3) := by decide +kernel
theorem pd_0 : parseMethodDescriptor "()I" = some ⟨[], some .int⟩ := by decide +kernel
theorem d2_4 : decode prog_11_method_6_code 4 = .ok (.tableswitch 56 0 9 #[70, 70, 70, 66, 66, 70, 70, 70, 66, 66], 56) := by decide +kernel
theorem d2_74 : decode prog_11_method_6_code 74 = .ok (.iconst 0, 1) := by decide +kernel
theorem d2_75 : decode prog_11_method_6_code 75 = .ok (.ireturn, 1) := by decide +kernel
theorem d2_70 : decode prog_11_method_6_code 70 = .ok (.iconst 1, 1) := by decide +kernel
theorem d2_71 : decode prog_11_method_6_code 71 = .ok (.goto 4, 3) := by decide +kernel
theorem pn_2 : plainName "com/example/exposure/exposure/ExecutionPhase" = true := by first | (simp [plainName, overriddenIn]; done) | decide +kernel
theorem ef_rm2 (m : MethodId) (x0 : Addr)  : entryFrame m #[(.ref x0)] 1 = mkF m 0 #[.val (.ref x0)] [] := by first | (simp [entryFrame, mkF, argsToLocals, Value.category]; done) | rfl
def Q_rm2 (Z : State) (a_PENDING : Addr) (a_COMPLETED : Addr) (a_QUEUED : Addr) (a_EXECUTING : Addr) (a_HELD : Addr) (a_ERROR : Addr) (a_SUSPENDED : Addr) (a_ABORTED : Addr) (a_ARCHIVED : Addr) (a_UNKNOWN : Addr) (r : Addr) (z : Int32) (res : Int32) (h0 : Heap) (n0 : Nat) (v : Option Value) (h : Heap) (L : List Loc) : Prop := v = some (.int res) ∧ Fr n0 L ∧ h = h0
set_option maxRecDepth 65536 in
set_option maxHeartbeats 40000000 in
theorem rm2 (l : Launch) (Z : State) (a0 : Array Value) (hw : ∀ d ∈ tables_1, d.before a0 Z = true) (ws : List Jvm.Cond) (a_PENDING : Addr) (a_COMPLETED : Addr) (a_QUEUED : Addr) (a_EXECUTING : Addr) (a_HELD : Addr) (a_ERROR : Addr) (a_SUSPENDED : Addr) (a_ABORTED : Addr) (a_ARCHIVED : Addr) (a_UNKNOWN : Addr) (HW : Wd Z a_PENDING a_COMPLETED a_QUEUED a_EXECUTING a_HELD a_ERROR a_SUSPENDED a_ABORTED a_ARCHIVED a_UNKNOWN) (r : Addr) (z : Int32) (res : Int32) (h0 : Heap) (n0 : Nat) (Ol : Old Z n0 h0) (G_o : Fld Z Z.heap r "java/lang/Enum" "ordinal" "I" (.int z)) (G_e : Exa Z Z.heap r "com/example/exposure/exposure/ExecutionPhase") (hz : 0 ≤ z.toInt ∧ z.toInt < 10) (hres : ((if z = (3 : Int32) then 1 else if z = (4 : Int32) then 1 else if z = (8 : Int32) then 1 else if z = (9 : Int32) then 1 else 0 : Int32)) = res) :
    MetFree l (⟨"com/example/exposure/exposure/ExecutionPhase", "isFinal", "()Z"⟩ : MethodName) (head1 (Jvm.Cond.code (⟨"com/example/exposure/exposure/ExecutionPhase", "isFinal", "()Z"⟩ : MethodName) prog_11_method_6_code 1 (some .boolean) :: ws) ({ frames := 1, cells := 0, slots := 0, locals := 12 } : Room)) (fun a_ U_ => a_ = #[(.ref r)] ∧ Z.Warmed39 U_.vm ∧ U_.heap = h0) (fun _ _ _ _ _ => True) (fun _ U_ o_ V_ => ∃ v_ L_, o_ = .returned v_ ∧ Q_rm2 Z a_PENDING a_COMPLETED a_QUEUED a_EXECUTING a_HELD a_ERROR a_SUSPENDED a_ABORTED a_ARCHIVED a_UNKNOWN r z res h0 n0 v_ V_.heap L_ ∧ FrameEnd U_ o_ V_ L_ ({ frames := 1, cells := 0, slots := 0, locals := 12 } : Room).cells ({ frames := 1, cells := 0, slots := 0, locals := 12 } : Room).slots) := by
  refine MetFree.of_bodySF (plainFor_of_name pn_2) hisR ?_
  intro p e s m args below meth c s₁ Bd hml0 hP hK
  obtain ⟨rfl, hZ, hh⟩ := hP
  have hx := Bd.exec
  have hby := Bd.bytes
  have hml : c.maxLocals = 1 := hml0
  have hown : s.vm.findClass "com/example/exposure/exposure/ExecutionPhase" = some m.cls := findClass_of_methodNamed Bd.named
  have hnm := (name_of_methodNamed Bd.named Bd.method).1
  have X0 : Stand p l e ({ frames := 1, cells := 0, slots := 0, locals := 12 } : Room) s m #[(.ref r)] below meth c s₁ [] 0 0 := Stand.of_body Bd
  have e0 : s₁.heap = h0 := by rw [← hh, Bd.state]; rfl
  have N0 := Fr.nil n0
  have kp0 := Keep.refl h0 []
  show Go p e below (Fin1 s below (Q_rm2 Z a_PENDING a_COMPLETED a_QUEUED a_EXECUTING a_HELD a_ERROR a_SUSPENDED a_ABORTED a_ARCHIVED a_UNKNOWN r z res h0 n0) ({ frames := 1, cells := 0, slots := 0, locals := 12 } : Room).cells ({ frames := 1, cells := 0, slots := 0, locals := 12 } : Room).slots) _
  refine Go.step (fun t_ k_ => castTop (ef_rm2 m r) k_) ?_
  obtain ⟨S_PENDING, E_PENDING, S_COMPLETED, E_COMPLETED, S_QUEUED, E_QUEUED, S_EXECUTING, E_EXECUTING, S_HELD, E_HELD, S_ERROR, E_ERROR, S_SUSPENDED, E_SUSPENDED, S_ABORTED, E_ABORTED, S_ARCHIVED, E_ARCHIVED, S_UNKNOWN, E_UNKNOWN, F_PENDING_ordinal, F_COMPLETED_ordinal, F_QUEUED_ordinal, F_EXECUTING_ordinal, F_HELD_ordinal, F_ERROR_ordinal, F_SUSPENDED_ordinal, F_ABORTED_ordinal, F_ARCHIVED_ordinal, F_UNKNOWN_ordinal⟩ := id HW
  show Go p e below _ (s₁.setTop (mkF m 0 #[.val (.ref r)] []))
  refine Go.step (fun t_ k_ => XS.aloadN X0.here hx rfl (hb hby d2_0) rfl rfl k_) ?_
  show Go p e below _ (s₁.setTop (mkF m 1 #[.val (.ref r)] [(.ref r)]))
  obtain ⟨cq1, kq1, q1a, q1b, q1c⟩ := isOf hZ e0 (G_e.ext Ol.2)
  obtain ⟨_, _, ⟨T1, L1, k1, n1⟩, -, X1, ⟨Lc1, hQ1, l1, y1, z1⟩, st1⟩ := X0.virtualBackUp hx (owner := "java/lang/Enum") (x := (⟨"com/example/exposure/exposure/ExecutionPhase", "ordinal", "()I"⟩ : MethodName)) (y := (⟨"java/lang/Enum", "ordinal", "()I"⟩ : MethodName)) hown (mvT hZ (hw _ (List.mem_of_getElem? (i := 13) rfl))) (mvT hZ (hw _ (List.mem_of_getElem? (i := 14) rfl))) (mvT hZ (hw _ (List.mem_of_getElem? (i := 15) rfl))) (by decide) (mvT hZ (hw _ (List.mem_of_getElem? (i := 17) rfl))) (mvT hZ (hw _ (List.mem_of_getElem? (i := 16) rfl))) (backOf (W := 0) (rm3 l Z a0 hw [] a_PENDING a_COMPLETED a_QUEUED a_EXECUTING a_HELD a_ERROR a_SUSPENDED a_ABORTED a_ARCHIVED a_UNKNOWN HW r z h0 n0 Ol G_o rfl) hZ (hw _ (List.mem_of_getElem? (i := 19) rfl)) (hw _ (List.mem_of_getElem? (i := 18) rfl)) (by decide) (by decide)) q1a q1c (g := (mkF m 1 #[.val (.ref r)] [(.ref r)])) rfl (by rw [hml]; rfl) (Steps.refl _) (argsL := []) (rest := []) (lenOf pd_0 rfl) rfl (by show 2 * 0 + _ ≤ _; exact Nat.le_of_eq rfl) (hb hby d2_1) (fun _ _ => ⟨rfl, e0, (by decide : 0 + 0 ≤ _), (by decide : 0 + 0 ≤ _)⟩)
  dsimp only [Pt.U, Pt.locs, Pt.cells, Pt.slots] at X1 l1 y1 z1 st1 hQ1
  subst l1 y1 z1
  obtain ⟨rfl, Nq1, e1⟩ := hQ1
  have N1 := Fr.app N0 Nq1
  refine Go.step (fun t_ k_ => st1.trans k_) ?_
  show Go p e below _ (T1.setTop (mkF m 4 #[.val (.ref r)] [(.int z)]))
  rcases cs10 hz with rfl | rfl | rfl | rfl | rfl | rfl | rfl | rfl | rfl | rfl
  next =>
    show Go p e below _ (T1.setTop (mkF m 4 #[.val (.ref r)] [(.int (0 : Int32))]))
    refine Go.step (fun t_ k_ => XS.tswIn X1.here hx rfl (pc0 := 4) (pc' := 74) (i := (0 : Int32)) (o := 70) rfl (hb hby d2_4) rfl (by decide) (by decide) (by decide) (by decide) k_) ?_
    show Go p e below _ (T1.setTop (mkF m 74 #[.val (.ref r)] []))
    refine Go.step (fun t_ k_ => XS.iconst X1.here hx rfl (hb hby d2_74) k_) ?_
    show Go p e below _ (T1.setTop (mkF m 75 #[.val (.ref r)] [(.int (0 : Int32))]))
    refine Go.retZ X1 hx (t := .boolean) Bd.returns (by simp) Bd.notSynchronized (hb hby d2_75) (by rw [e1]; exact ⟨by first | (rw [← hres]; done) | (rw [← hres]; simp [nar]; done) | (rw [← hres]; simp [nar]; done) | (rw [← hres]; simp_all; done), N1, rfl⟩) (by decide) (by decide)
  next =>
    show Go p e below _ (T1.setTop (mkF m 4 #[.val (.ref r)] [(.int (1 : Int32))]))
    refine Go.step (fun t_ k_ => XS.tswIn X1.here hx rfl (pc0 := 4) (pc' := 74) (i := (1 : Int32)) (o := 70) rfl (hb hby d2_4) rfl (by decide) (by decide) (by decide) (by decide) k_) ?_
    show Go p e below _ (T1.setTop (mkF m 74 #[.val (.ref r)] []))
    refine Go.step (fun t_ k_ => XS.iconst X1.here hx rfl (hb hby d2_74) k_) ?_
    show Go p e below _ (T1.setTop (mkF m 75 #[.val (.ref r)] [(.int (0 : Int32))]))
    refine Go.retZ X1 hx (t := .boolean) Bd.returns (by simp) Bd.notSynchronized (hb hby d2_75) (by rw [e1]; exact ⟨by first | (rw [← hres]; done) | (rw [← hres]; simp [nar]; done) | (rw [← hres]; simp [nar]; done) | (rw [← hres]; simp_all; done), N1, rfl⟩) (by decide) (by decide)
  next =>
    show Go p e below _ (T1.setTop (mkF m 4 #[.val (.ref r)] [(.int (2 : Int32))]))
    refine Go.step (fun t_ k_ => XS.tswIn X1.here hx rfl (pc0 := 4) (pc' := 74) (i := (2 : Int32)) (o := 70) rfl (hb hby d2_4) rfl (by decide) (by decide) (by decide) (by decide) k_) ?_
    show Go p e below _ (T1.setTop (mkF m 74 #[.val (.ref r)] []))
    refine Go.step (fun t_ k_ => XS.iconst X1.here hx rfl (hb hby d2_74) k_) ?_
    show Go p e below _ (T1.setTop (mkF m 75 #[.val (.ref r)] [(.int (0 : Int32))]))
    refine Go.retZ X1 hx (t := .boolean) Bd.returns (by simp) Bd.notSynchronized (hb hby d2_75) (by rw [e1]; exact ⟨by first | (rw [← hres]; done) | (rw [← hres]; simp [nar]; done) | (rw [← hres]; simp [nar]; done) | (rw [← hres]; simp_all; done), N1, rfl⟩) (by decide) (by decide)
  next =>
    show Go p e below _ (T1.setTop (mkF m 4 #[.val (.ref r)] [(.int (3 : Int32))]))
    refine Go.step (fun t_ k_ => XS.tswIn X1.here hx rfl (pc0 := 4) (pc' := 70) (i := (3 : Int32)) (o := 66) rfl (hb hby d2_4) rfl (by decide) (by decide) (by decide) (by decide) k_) ?_
    show Go p e below _ (T1.setTop (mkF m 70 #[.val (.ref r)] []))
    refine Go.step (fun t_ k_ => XS.iconst X1.here hx rfl (hb hby d2_70) k_) ?_
    show Go p e below _ (T1.setTop (mkF m 71 #[.val (.ref r)] [(.int (1 : Int32))]))
    refine Go.step (fun t_ k_ => XS.goto X1.here hx rfl (pc0 := 71) (pc' := 75) rfl (hb hby d2_71) (by decide) (by decide) k_) ?_
    show Go p e below _ (T1.setTop (mkF m 75 #[.val (.ref r)] [(.int (1 : Int32))]))
    refine Go.retZ X1 hx (t := .boolean) Bd.returns (by simp) Bd.notSynchronized (hb hby d2_75) (by rw [e1]; exact ⟨by first | (rw [← hres]; done) | (rw [← hres]; simp [nar]; done) | (rw [← hres]; simp [nar]; done) | (rw [← hres]; simp_all; done), N1, rfl⟩) (by decide) (by decide)
  next =>
    show Go p e below _ (T1.setTop (mkF m 4 #[.val (.ref r)] [(.int (4 : Int32))]))
    refine Go.step (fun t_ k_ => XS.tswIn X1.here hx rfl (pc0 := 4) (pc' := 70) (i := (4 : Int32)) (o := 66) rfl (hb hby d2_4) rfl (by decide) (by decide) (by decide) (by decide) k_) ?_
    show Go p e below _ (T1.setTop (mkF m 70 #[.val (.ref r)] []))
    refine Go.step (fun t_ k_ => XS.iconst X1.here hx rfl (hb hby d2_70) k_) ?_
    show Go p e below _ (T1.setTop (mkF m 71 #[.val (.ref r)] [(.int (1 : Int32))]))
    refine Go.step (fun t_ k_ => XS.goto X1.here hx rfl (pc0 := 71) (pc' := 75) rfl (hb hby d2_71) (by decide) (by decide) k_) ?_
    show Go p e below _ (T1.setTop (mkF m 75 #[.val (.ref r)] [(.int (1 : Int32))]))
    refine Go.retZ X1 hx (t := .boolean) Bd.returns (by simp) Bd.notSynchronized (hb hby d2_75) (by rw [e1]; exact ⟨by first | (rw [← hres]; done) | (rw [← hres]; simp [nar]; done) | (rw [← hres]; simp [nar]; done) | (rw [← hres]; simp_all; done), N1, rfl⟩) (by decide) (by decide)
  next =>
    show Go p e below _ (T1.setTop (mkF m 4 #[.val (.ref r)] [(.int (5 : Int32))]))
    refine Go.step (fun t_ k_ => XS.tswIn X1.here hx rfl (pc0 := 4) (pc' := 74) (i := (5 : Int32)) (o := 70) rfl (hb hby d2_4) rfl (by decide) (by decide) (by decide) (by decide) k_) ?_
    show Go p e below _ (T1.setTop (mkF m 74 #[.val (.ref r)] []))
    refine Go.step (fun t_ k_ => XS.iconst X1.here hx rfl (hb hby d2_74) k_) ?_
    show Go p e below _ (T1.setTop (mkF m 75 #[.val (.ref r)] [(.int (0 : Int32))]))
    refine Go.retZ X1 hx (t := .boolean) Bd.returns (by simp) Bd.notSynchronized (hb hby d2_75) (by rw [e1]; exact ⟨by first | (rw [← hres]; done) | (rw [← hres]; simp [nar]; done) | (rw [← hres]; simp [nar]; done) | (rw [← hres]; simp_all; done), N1, rfl⟩) (by decide) (by decide)
  next =>
    show Go p e below _ (T1.setTop (mkF m 4 #[.val (.ref r)] [(.int (6 : Int32))]))
    refine Go.step (fun t_ k_ => XS.tswIn X1.here hx rfl (pc0 := 4) (pc' := 74) (i := (6 : Int32)) (o := 70) rfl (hb hby d2_4) rfl (by decide) (by decide) (by decide) (by decide) k_) ?_
    show Go p e below _ (T1.setTop (mkF m 74 #[.val (.ref r)] []))
    refine Go.step (fun t_ k_ => XS.iconst X1.here hx rfl (hb hby d2_74) k_) ?_
    show Go p e below _ (T1.setTop (mkF m 75 #[.val (.ref r)] [(.int (0 : Int32))]))
    refine Go.retZ X1 hx (t := .boolean) Bd.returns (by simp) Bd.notSynchronized (hb hby d2_75) (by rw [e1]; exact ⟨by first | (rw [← hres]; done) | (rw [← hres]; simp [nar]; done) | (rw [← hres]; simp [nar]; done) | (rw [← hres]; simp_all; done), N1, rfl⟩) (by decide) (by decide)
  next =>
    show Go p e below _ (T1.setTop (mkF m 4 #[.val (.ref r)] [(.int (7 : Int32))]))
    refine Go.step (fun t_ k_ => XS.tswIn X1.here hx rfl (pc0 := 4) (pc' := 74) (i := (7 : Int32)) (o := 70) rfl (hb hby d2_4) rfl (by decide) (by decide) (by decide) (by decide) k_) ?_
    show Go p e below _ (T1.setTop (mkF m 74 #[.val (.ref r)] []))
    refine Go.step (fun t_ k_ => XS.iconst X1.here hx rfl (hb hby d2_74) k_) ?_
    show Go p e below _ (T1.setTop (mkF m 75 #[.val (.ref r)] [(.int (0 : Int32))]))
    refine Go.retZ X1 hx (t := .boolean) Bd.returns (by simp) Bd.notSynchronized (hb hby d2_75) (by rw [e1]; exact ⟨by first | (rw [← hres]; done) | (rw [← hres]; simp [nar]; done) | (rw [← hres]; simp [nar]; done) | (rw [← hres]; simp_all; done), N1, rfl⟩) (by decide) (by decide)
  next =>
    show Go p e below _ (T1.setTop (mkF m 4 #[.val (.ref r)] [(.int (8 : Int32))]))
    refine Go.step (fun t_ k_ => XS.tswIn X1.here hx rfl (pc0 := 4) (pc' := 70) (i := (8 : Int32)) (o := 66) rfl (hb hby d2_4) rfl (by decide) (by decide) (by decide) (by decide) k_) ?_
    show Go p e below _ (T1.setTop (mkF m 70 #[.val (.ref r)] []))
    refine Go.step (fun t_ k_ => XS.iconst X1.here hx rfl (hb hby d2_70) k_) ?_
    show Go p e below _ (T1.setTop (mkF m 71 #[.val (.ref r)] [(.int (1 : Int32))]))
    refine Go.step (fun t_ k_ => XS.goto X1.here hx rfl (pc0 := 71) (pc' := 75) rfl (hb hby d2_71) (by decide) (by decide) k_) ?_
    show Go p e below _ (T1.setTop (mkF m 75 #[.val (.ref r)] [(.int (1 : Int32))]))
    refine Go.retZ X1 hx (t := .boolean) Bd.returns (by simp) Bd.notSynchronized (hb hby d2_75) (by rw [e1]; exact ⟨by first | (rw [← hres]; done) | (rw [← hres]; simp [nar]; done) | (rw [← hres]; simp [nar]; done) | (rw [← hres]; simp_all; done), N1, rfl⟩) (by decide) (by decide)
  next =>
    show Go p e below _ (T1.setTop (mkF m 4 #[.val (.ref r)] [(.int (9 : Int32))]))
    refine Go.step (fun t_ k_ => XS.tswIn X1.here hx rfl (pc0 := 4) (pc' := 70) (i := (9 : Int32)) (o := 66) rfl (hb hby d2_4) rfl (by decide) (by decide) (by decide) (by decide) k_) ?_
    show Go p e below _ (T1.setTop (mkF m 70 #[.val (.ref r)] []))
    refine Go.step (fun t_ k_ => XS.iconst X1.here hx rfl (hb hby d2_70) k_) ?_
    show Go p e below _ (T1.setTop (mkF m 71 #[.val (.ref r)] [(.int (1 : Int32))]))
    refine Go.step (fun t_ k_ => XS.goto X1.here hx rfl (pc0 := 71) (pc' := 75) rfl (hb hby d2_71) (by decide) (by decide) k_) ?_
    show Go p e below _ (T1.setTop (mkF m 75 #[.val (.ref r)] [(.int (1 : Int32))]))
    refine Go.retZ X1 hx (t := .boolean) Bd.returns (by simp) Bd.notSynchronized (hb hby d2_75) (by rw [e1]; exact ⟨by first | (rw [← hres]; done) | (rw [← hres]; simp [nar]; done) | (rw [← hres]; simp [nar]; done) | (rw [← hres]; simp_all; done), N1, rfl⟩) (by decide) (by decide)
theorem d4_0 : decode prog_11_method_5_code 0 = .ok (.aload_n 0, 1) := by decide +kernel
theorem d4_1 : decode prog_11_method_5_code 1 = .ok (.getstatic 3, 3) := by decide +kernel
theorem d4_4 : decode prog_11_method_5_code 4 = .ok (.if_acmp .eq 17, 3) := by decide +kernel
theorem d4_21 : decode prog_11_method_5_code 21 = .ok (.iconst 1, 1) := by decide +kernel
theorem d4_22 : decode prog_11_method_5_code 22 = .ok (.goto 4, 3) := by decide +kernel
theorem d4_26 : decode prog_11_method_5_code 26 = .ok (.ireturn, 1) := by decide +kernel
theorem d4_7 : decode prog_11_method_5_code 7 = .ok (.aload_n 0, 1) := by decide +kernel
theorem d4_8 : decode prog_11_method_5_code 8 = .ok (.getstatic 7, 3) := by decide +kernel
theorem d4_11 : decode prog_11_method_5_code 11 = .ok (.if_acmp .eq 10, 3) := by decide +kernel
theorem d4_14 : decode prog_11_method_5_code 14 = .ok (.aload_n 0, 1) := by decide +kernel
theorem d4_15 : decode prog_11_method_5_code 15 = .ok (.getstatic 10, 3) := by decide +kernel
theorem d4_18 : decode prog_11_method_5_code 18 = .ok (.if_acmp .ne 7, 3) := by decide +kernel
theorem d4_25 : decode prog_11_method_5_code 25 = .ok (.iconst 0, 1) := by decide +kernel
theorem ef_rm4 (m : MethodId) (x0 : Addr)  : entryFrame m #[(.ref x0)] 1 = mkF m 0 #[.val (.ref x0)] [] := by first | (simp [entryFrame, mkF, argsToLocals, Value.category]; done) | rfl
def Q_rm4 (Z : State) (a_PENDING : Addr) (a_COMPLETED : Addr) (a_QUEUED : Addr) (a_EXECUTING : Addr) (a_HELD : Addr) (a_ERROR : Addr) (a_SUSPENDED : Addr) (a_ABORTED : Addr) (a_ARCHIVED : Addr) (a_UNKNOWN : Addr) (r : Addr) (res : Int32) (h0 : Heap) (n0 : Nat) (v : Option Value) (h : Heap) (L : List Loc) : Prop := v = some (.int res) ∧ Fr n0 L ∧ h = h0
set_option maxRecDepth 65536 in
set_option maxHeartbeats 40000000 in
theorem rm4 (l : Launch) (Z : State) (a0 : Array Value) (hw : ∀ d ∈ tables_1, d.before a0 Z = true) (ws : List Jvm.Cond) (a_PENDING : Addr) (a_COMPLETED : Addr) (a_QUEUED : Addr) (a_EXECUTING : Addr) (a_HELD : Addr) (a_ERROR : Addr) (a_SUSPENDED : Addr) (a_ABORTED : Addr) (a_ARCHIVED : Addr) (a_UNKNOWN : Addr) (HW : Wd Z a_PENDING a_COMPLETED a_QUEUED a_EXECUTING a_HELD a_ERROR a_SUSPENDED a_ABORTED a_ARCHIVED a_UNKNOWN) (r : Addr) (res : Int32) (h0 : Heap) (n0 : Nat) (Ol : Old Z n0 h0)  (hres : ((if r = a_PENDING then 1 else if r = a_QUEUED then 1 else if r = a_EXECUTING then 1 else 0 : Int32)) = res) :
    MetFree l (⟨"com/example/exposure/exposure/ExecutionPhase", "isActive", "()Z"⟩ : MethodName) (head1 (Jvm.Cond.code (⟨"com/example/exposure/exposure/ExecutionPhase", "isActive", "()Z"⟩ : MethodName) prog_11_method_5_code 1 (some .boolean) :: ws) ({ frames := 0, cells := 0, slots := 0, locals := 0 } : Room)) (fun a_ U_ => a_ = #[(.ref r)] ∧ Z.Warmed39 U_.vm ∧ U_.heap = h0) (fun _ _ _ _ _ => True) (fun _ U_ o_ V_ => ∃ v_ L_, o_ = .returned v_ ∧ Q_rm4 Z a_PENDING a_COMPLETED a_QUEUED a_EXECUTING a_HELD a_ERROR a_SUSPENDED a_ABORTED a_ARCHIVED a_UNKNOWN r res h0 n0 v_ V_.heap L_ ∧ FrameEnd U_ o_ V_ L_ ({ frames := 0, cells := 0, slots := 0, locals := 0 } : Room).cells ({ frames := 0, cells := 0, slots := 0, locals := 0 } : Room).slots) := by
  refine MetFree.of_bodySF (plainFor_of_name pn_2) hisR ?_
  intro p e s m args below meth c s₁ Bd hml0 hP hK
  obtain ⟨rfl, hZ, hh⟩ := hP
  have hx := Bd.exec
  have hby := Bd.bytes
  have hml : c.maxLocals = 1 := hml0
  have hown : s.vm.findClass "com/example/exposure/exposure/ExecutionPhase" = some m.cls := findClass_of_methodNamed Bd.named
  have hnm := (name_of_methodNamed Bd.named Bd.method).1
  have X0 : Stand p l e ({ frames := 0, cells := 0, slots := 0, locals := 0 } : Room) s m #[(.ref r)] below meth c s₁ [] 0 0 := Stand.of_body Bd
  have e0 : s₁.heap = h0 := by rw [← hh, Bd.state]; rfl
  have N0 := Fr.nil n0
  have kp0 := Keep.refl h0 []
  show Go p e below (Fin1 s below (Q_rm4 Z a_PENDING a_COMPLETED a_QUEUED a_EXECUTING a_HELD a_ERROR a_SUSPENDED a_ABORTED a_ARCHIVED a_UNKNOWN r res h0 n0) ({ frames := 0, cells := 0, slots := 0, locals := 0 } : Room).cells ({ frames := 0, cells := 0, slots := 0, locals := 0 } : Room).slots) _
  refine Go.step (fun t_ k_ => castTop (ef_rm4 m r) k_) ?_
  obtain ⟨S_PENDING, E_PENDING, S_COMPLETED, E_COMPLETED, S_QUEUED, E_QUEUED, S_EXECUTING, E_EXECUTING, S_HELD, E_HELD, S_ERROR, E_ERROR, S_SUSPENDED, E_SUSPENDED, S_ABORTED, E_ABORTED, S_ARCHIVED, E_ARCHIVED, S_UNKNOWN, E_UNKNOWN, F_PENDING_ordinal, F_COMPLETED_ordinal, F_QUEUED_ordinal, F_EXECUTING_ordinal, F_HELD_ordinal, F_ERROR_ordinal, F_SUSPENDED_ordinal, F_ABORTED_ordinal, F_ARCHIVED_ordinal, F_UNKNOWN_ordinal⟩ := id HW
  show Go p e below _ (s₁.setTop (mkF m 0 #[.val (.ref r)] []))
  refine Go.step (fun t_ k_ => XS.aloadN X0.here hx rfl (hb hby d4_0) rfl rfl k_) ?_
  show Go p e below _ (s₁.setTop (mkF m 1 #[.val (.ref r)] [(.ref r)]))
  obtain ⟨T1, X1, e1, st1⟩ := getS2 X0 hx hZ hown (host := "") (Or.inl (hw _ (List.mem_of_getElem? (i := 29) rfl))) Via.refl e0 (S_PENDING.ext Ol.2) (g := (mkF m 1 #[.val (.ref r)] [(.ref r)])) rfl (hb hby d4_1)
  refine Go.step st1 ?_
  show Go p e below _ (T1.setTop (mkF m 4 #[.val (.ref r)] [(.ref a_PENDING), (.ref r)]))
  by_cases ha4 : r = a_PENDING
  case pos =>
    refine Go.step (fun t_ k_ => Jvm.RoadKit.acmp (g := (mkF m 4 #[.val (.ref r)] [(.ref a_PENDING), (.ref r)])) X1 hx rfl rfl rfl (pc0 := 4) (pc' := 21) (same := true) rfl (hb hby d4_4) rfl (decide_eq_true (congrArg Value.ref ha4)) (by decide) (by decide) k_) ?_
    show Go p e below _ (T1.setTop (mkF m 21 #[.val (.ref r)] []))
    refine Go.step (fun t_ k_ => XS.iconst X1.here hx rfl (hb hby d4_21) k_) ?_
    show Go p e below _ (T1.setTop (mkF m 22 #[.val (.ref r)] [(.int (1 : Int32))]))
    refine Go.step (fun t_ k_ => XS.goto X1.here hx rfl (pc0 := 22) (pc' := 26) rfl (hb hby d4_22) (by decide) (by decide) k_) ?_
    show Go p e below _ (T1.setTop (mkF m 26 #[.val (.ref r)] [(.int (1 : Int32))]))
    refine Go.retZ X1 hx (t := .boolean) Bd.returns (by simp) Bd.notSynchronized (hb hby d4_26) (by rw [e1]; exact ⟨by first | (rw [← hres]; done) | (rw [← hres]; simp [if_pos ha4, nar]; done) | (rw [← hres]; simp [ha4, nar]; done) | (rw [← hres]; simp_all; done), N0, rfl⟩) (by decide) (by decide)
  case neg =>
    refine Go.step (fun t_ k_ => Jvm.RoadKit.acmp (g := (mkF m 4 #[.val (.ref r)] [(.ref a_PENDING), (.ref r)])) X1 hx rfl rfl rfl (pc0 := 4) (pc' := 7) (same := false) rfl (hb hby d4_4) rfl (decide_eq_false fun q => ha4 (Value.ref.inj q)) (by decide) (by decide) k_) ?_
    show Go p e below _ (T1.setTop (mkF m 7 #[.val (.ref r)] []))
    refine Go.step (fun t_ k_ => XS.aloadN X1.here hx rfl (hb hby d4_7) rfl rfl k_) ?_
    show Go p e below _ (T1.setTop (mkF m 8 #[.val (.ref r)] [(.ref r)]))
    obtain ⟨T2, X2, e2, st2⟩ := getS2 X1 hx hZ hown (host := "") (Or.inl (hw _ (List.mem_of_getElem? (i := 30) rfl))) Via.refl e1 (S_QUEUED.ext Ol.2) (g := (mkF m 8 #[.val (.ref r)] [(.ref r)])) rfl (hb hby d4_8)
    refine Go.step st2 ?_
    show Go p e below _ (T2.setTop (mkF m 11 #[.val (.ref r)] [(.ref a_QUEUED), (.ref r)]))
    by_cases ha11 : r = a_QUEUED
    case pos =>
      refine Go.step (fun t_ k_ => Jvm.RoadKit.acmp (g := (mkF m 11 #[.val (.ref r)] [(.ref a_QUEUED), (.ref r)])) X2 hx rfl rfl rfl (pc0 := 11) (pc' := 21) (same := true) rfl (hb hby d4_11) rfl (decide_eq_true (congrArg Value.ref ha11)) (by decide) (by decide) k_) ?_
      show Go p e below _ (T2.setTop (mkF m 21 #[.val (.ref r)] []))
      refine Go.step (fun t_ k_ => XS.iconst X2.here hx rfl (hb hby d4_21) k_) ?_
      show Go p e below _ (T2.setTop (mkF m 22 #[.val (.ref r)] [(.int (1 : Int32))]))
      refine Go.step (fun t_ k_ => XS.goto X2.here hx rfl (pc0 := 22) (pc' := 26) rfl (hb hby d4_22) (by decide) (by decide) k_) ?_
      show Go p e below _ (T2.setTop (mkF m 26 #[.val (.ref r)] [(.int (1 : Int32))]))
      refine Go.retZ X2 hx (t := .boolean) Bd.returns (by simp) Bd.notSynchronized (hb hby d4_26) (by rw [e2]; exact ⟨by first | (rw [← hres]; done) | (rw [← hres]; simp [if_neg ha4, if_pos ha11, nar]; done) | (rw [← hres]; simp [ha4, ha11, nar]; done) | (rw [← hres]; simp_all; done), N0, rfl⟩) (by decide) (by decide)
    case neg =>
      refine Go.step (fun t_ k_ => Jvm.RoadKit.acmp (g := (mkF m 11 #[.val (.ref r)] [(.ref a_QUEUED), (.ref r)])) X2 hx rfl rfl rfl (pc0 := 11) (pc' := 14) (same := false) rfl (hb hby d4_11) rfl (decide_eq_false fun q => ha11 (Value.ref.inj q)) (by decide) (by decide) k_) ?_
      show Go p e below _ (T2.setTop (mkF m 14 #[.val (.ref r)] []))
      refine Go.step (fun t_ k_ => XS.aloadN X2.here hx rfl (hb hby d4_14) rfl rfl k_) ?_
      show Go p e below _ (T2.setTop (mkF m 15 #[.val (.ref r)] [(.ref r)]))
      obtain ⟨T3, X3, e3, st3⟩ := getS2 X2 hx hZ hown (host := "") (Or.inl (hw _ (List.mem_of_getElem? (i := 32) rfl))) Via.refl e2 (S_EXECUTING.ext Ol.2) (g := (mkF m 15 #[.val (.ref r)] [(.ref r)])) rfl (hb hby d4_15)
      refine Go.step st3 ?_
      show Go p e below _ (T3.setTop (mkF m 18 #[.val (.ref r)] [(.ref a_EXECUTING), (.ref r)]))
      by_cases ha18 : r = a_EXECUTING
      case pos =>
        refine Go.step (fun t_ k_ => Jvm.RoadKit.acmp (g := (mkF m 18 #[.val (.ref r)] [(.ref a_EXECUTING), (.ref r)])) X3 hx rfl rfl rfl (pc0 := 18) (pc' := 21) (same := true) rfl (hb hby d4_18) rfl (decide_eq_true (congrArg Value.ref ha18)) (by decide) (by decide) k_) ?_
        show Go p e below _ (T3.setTop (mkF m 21 #[.val (.ref r)] []))
        refine Go.step (fun t_ k_ => XS.iconst X3.here hx rfl (hb hby d4_21) k_) ?_
        show Go p e below _ (T3.setTop (mkF m 22 #[.val (.ref r)] [(.int (1 : Int32))]))
        refine Go.step (fun t_ k_ => XS.goto X3.here hx rfl (pc0 := 22) (pc' := 26) rfl (hb hby d4_22) (by decide) (by decide) k_) ?_
        show Go p e below _ (T3.setTop (mkF m 26 #[.val (.ref r)] [(.int (1 : Int32))]))
        refine Go.retZ X3 hx (t := .boolean) Bd.returns (by simp) Bd.notSynchronized (hb hby d4_26) (by rw [e3]; exact ⟨by first | (rw [← hres]; done) | (rw [← hres]; simp [if_neg ha4, if_neg ha11, if_pos ha18, nar]; done) | (rw [← hres]; simp [ha4, ha11, ha18, nar]; done) | (rw [← hres]; simp_all; done), N0, rfl⟩) (by decide) (by decide)
      case neg =>
        refine Go.step (fun t_ k_ => Jvm.RoadKit.acmp (g := (mkF m 18 #[.val (.ref r)] [(.ref a_EXECUTING), (.ref r)])) X3 hx rfl rfl rfl (pc0 := 18) (pc' := 25) (same := false) rfl (hb hby d4_18) rfl (decide_eq_false fun q => ha18 (Value.ref.inj q)) (by decide) (by decide) k_) ?_
        show Go p e below _ (T3.setTop (mkF m 25 #[.val (.ref r)] []))
        refine Go.step (fun t_ k_ => XS.iconst X3.here hx rfl (hb hby d4_25) k_) ?_
        show Go p e below _ (T3.setTop (mkF m 26 #[.val (.ref r)] [(.int (0 : Int32))]))
        refine Go.retZ X3 hx (t := .boolean) Bd.returns (by simp) Bd.notSynchronized (hb hby d4_26) (by rw [e3]; exact ⟨by first | (rw [← hres]; done) | (rw [← hres]; simp [if_neg ha4, if_neg ha11, if_neg ha18, nar]; done) | (rw [← hres]; simp [ha4, ha11, ha18, nar]; done) | (rw [← hres]; simp_all; done), N0, rfl⟩) (by decide) (by decide)
theorem d5_0 : decode prog_11_method_4_code 0 = .ok (.aload_n 0, 1) := by decide +kernel
theorem d5_1 : decode prog_11_method_4_code 1 = .ok (.getstatic 3, 3) := by decide +kernel
theorem d5_4 : decode prog_11_method_4_code 4 = .ok (.if_acmp .eq 10, 3) := by decide +kernel
theorem d5_14 : decode prog_11_method_4_code 14 = .ok (.iconst 1, 1) := by decide +kernel
theorem d5_15 : decode prog_11_method_4_code 15 = .ok (.goto 4, 3) := by decide +kernel
theorem d5_19 : decode prog_11_method_4_code 19 = .ok (.ireturn, 1) := by decide +kernel
theorem d5_7 : decode prog_11_method_4_code 7 = .ok (.aload_n 0, 1) := by decide +kernel
theorem d5_8 : decode prog_11_method_4_code 8 = .ok (.getstatic 22, 3) := by decide +kernel
theorem d5_11 : decode prog_11_method_4_code 11 = .ok (.if_acmp .ne 7, 3) := by decide +kernel
theorem d5_18 : decode prog_11_method_4_code 18 = .ok (.iconst 0, 1) := by decide +kernel
theorem ef_rm5 (m : MethodId) (x0 : Addr)  : entryFrame m #[(.ref x0)] 1 = mkF m 0 #[.val (.ref x0)] [] := by first | (simp [entryFrame, mkF, argsToLocals, Value.category]; done) | rfl
def Q_rm5 (Z : State) (a_PENDING : Addr) (a_COMPLETED : Addr) (a_QUEUED : Addr) (a_EXECUTING : Addr) (a_HELD : Addr) (a_ERROR : Addr) (a_SUSPENDED : Addr) (a_ABORTED : Addr) (a_ARCHIVED : Addr) (a_UNKNOWN : Addr) (r : Addr) (res : Int32) (h0 : Heap) (n0 : Nat) (v : Option Value) (h : Heap) (L : List Loc) : Prop := v = some (.int res) ∧ Fr n0 L ∧ h = h0
set_option maxRecDepth 65536 in
set_option maxHeartbeats 40000000 in
theorem rm5 (l : Launch) (Z : State) (a0 : Array Value) (hw : ∀ d ∈ tables_1, d.before a0 Z = true) (ws : List Jvm.Cond) (a_PENDING : Addr) (a_COMPLETED : Addr) (a_QUEUED : Addr) (a_EXECUTING : Addr) (a_HELD : Addr) (a_ERROR : Addr) (a_SUSPENDED : Addr) (a_ABORTED : Addr) (a_ARCHIVED : Addr) (a_UNKNOWN : Addr) (HW : Wd Z a_PENDING a_COMPLETED a_QUEUED a_EXECUTING a_HELD a_ERROR a_SUSPENDED a_ABORTED a_ARCHIVED a_UNKNOWN) (r : Addr) (res : Int32) (h0 : Heap) (n0 : Nat) (Ol : Old Z n0 h0)  (hres : ((if r = a_PENDING then 1 else if r = a_HELD then 1 else 0 : Int32)) = res) :
    MetFree l (⟨"com/example/exposure/exposure/ExecutionPhase", "canStart", "()Z"⟩ : MethodName) (head1 (Jvm.Cond.code (⟨"com/example/exposure/exposure/ExecutionPhase", "canStart", "()Z"⟩ : MethodName) prog_11_method_4_code 1 (some .boolean) :: ws) ({ frames := 0, cells := 0, slots := 0, locals := 0 } : Room)) (fun a_ U_ => a_ = #[(.ref r)] ∧ Z.Warmed39 U_.vm ∧ U_.heap = h0) (fun _ _ _ _ _ => True) (fun _ U_ o_ V_ => ∃ v_ L_, o_ = .returned v_ ∧ Q_rm5 Z a_PENDING a_COMPLETED a_QUEUED a_EXECUTING a_HELD a_ERROR a_SUSPENDED a_ABORTED a_ARCHIVED a_UNKNOWN r res h0 n0 v_ V_.heap L_ ∧ FrameEnd U_ o_ V_ L_ ({ frames := 0, cells := 0, slots := 0, locals := 0 } : Room).cells ({ frames := 0, cells := 0, slots := 0, locals := 0 } : Room).slots) := by
  refine MetFree.of_bodySF (plainFor_of_name pn_2) hisR ?_
  intro p e s m args below meth c s₁ Bd hml0 hP hK
  obtain ⟨rfl, hZ, hh⟩ := hP
  have hx := Bd.exec
  have hby := Bd.bytes
  have hml : c.maxLocals = 1 := hml0
  have hown : s.vm.findClass "com/example/exposure/exposure/ExecutionPhase" = some m.cls := findClass_of_methodNamed Bd.named
  have hnm := (name_of_methodNamed Bd.named Bd.method).1
  have X0 : Stand p l e ({ frames := 0, cells := 0, slots := 0, locals := 0 } : Room) s m #[(.ref r)] below meth c s₁ [] 0 0 := Stand.of_body Bd
  have e0 : s₁.heap = h0 := by rw [← hh, Bd.state]; rfl
  have N0 := Fr.nil n0
  have kp0 := Keep.refl h0 []
  show Go p e below (Fin1 s below (Q_rm5 Z a_PENDING a_COMPLETED a_QUEUED a_EXECUTING a_HELD a_ERROR a_SUSPENDED a_ABORTED a_ARCHIVED a_UNKNOWN r res h0 n0) ({ frames := 0, cells := 0, slots := 0, locals := 0 } : Room).cells ({ frames := 0, cells := 0, slots := 0, locals := 0 } : Room).slots) _
  refine Go.step (fun t_ k_ => castTop (ef_rm5 m r) k_) ?_
  obtain ⟨S_PENDING, E_PENDING, S_COMPLETED, E_COMPLETED, S_QUEUED, E_QUEUED, S_EXECUTING, E_EXECUTING, S_HELD, E_HELD, S_ERROR, E_ERROR, S_SUSPENDED, E_SUSPENDED, S_ABORTED, E_ABORTED, S_ARCHIVED, E_ARCHIVED, S_UNKNOWN, E_UNKNOWN, F_PENDING_ordinal, F_COMPLETED_ordinal, F_QUEUED_ordinal, F_EXECUTING_ordinal, F_HELD_ordinal, F_ERROR_ordinal, F_SUSPENDED_ordinal, F_ABORTED_ordinal, F_ARCHIVED_ordinal, F_UNKNOWN_ordinal⟩ := id HW
  show Go p e below _ (s₁.setTop (mkF m 0 #[.val (.ref r)] []))
  refine Go.step (fun t_ k_ => XS.aloadN X0.here hx rfl (hb hby d5_0) rfl rfl k_) ?_
  show Go p e below _ (s₁.setTop (mkF m 1 #[.val (.ref r)] [(.ref r)]))
  obtain ⟨T1, X1, e1, st1⟩ := getS2 X0 hx hZ hown (host := "") (Or.inl (hw _ (List.mem_of_getElem? (i := 29) rfl))) Via.refl e0 (S_PENDING.ext Ol.2) (g := (mkF m 1 #[.val (.ref r)] [(.ref r)])) rfl (hb hby d5_1)
  refine Go.step st1 ?_
  show Go p e below _ (T1.setTop (mkF m 4 #[.val (.ref r)] [(.ref a_PENDING), (.ref r)]))
  by_cases ha4 : r = a_PENDING
  case pos =>
    refine Go.step (fun t_ k_ => Jvm.RoadKit.acmp (g := (mkF m 4 #[.val (.ref r)] [(.ref a_PENDING), (.ref r)])) X1 hx rfl rfl rfl (pc0 := 4) (pc' := 14) (same := true) rfl (hb hby d5_4) rfl (decide_eq_true (congrArg Value.ref ha4)) (by decide) (by decide) k_) ?_
    show Go p e below _ (T1.setTop (mkF m 14 #[.val (.ref r)] []))
    refine Go.step (fun t_ k_ => XS.iconst X1.here hx rfl (hb hby d5_14) k_) ?_
    show Go p e below _ (T1.setTop (mkF m 15 #[.val (.ref r)] [(.int (1 : Int32))]))
    refine Go.step (fun t_ k_ => XS.goto X1.here hx rfl (pc0 := 15) (pc' := 19) rfl (hb hby d5_15) (by decide) (by decide) k_) ?_
    show Go p e below _ (T1.setTop (mkF m 19 #[.val (.ref r)] [(.int (1 : Int32))]))
    refine Go.retZ X1 hx (t := .boolean) Bd.returns (by simp) Bd.notSynchronized (hb hby d5_19) (by rw [e1]; exact ⟨by first | (rw [← hres]; done) | (rw [← hres]; simp [if_pos ha4, nar]; done) | (rw [← hres]; simp [ha4, nar]; done) | (rw [← hres]; simp_all; done), N0, rfl⟩) (by decide) (by decide)
  case neg =>
    refine Go.step (fun t_ k_ => Jvm.RoadKit.acmp (g := (mkF m 4 #[.val (.ref r)] [(.ref a_PENDING), (.ref r)])) X1 hx rfl rfl rfl (pc0 := 4) (pc' := 7) (same := false) rfl (hb hby d5_4) rfl (decide_eq_false fun q => ha4 (Value.ref.inj q)) (by decide) (by decide) k_) ?_
    show Go p e below _ (T1.setTop (mkF m 7 #[.val (.ref r)] []))
    refine Go.step (fun t_ k_ => XS.aloadN X1.here hx rfl (hb hby d5_7) rfl rfl k_) ?_
    show Go p e below _ (T1.setTop (mkF m 8 #[.val (.ref r)] [(.ref r)]))
    obtain ⟨T2, X2, e2, st2⟩ := getS2 X1 hx hZ hown (host := "") (Or.inl (hw _ (List.mem_of_getElem? (i := 39) rfl))) Via.refl e1 (S_HELD.ext Ol.2) (g := (mkF m 8 #[.val (.ref r)] [(.ref r)])) rfl (hb hby d5_8)
    refine Go.step st2 ?_
    show Go p e below _ (T2.setTop (mkF m 11 #[.val (.ref r)] [(.ref a_HELD), (.ref r)]))
    by_cases ha11 : r = a_HELD
    case pos =>
      refine Go.step (fun t_ k_ => Jvm.RoadKit.acmp (g := (mkF m 11 #[.val (.ref r)] [(.ref a_HELD), (.ref r)])) X2 hx rfl rfl rfl (pc0 := 11) (pc' := 14) (same := true) rfl (hb hby d5_11) rfl (decide_eq_true (congrArg Value.ref ha11)) (by decide) (by decide) k_) ?_
      show Go p e below _ (T2.setTop (mkF m 14 #[.val (.ref r)] []))
      refine Go.step (fun t_ k_ => XS.iconst X2.here hx rfl (hb hby d5_14) k_) ?_
      show Go p e below _ (T2.setTop (mkF m 15 #[.val (.ref r)] [(.int (1 : Int32))]))
      refine Go.step (fun t_ k_ => XS.goto X2.here hx rfl (pc0 := 15) (pc' := 19) rfl (hb hby d5_15) (by decide) (by decide) k_) ?_
      show Go p e below _ (T2.setTop (mkF m 19 #[.val (.ref r)] [(.int (1 : Int32))]))
      refine Go.retZ X2 hx (t := .boolean) Bd.returns (by simp) Bd.notSynchronized (hb hby d5_19) (by rw [e2]; exact ⟨by first | (rw [← hres]; done) | (rw [← hres]; simp [if_neg ha4, if_pos ha11, nar]; done) | (rw [← hres]; simp [ha4, ha11, nar]; done) | (rw [← hres]; simp_all; done), N0, rfl⟩) (by decide) (by decide)
    case neg =>
      refine Go.step (fun t_ k_ => Jvm.RoadKit.acmp (g := (mkF m 11 #[.val (.ref r)] [(.ref a_HELD), (.ref r)])) X2 hx rfl rfl rfl (pc0 := 11) (pc' := 18) (same := false) rfl (hb hby d5_11) rfl (decide_eq_false fun q => ha11 (Value.ref.inj q)) (by decide) (by decide) k_) ?_
      show Go p e below _ (T2.setTop (mkF m 18 #[.val (.ref r)] []))
      refine Go.step (fun t_ k_ => XS.iconst X2.here hx rfl (hb hby d5_18) k_) ?_
      show Go p e below _ (T2.setTop (mkF m 19 #[.val (.ref r)] [(.int (0 : Int32))]))
      refine Go.retZ X2 hx (t := .boolean) Bd.returns (by simp) Bd.notSynchronized (hb hby d5_19) (by rw [e2]; exact ⟨by first | (rw [← hres]; done) | (rw [← hres]; simp [if_neg ha4, if_neg ha11, nar]; done) | (rw [← hres]; simp [ha4, ha11, nar]; done) | (rw [← hres]; simp_all; done), N0, rfl⟩) (by decide) (by decide)
theorem pd_1 : parseMethodDescriptor "(I)Lcom/example/exposure/exposure/ExecutionPhase;" = some ⟨[.int], some (.object "com/example/exposure/exposure/ExecutionPhase")⟩ := by decide +kernel
theorem pd_2 : parseMethodDescriptor "()Z" = some ⟨[], some .boolean⟩ := by decide +kernel
theorem ef_rm0 (m : MethodId) (x0 : Int32)  : entryFrame m #[(.int x0)] maxLocals = mkF m 0 #[.val (.int x0), .unset, .unset, .unset, .unset] [] := by first | (simp [entryFrame, mkF, argsToLocals, Value.category, maxLocals]; done) | rfl
def Q_rm0 (Z : State) (a_PENDING : Addr) (a_COMPLETED : Addr) (a_QUEUED : Addr) (a_EXECUTING : Addr) (a_HELD : Addr) (a_ERROR : Addr) (a_SUSPENDED : Addr) (a_ABORTED : Addr) (a_ARCHIVED : Addr) (a_UNKNOWN : Addr) (p1 : Int32) (h0 : Heap) (n0 : Nat) (v : Option Value) (h : Heap) (L : List Loc) : Prop := v = some (.int 1) ∧ Fr n0 L
set_option maxRecDepth 65536 in
set_option maxHeartbeats 40000000 in
theorem rm0 (l : Launch) (Z : State) (a0 : Array Value) (hw : ∀ d ∈ tables_1, d.before a0 Z = true) (ws : List Jvm.Cond) (a_PENDING : Addr) (a_COMPLETED : Addr) (a_QUEUED : Addr) (a_EXECUTING : Addr) (a_HELD : Addr) (a_ERROR : Addr) (a_SUSPENDED : Addr) (a_ABORTED : Addr) (a_ARCHIVED : Addr) (a_UNKNOWN : Addr) (HW : Wd Z a_PENDING a_COMPLETED a_QUEUED a_EXECUTING a_HELD a_ERROR a_SUSPENDED a_ABORTED a_ARCHIVED a_UNKNOWN) (p1 : Int32) (h0 : Heap) (n0 : Nat) (Ol : Old Z n0 h0)  :
    MetFree l x (head1 (Jvm.Cond.code x code maxLocals ret :: ws) room_1) (fun a_ U_ => a_ = #[(.int p1)] ∧ Z.Warmed39 U_.vm ∧ U_.heap = h0) (fun _ _ _ _ _ => True) (fun _ U_ o_ V_ => ∃ v_ L_, o_ = .returned v_ ∧ Q_rm0 Z a_PENDING a_COMPLETED a_QUEUED a_EXECUTING a_HELD a_ERROR a_SUSPENDED a_ABORTED a_ARCHIVED a_UNKNOWN p1 h0 n0 v_ V_.heap L_ ∧ FrameEnd U_ o_ V_ L_ room_1.cells room_1.slots) := by
  refine MetFree.of_bodySF (plainFor_of_name pn_0) hisR ?_
  intro p e s m args below meth c s₁ Bd hml0 hP hK
  obtain ⟨rfl, hZ, hh⟩ := hP
  have hx := Bd.exec
  have hby := Bd.bytes
  have hml : c.maxLocals = 5 := hml0
  have hown : s.vm.findClass "com/example/exposure/exposure/ExecutionPhaseIsFinalPinLaw" = some m.cls := findClass_of_methodNamed Bd.named
  have hnm := (name_of_methodNamed Bd.named Bd.method).1
  have X0 : Stand p l e room_1 s m #[(.int p1)] below meth c s₁ [] 0 0 := Stand.of_body Bd
  have e0 : s₁.heap = h0 := by rw [← hh, Bd.state]; rfl
  have N0 := Fr.nil n0
  have kp0 := Keep.refl h0 []
  show Go p e below (Fin1 s below (Q_rm0 Z a_PENDING a_COMPLETED a_QUEUED a_EXECUTING a_HELD a_ERROR a_SUSPENDED a_ABORTED a_ARCHIVED a_UNKNOWN p1 h0 n0) room_1.cells room_1.slots) _
  refine Go.step (fun t_ k_ => castTop (ef_rm0 m p1) k_) ?_
  obtain ⟨S_PENDING, E_PENDING, S_COMPLETED, E_COMPLETED, S_QUEUED, E_QUEUED, S_EXECUTING, E_EXECUTING, S_HELD, E_HELD, S_ERROR, E_ERROR, S_SUSPENDED, E_SUSPENDED, S_ABORTED, E_ABORTED, S_ARCHIVED, E_ARCHIVED, S_UNKNOWN, E_UNKNOWN, F_PENDING_ordinal, F_COMPLETED_ordinal, F_QUEUED_ordinal, F_EXECUTING_ordinal, F_HELD_ordinal, F_ERROR_ordinal, F_SUSPENDED_ordinal, F_ABORTED_ordinal, F_ARCHIVED_ordinal, F_UNKNOWN_ordinal⟩ := id HW
  show Go p e below _ (s₁.setTop (mkF m 0 #[.val (.int p1), .unset, .unset, .unset, .unset] []))
  refine Go.step (fun t_ k_ => XS.iloadN X0.here hx rfl (hb hby at_0) rfl k_) ?_
  show Go p e below _ (s₁.setTop (mkF m 1 #[.val (.int p1), .unset, .unset, .unset, .unset] [(.int p1)]))
  refine Go.step (fun t_ k_ => X0.ldcInt hx hown (mvT hZ (hw _ (List.mem_of_getElem? (i := 0) rfl))) (g := (mkF m 1 #[.val (.int p1), .unset, .unset, .unset, .unset] [(.int p1)])) rfl (hb hby at_1) _ k_) ?_
  show Go p e below _ (s₁.setTop (mkF m 3 #[.val (.int p1), .unset, .unset, .unset, .unset] [(.int (2147483647 : Int32)), (.int p1)]))
  refine Go.step (fun t_ k_ => XS.iand X0.here hx rfl (hb hby at_3) rfl k_) ?_
  show Go p e below _ (s₁.setTop (mkF m 4 #[.val (.int p1), .unset, .unset, .unset, .unset] [(.int (p1 &&& (2147483647 : Int32)))]))
  refine Go.step (fun t_ k_ => XS.bipush X0.here hx rfl (hb hby at_4) k_) ?_
  show Go p e below _ (s₁.setTop (mkF m 6 #[.val (.int p1), .unset, .unset, .unset, .unset] [(.int (10 : Int32)), (.int (p1 &&& (2147483647 : Int32)))]))
  refine Go.step (fun t_ k_ => iremM X0 hx rfl (hb hby at_6) rfl (by decide) k_) ?_
  show Go p e below _ (s₁.setTop (mkF m 7 #[.val (.int p1), .unset, .unset, .unset, .unset] [(.int ((p1 &&& (2147483647 : Int32)) % (10 : Int32)))]))
  refine Go.step (fun t_ k_ => XS.istoreN X0.here hx rfl (hb hby at_7) rfl (l' := #[.val (.int p1), .val (.int ((p1 &&& (2147483647 : Int32)) % (10 : Int32))), .unset, .unset, .unset]) rfl k_) ?_
  show Go p e below _ (s₁.setTop (mkF m 8 #[.val (.int p1), .val (.int ((p1 &&& (2147483647 : Int32)) % (10 : Int32))), .unset, .unset, .unset] []))
  generalize hk_k : ((p1 &&& (2147483647 : Int32)) % (10 : Int32)) = k
  show Go p e below _ (s₁.setTop (mkF m 8 #[.val (.int p1), .val (.int k), .unset, .unset, .unset] []))
  have hb_k := rem_bd p1 (10 : Int32) (by decide)
  rw [hk_k] at hb_k
  rcases cs10 hb_k with rfl | rfl | rfl | rfl | rfl | rfl | rfl | rfl | rfl | rfl
  next =>
    show Go p e below _ (s₁.setTop (mkF m 8 #[.val (.int p1), .val (.int (0 : Int32)), .unset, .unset, .unset] []))
    refine Go.step (fun t_ k_ => XS.iloadN X0.here hx rfl (hb hby at_8) rfl k_) ?_
    show Go p e below _ (s₁.setTop (mkF m 9 #[.val (.int p1), .val (.int (0 : Int32)), .unset, .unset, .unset] [(.int (0 : Int32))]))
    obtain ⟨_, _, ⟨T1, L1, k1, n1⟩, -, X1, ⟨Lc1, hQ1, l1, y1, z1⟩, st1⟩ := Jvm.LawKit.callS X0 hx (y := (⟨"com/example/exposure/exposure/ExecutionPhaseIsFinalPinLaw", "pick", "(I)Lcom/example/exposure/exposure/ExecutionPhase;"⟩ : MethodName)) hown (mvT hZ (hw _ (List.mem_of_getElem? (i := 1) rfl))) (mvT hZ (hw _ (List.mem_of_getElem? (i := 2) rfl))) (mvT hZ (hw _ (List.mem_of_getElem? (i := 3) rfl))) (mvT hZ (hw _ (List.mem_of_getElem? (i := 4) rfl))) (by decide) (backOf (W := 0) (rm1 l Z a0 hw [] a_PENDING a_COMPLETED a_QUEUED a_EXECUTING a_HELD a_ERROR a_SUSPENDED a_ABORTED a_ARCHIVED a_UNKNOWN HW (0 : Int32) a_PENDING h0 n0 Ol (by simp)) hZ (hw _ (List.mem_of_getElem? (i := 4) rfl)) (hw _ (List.mem_of_getElem? (i := 3) rfl)) (by decide) (by decide)) (g := (mkF m 9 #[.val (.int p1), .val (.int (0 : Int32)), .unset, .unset, .unset] [(.int (0 : Int32))])) rfl (by rw [hml]; rfl) (argsL := [(.int (0 : Int32))]) (rest := []) (lenOf pd_1 rfl) rfl (by show 2 * 0 + _ ≤ _; exact Nat.le_of_eq rfl) (hb hby at_9) (fun _ _ => ⟨rfl, e0, (by decide : 0 + 0 ≤ _), (by decide : 0 + 0 ≤ _)⟩)
    dsimp only [Pt.U, Pt.locs, Pt.cells, Pt.slots] at X1 l1 y1 z1 st1 hQ1
    subst l1 y1 z1
    obtain ⟨rfl, Nq1, e1⟩ := hQ1
    have N1 := Fr.app N0 Nq1
    refine Go.step st1 ?_
    show Go p e below _ (T1.setTop (mkF m 12 #[.val (.int p1), .val (.int (0 : Int32)), .unset, .unset, .unset] [(.ref a_PENDING)]))
    refine Go.step (fun t_ k_ => XS.astoreN X1.here hx rfl (hb hby at_12) rfl rfl (l' := #[.val (.int p1), .val (.int (0 : Int32)), .val (.ref a_PENDING), .unset, .unset]) rfl k_) ?_
    show Go p e below _ (T1.setTop (mkF m 13 #[.val (.int p1), .val (.int (0 : Int32)), .val (.ref a_PENDING), .unset, .unset] []))
    refine Go.step (fun t_ k_ => XS.iloadN X1.here hx rfl (hb hby at_13) rfl k_) ?_
    show Go p e below _ (T1.setTop (mkF m 14 #[.val (.int p1), .val (.int (0 : Int32)), .val (.ref a_PENDING), .unset, .unset] [(.int (0 : Int32))]))
    refine Go.step (fun t_ k_ => XS.iconst X1.here hx rfl (hb hby at_14) k_) ?_
    show Go p e below _ (T1.setTop (mkF m 15 #[.val (.int p1), .val (.int (0 : Int32)), .val (.ref a_PENDING), .unset, .unset] [(.int (3 : Int32)), (.int (0 : Int32))]))
    have hc15 : ¬ ((0 : Int32) = (3 : Int32)) := by decide
    refine Go.step (fun t_ k_ => XS.icmpNo X1.here hx rfl (hb hby at_15) rfl (feq hc15).1 k_) ?_
    show Go p e below _ (T1.setTop (mkF m 18 #[.val (.int p1), .val (.int (0 : Int32)), .val (.ref a_PENDING), .unset, .unset] []))
    refine Go.step (fun t_ k_ => XS.iloadN X1.here hx rfl (hb hby at_18) rfl k_) ?_
    show Go p e below _ (T1.setTop (mkF m 19 #[.val (.int p1), .val (.int (0 : Int32)), .val (.ref a_PENDING), .unset, .unset] [(.int (0 : Int32))]))
    refine Go.step (fun t_ k_ => XS.iconst X1.here hx rfl (hb hby at_19) k_) ?_
    show Go p e below _ (T1.setTop (mkF m 20 #[.val (.int p1), .val (.int (0 : Int32)), .val (.ref a_PENDING), .unset, .unset] [(.int (4 : Int32)), (.int (0 : Int32))]))
    have hc20 : ¬ ((0 : Int32) = (4 : Int32)) := by decide
    refine Go.step (fun t_ k_ => XS.icmpNo X1.here hx rfl (hb hby at_20) rfl (feq hc20).1 k_) ?_
    show Go p e below _ (T1.setTop (mkF m 23 #[.val (.int p1), .val (.int (0 : Int32)), .val (.ref a_PENDING), .unset, .unset] []))
    refine Go.step (fun t_ k_ => XS.iloadN X1.here hx rfl (hb hby at_23) rfl k_) ?_
    show Go p e below _ (T1.setTop (mkF m 24 #[.val (.int p1), .val (.int (0 : Int32)), .val (.ref a_PENDING), .unset, .unset] [(.int (0 : Int32))]))
    refine Go.step (fun t_ k_ => XS.bipush X1.here hx rfl (hb hby at_24) k_) ?_
    show Go p e below _ (T1.setTop (mkF m 26 #[.val (.int p1), .val (.int (0 : Int32)), .val (.ref a_PENDING), .unset, .unset] [(.int (8 : Int32)), (.int (0 : Int32))]))
    have hc26 : (0 : Int32) < (8 : Int32) := by decide
    refine Go.step (fun t_ k_ => XS.icmpYes X1.here hx rfl (pc0 := 26) (pc' := 33) rfl (hb hby at_26) rfl (tlt hc26).1 (by decide) (by decide) k_) ?_
    show Go p e below _ (T1.setTop (mkF m 33 #[.val (.int p1), .val (.int (0 : Int32)), .val (.ref a_PENDING), .unset, .unset] []))
    refine Go.step (fun t_ k_ => XS.iconst X1.here hx rfl (hb hby at_33) k_) ?_
    show Go p e below _ (T1.setTop (mkF m 34 #[.val (.int p1), .val (.int (0 : Int32)), .val (.ref a_PENDING), .unset, .unset] [(.int (0 : Int32))]))
    refine Go.step (fun t_ k_ => XS.istoreN X1.here hx rfl (hb hby at_34) rfl (l' := #[.val (.int p1), .val (.int (0 : Int32)), .val (.ref a_PENDING), .val (.int (0 : Int32)), .unset]) rfl k_) ?_
    show Go p e below _ (T1.setTop (mkF m 35 #[.val (.int p1), .val (.int (0 : Int32)), .val (.ref a_PENDING), .val (.int (0 : Int32)), .unset] []))
    refine Go.step (fun t_ k_ => XS.aloadN X1.here hx rfl (hb hby at_35) rfl rfl k_) ?_
    show Go p e below _ (T1.setTop (mkF m 36 #[.val (.int p1), .val (.int (0 : Int32)), .val (.ref a_PENDING), .val (.int (0 : Int32)), .unset] [(.ref a_PENDING)]))
    obtain ⟨cq2, kq2, q2a, q2b, q2c⟩ := isOf hZ e1 (E_PENDING.ext Ol.2)
    obtain ⟨_, _, ⟨T2, L2, k2, n2⟩, -, X2, ⟨Lc2, hQ2, l2, y2, z2⟩, st2⟩ := X1.virtualBack hx (y := (⟨"com/example/exposure/exposure/ExecutionPhase", "isFinal", "()Z"⟩ : MethodName)) (z := (⟨"com/example/exposure/exposure/ExecutionPhase", "isFinal", "()Z"⟩ : MethodName)) hown (mvT hZ (hw _ (List.mem_of_getElem? (i := 8) rfl))) (mvT hZ (hw _ (List.mem_of_getElem? (i := 9) rfl))) (notFace_of_selects (args := #[]) (mvT hZ (hw _ (List.mem_of_getElem? (i := 11) rfl)))) (mvT hZ (hw _ (List.mem_of_getElem? (i := 11) rfl))) (mvT hZ (hw _ (List.mem_of_getElem? (i := 10) rfl))) (by decide) (backOf (W := 0) (rm2 l Z a0 hw [] a_PENDING a_COMPLETED a_QUEUED a_EXECUTING a_HELD a_ERROR a_SUSPENDED a_ABORTED a_ARCHIVED a_UNKNOWN HW a_PENDING (0 : Int32) (0 : Int32) h0 n0 Ol F_PENDING_ordinal E_PENDING (by decide) (by simp)) hZ (hw _ (List.mem_of_getElem? (i := 12) rfl)) (hw _ (List.mem_of_getElem? (i := 6) rfl)) (by decide) (by decide)) q2a q2c (g := (mkF m 36 #[.val (.int p1), .val (.int (0 : Int32)), .val (.ref a_PENDING), .val (.int (0 : Int32)), .unset] [(.ref a_PENDING)])) rfl (by rw [hml]; rfl) (Steps.refl _) (argsL := []) (rest := []) (lenOf pd_2 rfl) rfl (by show 2 * 0 + _ ≤ _; exact Nat.le_of_eq rfl) (hb hby at_36) (fun _ _ => ⟨rfl, e1, (by decide : 0 + 0 ≤ _), (by decide : 0 + 0 ≤ _)⟩)
    dsimp only [Pt.U, Pt.locs, Pt.cells, Pt.slots] at X2 l2 y2 z2 st2 hQ2
    subst l2 y2 z2
    obtain ⟨rfl, Nq2, e2⟩ := hQ2
    have N2 := Fr.app N1 Nq2
    refine Go.step (fun t_ k_ => st2.trans k_) ?_
    show Go p e below _ (T2.setTop (mkF m 39 #[.val (.int p1), .val (.int (0 : Int32)), .val (.ref a_PENDING), .val (.int (0 : Int32)), .unset] [(.int (0 : Int32))]))
    refine Go.step (fun t_ k_ => XS.istore X2.here hx rfl (hb hby at_39) rfl (l' := #[.val (.int p1), .val (.int (0 : Int32)), .val (.ref a_PENDING), .val (.int (0 : Int32)), .val (.int (0 : Int32))]) rfl k_) ?_
    show Go p e below _ (T2.setTop (mkF m 41 #[.val (.int p1), .val (.int (0 : Int32)), .val (.ref a_PENDING), .val (.int (0 : Int32)), .val (.int (0 : Int32))] []))
    refine Go.step (fun t_ k_ => XS.iload X2.here hx rfl (hb hby at_41) rfl k_) ?_
    show Go p e below _ (T2.setTop (mkF m 43 #[.val (.int p1), .val (.int (0 : Int32)), .val (.ref a_PENDING), .val (.int (0 : Int32)), .val (.int (0 : Int32))] [(.int (0 : Int32))]))
    refine Go.step (fun t_ k_ => XS.iloadN X2.here hx rfl (hb hby at_43) rfl k_) ?_
    show Go p e below _ (T2.setTop (mkF m 44 #[.val (.int p1), .val (.int (0 : Int32)), .val (.ref a_PENDING), .val (.int (0 : Int32)), .val (.int (0 : Int32))] [(.int (0 : Int32)), (.int (0 : Int32))]))
    have hc44 : (0 : Int32) = (0 : Int32) := by decide
    refine Go.step (fun t_ k_ => XS.icmpYes X2.here hx rfl (pc0 := 44) (pc' := 49) rfl (hb hby at_44) rfl (teq hc44).1 (by decide) (by decide) k_) ?_
    show Go p e below _ (T2.setTop (mkF m 49 #[.val (.int p1), .val (.int (0 : Int32)), .val (.ref a_PENDING), .val (.int (0 : Int32)), .val (.int (0 : Int32))] []))
    refine Go.step (fun t_ k_ => XS.iload X2.here hx rfl (hb hby at_49) rfl k_) ?_
    show Go p e below _ (T2.setTop (mkF m 51 #[.val (.int p1), .val (.int (0 : Int32)), .val (.ref a_PENDING), .val (.int (0 : Int32)), .val (.int (0 : Int32))] [(.int (0 : Int32))]))
    have hc51 : (0 : Int32) = (0 : Int32) := by decide
    refine Go.step (fun t_ k_ => XS.ifYes X2.here hx rfl (pc0 := 51) (pc' := 70) rfl (hb hby at_51) rfl ((if0 _ _).trans (teq hc51).1) (by decide) (by decide) k_) ?_
    show Go p e below _ (T2.setTop (mkF m 70 #[.val (.int p1), .val (.int (0 : Int32)), .val (.ref a_PENDING), .val (.int (0 : Int32)), .val (.int (0 : Int32))] []))
    refine Go.step (fun t_ k_ => XS.iconst X2.here hx rfl (hb hby at_70) k_) ?_
    show Go p e below _ (T2.setTop (mkF m 71 #[.val (.int p1), .val (.int (0 : Int32)), .val (.ref a_PENDING), .val (.int (0 : Int32)), .val (.int (0 : Int32))] [(.int (1 : Int32))]))
    refine Go.retZ X2 hx (t := .boolean) Bd.returns (by simp) Bd.notSynchronized (hb hby at_71) (by rw [e2]; exact ⟨rfl, N2⟩) (by decide) (by decide)
  next =>
    show Go p e below _ (s₁.setTop (mkF m 8 #[.val (.int p1), .val (.int (1 : Int32)), .unset, .unset, .unset] []))
    refine Go.step (fun t_ k_ => XS.iloadN X0.here hx rfl (hb hby at_8) rfl k_) ?_
    show Go p e below _ (s₁.setTop (mkF m 9 #[.val (.int p1), .val (.int (1 : Int32)), .unset, .unset, .unset] [(.int (1 : Int32))]))
    obtain ⟨_, _, ⟨T3, L3, k3, n3⟩, -, X3, ⟨Lc3, hQ3, l3, y3, z3⟩, st3⟩ := Jvm.LawKit.callS X0 hx (y := (⟨"com/example/exposure/exposure/ExecutionPhaseIsFinalPinLaw", "pick", "(I)Lcom/example/exposure/exposure/ExecutionPhase;"⟩ : MethodName)) hown (mvT hZ (hw _ (List.mem_of_getElem? (i := 1) rfl))) (mvT hZ (hw _ (List.mem_of_getElem? (i := 2) rfl))) (mvT hZ (hw _ (List.mem_of_getElem? (i := 3) rfl))) (mvT hZ (hw _ (List.mem_of_getElem? (i := 4) rfl))) (by decide) (backOf (W := 0) (rm1 l Z a0 hw [] a_PENDING a_COMPLETED a_QUEUED a_EXECUTING a_HELD a_ERROR a_SUSPENDED a_ABORTED a_ARCHIVED a_UNKNOWN HW (1 : Int32) a_QUEUED h0 n0 Ol (by simp)) hZ (hw _ (List.mem_of_getElem? (i := 4) rfl)) (hw _ (List.mem_of_getElem? (i := 3) rfl)) (by decide) (by decide)) (g := (mkF m 9 #[.val (.int p1), .val (.int (1 : Int32)), .unset, .unset, .unset] [(.int (1 : Int32))])) rfl (by rw [hml]; rfl) (argsL := [(.int (1 : Int32))]) (rest := []) (lenOf pd_1 rfl) rfl (by show 2 * 0 + _ ≤ _; exact Nat.le_of_eq rfl) (hb hby at_9) (fun _ _ => ⟨rfl, e0, (by decide : 0 + 0 ≤ _), (by decide : 0 + 0 ≤ _)⟩)
    dsimp only [Pt.U, Pt.locs, Pt.cells, Pt.slots] at X3 l3 y3 z3 st3 hQ3
    subst l3 y3 z3
    obtain ⟨rfl, Nq3, e3⟩ := hQ3
    have N3 := Fr.app N0 Nq3
    refine Go.step st3 ?_
    show Go p e below _ (T3.setTop (mkF m 12 #[.val (.int p1), .val (.int (1 : Int32)), .unset, .unset, .unset] [(.ref a_QUEUED)]))
    refine Go.step (fun t_ k_ => XS.astoreN X3.here hx rfl (hb hby at_12) rfl rfl (l' := #[.val (.int p1), .val (.int (1 : Int32)), .val (.ref a_QUEUED), .unset, .unset]) rfl k_) ?_
    show Go p e below _ (T3.setTop (mkF m 13 #[.val (.int p1), .val (.int (1 : Int32)), .val (.ref a_QUEUED), .unset, .unset] []))
    refine Go.step (fun t_ k_ => XS.iloadN X3.here hx rfl (hb hby at_13) rfl k_) ?_
    show Go p e below _ (T3.setTop (mkF m 14 #[.val (.int p1), .val (.int (1 : Int32)), .val (.ref a_QUEUED), .unset, .unset] [(.int (1 : Int32))]))
    refine Go.step (fun t_ k_ => XS.iconst X3.here hx rfl (hb hby at_14) k_) ?_
    show Go p e below _ (T3.setTop (mkF m 15 #[.val (.int p1), .val (.int (1 : Int32)), .val (.ref a_QUEUED), .unset, .unset] [(.int (3 : Int32)), (.int (1 : Int32))]))
    have hc15 : ¬ ((1 : Int32) = (3 : Int32)) := by decide
    refine Go.step (fun t_ k_ => XS.icmpNo X3.here hx rfl (hb hby at_15) rfl (feq hc15).1 k_) ?_
    show Go p e below _ (T3.setTop (mkF m 18 #[.val (.int p1), .val (.int (1 : Int32)), .val (.ref a_QUEUED), .unset, .unset] []))
    refine Go.step (fun t_ k_ => XS.iloadN X3.here hx rfl (hb hby at_18) rfl k_) ?_
    show Go p e below _ (T3.setTop (mkF m 19 #[.val (.int p1), .val (.int (1 : Int32)), .val (.ref a_QUEUED), .unset, .unset] [(.int (1 : Int32))]))
    refine Go.step (fun t_ k_ => XS.iconst X3.here hx rfl (hb hby at_19) k_) ?_
    show Go p e below _ (T3.setTop (mkF m 20 #[.val (.int p1), .val (.int (1 : Int32)), .val (.ref a_QUEUED), .unset, .unset] [(.int (4 : Int32)), (.int (1 : Int32))]))
    have hc20 : ¬ ((1 : Int32) = (4 : Int32)) := by decide
    refine Go.step (fun t_ k_ => XS.icmpNo X3.here hx rfl (hb hby at_20) rfl (feq hc20).1 k_) ?_
    show Go p e below _ (T3.setTop (mkF m 23 #[.val (.int p1), .val (.int (1 : Int32)), .val (.ref a_QUEUED), .unset, .unset] []))
    refine Go.step (fun t_ k_ => XS.iloadN X3.here hx rfl (hb hby at_23) rfl k_) ?_
    show Go p e below _ (T3.setTop (mkF m 24 #[.val (.int p1), .val (.int (1 : Int32)), .val (.ref a_QUEUED), .unset, .unset] [(.int (1 : Int32))]))
    refine Go.step (fun t_ k_ => XS.bipush X3.here hx rfl (hb hby at_24) k_) ?_
    show Go p e below _ (T3.setTop (mkF m 26 #[.val (.int p1), .val (.int (1 : Int32)), .val (.ref a_QUEUED), .unset, .unset] [(.int (8 : Int32)), (.int (1 : Int32))]))
    have hc26 : (1 : Int32) < (8 : Int32) := by decide
    refine Go.step (fun t_ k_ => XS.icmpYes X3.here hx rfl (pc0 := 26) (pc' := 33) rfl (hb hby at_26) rfl (tlt hc26).1 (by decide) (by decide) k_) ?_
    show Go p e below _ (T3.setTop (mkF m 33 #[.val (.int p1), .val (.int (1 : Int32)), .val (.ref a_QUEUED), .unset, .unset] []))
    refine Go.step (fun t_ k_ => XS.iconst X3.here hx rfl (hb hby at_33) k_) ?_
    show Go p e below _ (T3.setTop (mkF m 34 #[.val (.int p1), .val (.int (1 : Int32)), .val (.ref a_QUEUED), .unset, .unset] [(.int (0 : Int32))]))
    refine Go.step (fun t_ k_ => XS.istoreN X3.here hx rfl (hb hby at_34) rfl (l' := #[.val (.int p1), .val (.int (1 : Int32)), .val (.ref a_QUEUED), .val (.int (0 : Int32)), .unset]) rfl k_) ?_
    show Go p e below _ (T3.setTop (mkF m 35 #[.val (.int p1), .val (.int (1 : Int32)), .val (.ref a_QUEUED), .val (.int (0 : Int32)), .unset] []))
    refine Go.step (fun t_ k_ => XS.aloadN X3.here hx rfl (hb hby at_35) rfl rfl k_) ?_
    show Go p e below _ (T3.setTop (mkF m 36 #[.val (.int p1), .val (.int (1 : Int32)), .val (.ref a_QUEUED), .val (.int (0 : Int32)), .unset] [(.ref a_QUEUED)]))
    obtain ⟨cq4, kq4, q4a, q4b, q4c⟩ := isOf hZ e3 (E_QUEUED.ext Ol.2)
    obtain ⟨_, _, ⟨T4, L4, k4, n4⟩, -, X4, ⟨Lc4, hQ4, l4, y4, z4⟩, st4⟩ := X3.virtualBack hx (y := (⟨"com/example/exposure/exposure/ExecutionPhase", "isFinal", "()Z"⟩ : MethodName)) (z := (⟨"com/example/exposure/exposure/ExecutionPhase", "isFinal", "()Z"⟩ : MethodName)) hown (mvT hZ (hw _ (List.mem_of_getElem? (i := 8) rfl))) (mvT hZ (hw _ (List.mem_of_getElem? (i := 9) rfl))) (notFace_of_selects (args := #[]) (mvT hZ (hw _ (List.mem_of_getElem? (i := 11) rfl)))) (mvT hZ (hw _ (List.mem_of_getElem? (i := 11) rfl))) (mvT hZ (hw _ (List.mem_of_getElem? (i := 10) rfl))) (by decide) (backOf (W := 0) (rm2 l Z a0 hw [] a_PENDING a_COMPLETED a_QUEUED a_EXECUTING a_HELD a_ERROR a_SUSPENDED a_ABORTED a_ARCHIVED a_UNKNOWN HW a_QUEUED (1 : Int32) (0 : Int32) h0 n0 Ol F_QUEUED_ordinal E_QUEUED (by decide) (by simp)) hZ (hw _ (List.mem_of_getElem? (i := 12) rfl)) (hw _ (List.mem_of_getElem? (i := 6) rfl)) (by decide) (by decide)) q4a q4c (g := (mkF m 36 #[.val (.int p1), .val (.int (1 : Int32)), .val (.ref a_QUEUED), .val (.int (0 : Int32)), .unset] [(.ref a_QUEUED)])) rfl (by rw [hml]; rfl) (Steps.refl _) (argsL := []) (rest := []) (lenOf pd_2 rfl) rfl (by show 2 * 0 + _ ≤ _; exact Nat.le_of_eq rfl) (hb hby at_36) (fun _ _ => ⟨rfl, e3, (by decide : 0 + 0 ≤ _), (by decide : 0 + 0 ≤ _)⟩)
    dsimp only [Pt.U, Pt.locs, Pt.cells, Pt.slots] at X4 l4 y4 z4 st4 hQ4
    subst l4 y4 z4
    obtain ⟨rfl, Nq4, e4⟩ := hQ4
    have N4 := Fr.app N3 Nq4
    refine Go.step (fun t_ k_ => st4.trans k_) ?_
    show Go p e below _ (T4.setTop (mkF m 39 #[.val (.int p1), .val (.int (1 : Int32)), .val (.ref a_QUEUED), .val (.int (0 : Int32)), .unset] [(.int (0 : Int32))]))
    refine Go.step (fun t_ k_ => XS.istore X4.here hx rfl (hb hby at_39) rfl (l' := #[.val (.int p1), .val (.int (1 : Int32)), .val (.ref a_QUEUED), .val (.int (0 : Int32)), .val (.int (0 : Int32))]) rfl k_) ?_
    show Go p e below _ (T4.setTop (mkF m 41 #[.val (.int p1), .val (.int (1 : Int32)), .val (.ref a_QUEUED), .val (.int (0 : Int32)), .val (.int (0 : Int32))] []))
    refine Go.step (fun t_ k_ => XS.iload X4.here hx rfl (hb hby at_41) rfl k_) ?_
    show Go p e below _ (T4.setTop (mkF m 43 #[.val (.int p1), .val (.int (1 : Int32)), .val (.ref a_QUEUED), .val (.int (0 : Int32)), .val (.int (0 : Int32))] [(.int (0 : Int32))]))
    refine Go.step (fun t_ k_ => XS.iloadN X4.here hx rfl (hb hby at_43) rfl k_) ?_
    show Go p e below _ (T4.setTop (mkF m 44 #[.val (.int p1), .val (.int (1 : Int32)), .val (.ref a_QUEUED), .val (.int (0 : Int32)), .val (.int (0 : Int32))] [(.int (0 : Int32)), (.int (0 : Int32))]))
    have hc44 : (0 : Int32) = (0 : Int32) := by decide
    refine Go.step (fun t_ k_ => XS.icmpYes X4.here hx rfl (pc0 := 44) (pc' := 49) rfl (hb hby at_44) rfl (teq hc44).1 (by decide) (by decide) k_) ?_
    show Go p e below _ (T4.setTop (mkF m 49 #[.val (.int p1), .val (.int (1 : Int32)), .val (.ref a_QUEUED), .val (.int (0 : Int32)), .val (.int (0 : Int32))] []))
    refine Go.step (fun t_ k_ => XS.iload X4.here hx rfl (hb hby at_49) rfl k_) ?_
    show Go p e below _ (T4.setTop (mkF m 51 #[.val (.int p1), .val (.int (1 : Int32)), .val (.ref a_QUEUED), .val (.int (0 : Int32)), .val (.int (0 : Int32))] [(.int (0 : Int32))]))
    have hc51 : (0 : Int32) = (0 : Int32) := by decide
    refine Go.step (fun t_ k_ => XS.ifYes X4.here hx rfl (pc0 := 51) (pc' := 70) rfl (hb hby at_51) rfl ((if0 _ _).trans (teq hc51).1) (by decide) (by decide) k_) ?_
    show Go p e below _ (T4.setTop (mkF m 70 #[.val (.int p1), .val (.int (1 : Int32)), .val (.ref a_QUEUED), .val (.int (0 : Int32)), .val (.int (0 : Int32))] []))
    refine Go.step (fun t_ k_ => XS.iconst X4.here hx rfl (hb hby at_70) k_) ?_
    show Go p e below _ (T4.setTop (mkF m 71 #[.val (.int p1), .val (.int (1 : Int32)), .val (.ref a_QUEUED), .val (.int (0 : Int32)), .val (.int (0 : Int32))] [(.int (1 : Int32))]))
    refine Go.retZ X4 hx (t := .boolean) Bd.returns (by simp) Bd.notSynchronized (hb hby at_71) (by rw [e4]; exact ⟨rfl, N4⟩) (by decide) (by decide)
  next =>
    show Go p e below _ (s₁.setTop (mkF m 8 #[.val (.int p1), .val (.int (2 : Int32)), .unset, .unset, .unset] []))
    refine Go.step (fun t_ k_ => XS.iloadN X0.here hx rfl (hb hby at_8) rfl k_) ?_
    show Go p e below _ (s₁.setTop (mkF m 9 #[.val (.int p1), .val (.int (2 : Int32)), .unset, .unset, .unset] [(.int (2 : Int32))]))
    obtain ⟨_, _, ⟨T5, L5, k5, n5⟩, -, X5, ⟨Lc5, hQ5, l5, y5, z5⟩, st5⟩ := Jvm.LawKit.callS X0 hx (y := (⟨"com/example/exposure/exposure/ExecutionPhaseIsFinalPinLaw", "pick", "(I)Lcom/example/exposure/exposure/ExecutionPhase;"⟩ : MethodName)) hown (mvT hZ (hw _ (List.mem_of_getElem? (i := 1) rfl))) (mvT hZ (hw _ (List.mem_of_getElem? (i := 2) rfl))) (mvT hZ (hw _ (List.mem_of_getElem? (i := 3) rfl))) (mvT hZ (hw _ (List.mem_of_getElem? (i := 4) rfl))) (by decide) (backOf (W := 0) (rm1 l Z a0 hw [] a_PENDING a_COMPLETED a_QUEUED a_EXECUTING a_HELD a_ERROR a_SUSPENDED a_ABORTED a_ARCHIVED a_UNKNOWN HW (2 : Int32) a_EXECUTING h0 n0 Ol (by simp)) hZ (hw _ (List.mem_of_getElem? (i := 4) rfl)) (hw _ (List.mem_of_getElem? (i := 3) rfl)) (by decide) (by decide)) (g := (mkF m 9 #[.val (.int p1), .val (.int (2 : Int32)), .unset, .unset, .unset] [(.int (2 : Int32))])) rfl (by rw [hml]; rfl) (argsL := [(.int (2 : Int32))]) (rest := []) (lenOf pd_1 rfl) rfl (by show 2 * 0 + _ ≤ _; exact Nat.le_of_eq rfl) (hb hby at_9) (fun _ _ => ⟨rfl, e0, (by decide : 0 + 0 ≤ _), (by decide : 0 + 0 ≤ _)⟩)
    dsimp only [Pt.U, Pt.locs, Pt.cells, Pt.slots] at X5 l5 y5 z5 st5 hQ5
    subst l5 y5 z5
    obtain ⟨rfl, Nq5, e5⟩ := hQ5
    have N5 := Fr.app N0 Nq5
    refine Go.step st5 ?_
    show Go p e below _ (T5.setTop (mkF m 12 #[.val (.int p1), .val (.int (2 : Int32)), .unset, .unset, .unset] [(.ref a_EXECUTING)]))
    refine Go.step (fun t_ k_ => XS.astoreN X5.here hx rfl (hb hby at_12) rfl rfl (l' := #[.val (.int p1), .val (.int (2 : Int32)), .val (.ref a_EXECUTING), .unset, .unset]) rfl k_) ?_
    show Go p e below _ (T5.setTop (mkF m 13 #[.val (.int p1), .val (.int (2 : Int32)), .val (.ref a_EXECUTING), .unset, .unset] []))
    refine Go.step (fun t_ k_ => XS.iloadN X5.here hx rfl (hb hby at_13) rfl k_) ?_
    show Go p e below _ (T5.setTop (mkF m 14 #[.val (.int p1), .val (.int (2 : Int32)), .val (.ref a_EXECUTING), .unset, .unset] [(.int (2 : Int32))]))
    refine Go.step (fun t_ k_ => XS.iconst X5.here hx rfl (hb hby at_14) k_) ?_
    show Go p e below _ (T5.setTop (mkF m 15 #[.val (.int p1), .val (.int (2 : Int32)), .val (.ref a_EXECUTING), .unset, .unset] [(.int (3 : Int32)), (.int (2 : Int32))]))
    have hc15 : ¬ ((2 : Int32) = (3 : Int32)) := by decide
    refine Go.step (fun t_ k_ => XS.icmpNo X5.here hx rfl (hb hby at_15) rfl (feq hc15).1 k_) ?_
    show Go p e below _ (T5.setTop (mkF m 18 #[.val (.int p1), .val (.int (2 : Int32)), .val (.ref a_EXECUTING), .unset, .unset] []))
    refine Go.step (fun t_ k_ => XS.iloadN X5.here hx rfl (hb hby at_18) rfl k_) ?_
    show Go p e below _ (T5.setTop (mkF m 19 #[.val (.int p1), .val (.int (2 : Int32)), .val (.ref a_EXECUTING), .unset, .unset] [(.int (2 : Int32))]))
    refine Go.step (fun t_ k_ => XS.iconst X5.here hx rfl (hb hby at_19) k_) ?_
    show Go p e below _ (T5.setTop (mkF m 20 #[.val (.int p1), .val (.int (2 : Int32)), .val (.ref a_EXECUTING), .unset, .unset] [(.int (4 : Int32)), (.int (2 : Int32))]))
    have hc20 : ¬ ((2 : Int32) = (4 : Int32)) := by decide
    refine Go.step (fun t_ k_ => XS.icmpNo X5.here hx rfl (hb hby at_20) rfl (feq hc20).1 k_) ?_
    show Go p e below _ (T5.setTop (mkF m 23 #[.val (.int p1), .val (.int (2 : Int32)), .val (.ref a_EXECUTING), .unset, .unset] []))
    refine Go.step (fun t_ k_ => XS.iloadN X5.here hx rfl (hb hby at_23) rfl k_) ?_
    show Go p e below _ (T5.setTop (mkF m 24 #[.val (.int p1), .val (.int (2 : Int32)), .val (.ref a_EXECUTING), .unset, .unset] [(.int (2 : Int32))]))
    refine Go.step (fun t_ k_ => XS.bipush X5.here hx rfl (hb hby at_24) k_) ?_
    show Go p e below _ (T5.setTop (mkF m 26 #[.val (.int p1), .val (.int (2 : Int32)), .val (.ref a_EXECUTING), .unset, .unset] [(.int (8 : Int32)), (.int (2 : Int32))]))
    have hc26 : (2 : Int32) < (8 : Int32) := by decide
    refine Go.step (fun t_ k_ => XS.icmpYes X5.here hx rfl (pc0 := 26) (pc' := 33) rfl (hb hby at_26) rfl (tlt hc26).1 (by decide) (by decide) k_) ?_
    show Go p e below _ (T5.setTop (mkF m 33 #[.val (.int p1), .val (.int (2 : Int32)), .val (.ref a_EXECUTING), .unset, .unset] []))
    refine Go.step (fun t_ k_ => XS.iconst X5.here hx rfl (hb hby at_33) k_) ?_
    show Go p e below _ (T5.setTop (mkF m 34 #[.val (.int p1), .val (.int (2 : Int32)), .val (.ref a_EXECUTING), .unset, .unset] [(.int (0 : Int32))]))
    refine Go.step (fun t_ k_ => XS.istoreN X5.here hx rfl (hb hby at_34) rfl (l' := #[.val (.int p1), .val (.int (2 : Int32)), .val (.ref a_EXECUTING), .val (.int (0 : Int32)), .unset]) rfl k_) ?_
    show Go p e below _ (T5.setTop (mkF m 35 #[.val (.int p1), .val (.int (2 : Int32)), .val (.ref a_EXECUTING), .val (.int (0 : Int32)), .unset] []))
    refine Go.step (fun t_ k_ => XS.aloadN X5.here hx rfl (hb hby at_35) rfl rfl k_) ?_
    show Go p e below _ (T5.setTop (mkF m 36 #[.val (.int p1), .val (.int (2 : Int32)), .val (.ref a_EXECUTING), .val (.int (0 : Int32)), .unset] [(.ref a_EXECUTING)]))
    obtain ⟨cq6, kq6, q6a, q6b, q6c⟩ := isOf hZ e5 (E_EXECUTING.ext Ol.2)
    obtain ⟨_, _, ⟨T6, L6, k6, n6⟩, -, X6, ⟨Lc6, hQ6, l6, y6, z6⟩, st6⟩ := X5.virtualBack hx (y := (⟨"com/example/exposure/exposure/ExecutionPhase", "isFinal", "()Z"⟩ : MethodName)) (z := (⟨"com/example/exposure/exposure/ExecutionPhase", "isFinal", "()Z"⟩ : MethodName)) hown (mvT hZ (hw _ (List.mem_of_getElem? (i := 8) rfl))) (mvT hZ (hw _ (List.mem_of_getElem? (i := 9) rfl))) (notFace_of_selects (args := #[]) (mvT hZ (hw _ (List.mem_of_getElem? (i := 11) rfl)))) (mvT hZ (hw _ (List.mem_of_getElem? (i := 11) rfl))) (mvT hZ (hw _ (List.mem_of_getElem? (i := 10) rfl))) (by decide) (backOf (W := 0) (rm2 l Z a0 hw [] a_PENDING a_COMPLETED a_QUEUED a_EXECUTING a_HELD a_ERROR a_SUSPENDED a_ABORTED a_ARCHIVED a_UNKNOWN HW a_EXECUTING (2 : Int32) (0 : Int32) h0 n0 Ol F_EXECUTING_ordinal E_EXECUTING (by decide) (by simp)) hZ (hw _ (List.mem_of_getElem? (i := 12) rfl)) (hw _ (List.mem_of_getElem? (i := 6) rfl)) (by decide) (by decide)) q6a q6c (g := (mkF m 36 #[.val (.int p1), .val (.int (2 : Int32)), .val (.ref a_EXECUTING), .val (.int (0 : Int32)), .unset] [(.ref a_EXECUTING)])) rfl (by rw [hml]; rfl) (Steps.refl _) (argsL := []) (rest := []) (lenOf pd_2 rfl) rfl (by show 2 * 0 + _ ≤ _; exact Nat.le_of_eq rfl) (hb hby at_36) (fun _ _ => ⟨rfl, e5, (by decide : 0 + 0 ≤ _), (by decide : 0 + 0 ≤ _)⟩)
    dsimp only [Pt.U, Pt.locs, Pt.cells, Pt.slots] at X6 l6 y6 z6 st6 hQ6
    subst l6 y6 z6
    obtain ⟨rfl, Nq6, e6⟩ := hQ6
    have N6 := Fr.app N5 Nq6
    refine Go.step (fun t_ k_ => st6.trans k_) ?_
    show Go p e below _ (T6.setTop (mkF m 39 #[.val (.int p1), .val (.int (2 : Int32)), .val (.ref a_EXECUTING), .val (.int (0 : Int32)), .unset] [(.int (0 : Int32))]))
    refine Go.step (fun t_ k_ => XS.istore X6.here hx rfl (hb hby at_39) rfl (l' := #[.val (.int p1), .val (.int (2 : Int32)), .val (.ref a_EXECUTING), .val (.int (0 : Int32)), .val (.int (0 : Int32))]) rfl k_) ?_
    show Go p e below _ (T6.setTop (mkF m 41 #[.val (.int p1), .val (.int (2 : Int32)), .val (.ref a_EXECUTING), .val (.int (0 : Int32)), .val (.int (0 : Int32))] []))
    refine Go.step (fun t_ k_ => XS.iload X6.here hx rfl (hb hby at_41) rfl k_) ?_
    show Go p e below _ (T6.setTop (mkF m 43 #[.val (.int p1), .val (.int (2 : Int32)), .val (.ref a_EXECUTING), .val (.int (0 : Int32)), .val (.int (0 : Int32))] [(.int (0 : Int32))]))
    refine Go.step (fun t_ k_ => XS.iloadN X6.here hx rfl (hb hby at_43) rfl k_) ?_
    show Go p e below _ (T6.setTop (mkF m 44 #[.val (.int p1), .val (.int (2 : Int32)), .val (.ref a_EXECUTING), .val (.int (0 : Int32)), .val (.int (0 : Int32))] [(.int (0 : Int32)), (.int (0 : Int32))]))
    have hc44 : (0 : Int32) = (0 : Int32) := by decide
    refine Go.step (fun t_ k_ => XS.icmpYes X6.here hx rfl (pc0 := 44) (pc' := 49) rfl (hb hby at_44) rfl (teq hc44).1 (by decide) (by decide) k_) ?_
    show Go p e below _ (T6.setTop (mkF m 49 #[.val (.int p1), .val (.int (2 : Int32)), .val (.ref a_EXECUTING), .val (.int (0 : Int32)), .val (.int (0 : Int32))] []))
    refine Go.step (fun t_ k_ => XS.iload X6.here hx rfl (hb hby at_49) rfl k_) ?_
    show Go p e below _ (T6.setTop (mkF m 51 #[.val (.int p1), .val (.int (2 : Int32)), .val (.ref a_EXECUTING), .val (.int (0 : Int32)), .val (.int (0 : Int32))] [(.int (0 : Int32))]))
    have hc51 : (0 : Int32) = (0 : Int32) := by decide
    refine Go.step (fun t_ k_ => XS.ifYes X6.here hx rfl (pc0 := 51) (pc' := 70) rfl (hb hby at_51) rfl ((if0 _ _).trans (teq hc51).1) (by decide) (by decide) k_) ?_
    show Go p e below _ (T6.setTop (mkF m 70 #[.val (.int p1), .val (.int (2 : Int32)), .val (.ref a_EXECUTING), .val (.int (0 : Int32)), .val (.int (0 : Int32))] []))
    refine Go.step (fun t_ k_ => XS.iconst X6.here hx rfl (hb hby at_70) k_) ?_
    show Go p e below _ (T6.setTop (mkF m 71 #[.val (.int p1), .val (.int (2 : Int32)), .val (.ref a_EXECUTING), .val (.int (0 : Int32)), .val (.int (0 : Int32))] [(.int (1 : Int32))]))
    refine Go.retZ X6 hx (t := .boolean) Bd.returns (by simp) Bd.notSynchronized (hb hby at_71) (by rw [e6]; exact ⟨rfl, N6⟩) (by decide) (by decide)
  next =>
    show Go p e below _ (s₁.setTop (mkF m 8 #[.val (.int p1), .val (.int (3 : Int32)), .unset, .unset, .unset] []))
    refine Go.step (fun t_ k_ => XS.iloadN X0.here hx rfl (hb hby at_8) rfl k_) ?_
    show Go p e below _ (s₁.setTop (mkF m 9 #[.val (.int p1), .val (.int (3 : Int32)), .unset, .unset, .unset] [(.int (3 : Int32))]))
    obtain ⟨_, _, ⟨T7, L7, k7, n7⟩, -, X7, ⟨Lc7, hQ7, l7, y7, z7⟩, st7⟩ := Jvm.LawKit.callS X0 hx (y := (⟨"com/example/exposure/exposure/ExecutionPhaseIsFinalPinLaw", "pick", "(I)Lcom/example/exposure/exposure/ExecutionPhase;"⟩ : MethodName)) hown (mvT hZ (hw _ (List.mem_of_getElem? (i := 1) rfl))) (mvT hZ (hw _ (List.mem_of_getElem? (i := 2) rfl))) (mvT hZ (hw _ (List.mem_of_getElem? (i := 3) rfl))) (mvT hZ (hw _ (List.mem_of_getElem? (i := 4) rfl))) (by decide) (backOf (W := 0) (rm1 l Z a0 hw [] a_PENDING a_COMPLETED a_QUEUED a_EXECUTING a_HELD a_ERROR a_SUSPENDED a_ABORTED a_ARCHIVED a_UNKNOWN HW (3 : Int32) a_COMPLETED h0 n0 Ol (by simp)) hZ (hw _ (List.mem_of_getElem? (i := 4) rfl)) (hw _ (List.mem_of_getElem? (i := 3) rfl)) (by decide) (by decide)) (g := (mkF m 9 #[.val (.int p1), .val (.int (3 : Int32)), .unset, .unset, .unset] [(.int (3 : Int32))])) rfl (by rw [hml]; rfl) (argsL := [(.int (3 : Int32))]) (rest := []) (lenOf pd_1 rfl) rfl (by show 2 * 0 + _ ≤ _; exact Nat.le_of_eq rfl) (hb hby at_9) (fun _ _ => ⟨rfl, e0, (by decide : 0 + 0 ≤ _), (by decide : 0 + 0 ≤ _)⟩)
    dsimp only [Pt.U, Pt.locs, Pt.cells, Pt.slots] at X7 l7 y7 z7 st7 hQ7
    subst l7 y7 z7
    obtain ⟨rfl, Nq7, e7⟩ := hQ7
    have N7 := Fr.app N0 Nq7
    refine Go.step st7 ?_
    show Go p e below _ (T7.setTop (mkF m 12 #[.val (.int p1), .val (.int (3 : Int32)), .unset, .unset, .unset] [(.ref a_COMPLETED)]))
    refine Go.step (fun t_ k_ => XS.astoreN X7.here hx rfl (hb hby at_12) rfl rfl (l' := #[.val (.int p1), .val (.int (3 : Int32)), .val (.ref a_COMPLETED), .unset, .unset]) rfl k_) ?_
    show Go p e below _ (T7.setTop (mkF m 13 #[.val (.int p1), .val (.int (3 : Int32)), .val (.ref a_COMPLETED), .unset, .unset] []))
    refine Go.step (fun t_ k_ => XS.iloadN X7.here hx rfl (hb hby at_13) rfl k_) ?_
    show Go p e below _ (T7.setTop (mkF m 14 #[.val (.int p1), .val (.int (3 : Int32)), .val (.ref a_COMPLETED), .unset, .unset] [(.int (3 : Int32))]))
    refine Go.step (fun t_ k_ => XS.iconst X7.here hx rfl (hb hby at_14) k_) ?_
    show Go p e below _ (T7.setTop (mkF m 15 #[.val (.int p1), .val (.int (3 : Int32)), .val (.ref a_COMPLETED), .unset, .unset] [(.int (3 : Int32)), (.int (3 : Int32))]))
    have hc15 : (3 : Int32) = (3 : Int32) := by decide
    refine Go.step (fun t_ k_ => XS.icmpYes X7.here hx rfl (pc0 := 15) (pc' := 29) rfl (hb hby at_15) rfl (teq hc15).1 (by decide) (by decide) k_) ?_
    show Go p e below _ (T7.setTop (mkF m 29 #[.val (.int p1), .val (.int (3 : Int32)), .val (.ref a_COMPLETED), .unset, .unset] []))
    refine Go.step (fun t_ k_ => XS.iconst X7.here hx rfl (hb hby at_29) k_) ?_
    show Go p e below _ (T7.setTop (mkF m 30 #[.val (.int p1), .val (.int (3 : Int32)), .val (.ref a_COMPLETED), .unset, .unset] [(.int (1 : Int32))]))
    refine Go.step (fun t_ k_ => XS.goto X7.here hx rfl (pc0 := 30) (pc' := 34) rfl (hb hby at_30) (by decide) (by decide) k_) ?_
    show Go p e below _ (T7.setTop (mkF m 34 #[.val (.int p1), .val (.int (3 : Int32)), .val (.ref a_COMPLETED), .unset, .unset] [(.int (1 : Int32))]))
    refine Go.step (fun t_ k_ => XS.istoreN X7.here hx rfl (hb hby at_34) rfl (l' := #[.val (.int p1), .val (.int (3 : Int32)), .val (.ref a_COMPLETED), .val (.int (1 : Int32)), .unset]) rfl k_) ?_
    show Go p e below _ (T7.setTop (mkF m 35 #[.val (.int p1), .val (.int (3 : Int32)), .val (.ref a_COMPLETED), .val (.int (1 : Int32)), .unset] []))
    refine Go.step (fun t_ k_ => XS.aloadN X7.here hx rfl (hb hby at_35) rfl rfl k_) ?_
    show Go p e below _ (T7.setTop (mkF m 36 #[.val (.int p1), .val (.int (3 : Int32)), .val (.ref a_COMPLETED), .val (.int (1 : Int32)), .unset] [(.ref a_COMPLETED)]))
    obtain ⟨cq8, kq8, q8a, q8b, q8c⟩ := isOf hZ e7 (E_COMPLETED.ext Ol.2)
    obtain ⟨_, _, ⟨T8, L8, k8, n8⟩, -, X8, ⟨Lc8, hQ8, l8, y8, z8⟩, st8⟩ := X7.virtualBack hx (y := (⟨"com/example/exposure/exposure/ExecutionPhase", "isFinal", "()Z"⟩ : MethodName)) (z := (⟨"com/example/exposure/exposure/ExecutionPhase", "isFinal", "()Z"⟩ : MethodName)) hown (mvT hZ (hw _ (List.mem_of_getElem? (i := 8) rfl))) (mvT hZ (hw _ (List.mem_of_getElem? (i := 9) rfl))) (notFace_of_selects (args := #[]) (mvT hZ (hw _ (List.mem_of_getElem? (i := 11) rfl)))) (mvT hZ (hw _ (List.mem_of_getElem? (i := 11) rfl))) (mvT hZ (hw _ (List.mem_of_getElem? (i := 10) rfl))) (by decide) (backOf (W := 0) (rm2 l Z a0 hw [] a_PENDING a_COMPLETED a_QUEUED a_EXECUTING a_HELD a_ERROR a_SUSPENDED a_ABORTED a_ARCHIVED a_UNKNOWN HW a_COMPLETED (3 : Int32) (1 : Int32) h0 n0 Ol F_COMPLETED_ordinal E_COMPLETED (by decide) (by simp)) hZ (hw _ (List.mem_of_getElem? (i := 12) rfl)) (hw _ (List.mem_of_getElem? (i := 6) rfl)) (by decide) (by decide)) q8a q8c (g := (mkF m 36 #[.val (.int p1), .val (.int (3 : Int32)), .val (.ref a_COMPLETED), .val (.int (1 : Int32)), .unset] [(.ref a_COMPLETED)])) rfl (by rw [hml]; rfl) (Steps.refl _) (argsL := []) (rest := []) (lenOf pd_2 rfl) rfl (by show 2 * 0 + _ ≤ _; exact Nat.le_of_eq rfl) (hb hby at_36) (fun _ _ => ⟨rfl, e7, (by decide : 0 + 0 ≤ _), (by decide : 0 + 0 ≤ _)⟩)
    dsimp only [Pt.U, Pt.locs, Pt.cells, Pt.slots] at X8 l8 y8 z8 st8 hQ8
    subst l8 y8 z8
    obtain ⟨rfl, Nq8, e8⟩ := hQ8
    have N8 := Fr.app N7 Nq8
    refine Go.step (fun t_ k_ => st8.trans k_) ?_
    show Go p e below _ (T8.setTop (mkF m 39 #[.val (.int p1), .val (.int (3 : Int32)), .val (.ref a_COMPLETED), .val (.int (1 : Int32)), .unset] [(.int (1 : Int32))]))
    refine Go.step (fun t_ k_ => XS.istore X8.here hx rfl (hb hby at_39) rfl (l' := #[.val (.int p1), .val (.int (3 : Int32)), .val (.ref a_COMPLETED), .val (.int (1 : Int32)), .val (.int (1 : Int32))]) rfl k_) ?_
    show Go p e below _ (T8.setTop (mkF m 41 #[.val (.int p1), .val (.int (3 : Int32)), .val (.ref a_COMPLETED), .val (.int (1 : Int32)), .val (.int (1 : Int32))] []))
    refine Go.step (fun t_ k_ => XS.iload X8.here hx rfl (hb hby at_41) rfl k_) ?_
    show Go p e below _ (T8.setTop (mkF m 43 #[.val (.int p1), .val (.int (3 : Int32)), .val (.ref a_COMPLETED), .val (.int (1 : Int32)), .val (.int (1 : Int32))] [(.int (1 : Int32))]))
    refine Go.step (fun t_ k_ => XS.iloadN X8.here hx rfl (hb hby at_43) rfl k_) ?_
    show Go p e below _ (T8.setTop (mkF m 44 #[.val (.int p1), .val (.int (3 : Int32)), .val (.ref a_COMPLETED), .val (.int (1 : Int32)), .val (.int (1 : Int32))] [(.int (1 : Int32)), (.int (1 : Int32))]))
    have hc44 : (1 : Int32) = (1 : Int32) := by decide
    refine Go.step (fun t_ k_ => XS.icmpYes X8.here hx rfl (pc0 := 44) (pc' := 49) rfl (hb hby at_44) rfl (teq hc44).1 (by decide) (by decide) k_) ?_
    show Go p e below _ (T8.setTop (mkF m 49 #[.val (.int p1), .val (.int (3 : Int32)), .val (.ref a_COMPLETED), .val (.int (1 : Int32)), .val (.int (1 : Int32))] []))
    refine Go.step (fun t_ k_ => XS.iload X8.here hx rfl (hb hby at_49) rfl k_) ?_
    show Go p e below _ (T8.setTop (mkF m 51 #[.val (.int p1), .val (.int (3 : Int32)), .val (.ref a_COMPLETED), .val (.int (1 : Int32)), .val (.int (1 : Int32))] [(.int (1 : Int32))]))
    have hc51 : ¬ ((1 : Int32) = (0 : Int32)) := by decide
    refine Go.step (fun t_ k_ => XS.ifNo X8.here hx rfl (hb hby at_51) rfl ((if0 _ _).trans (feq hc51).1) k_) ?_
    show Go p e below _ (T8.setTop (mkF m 54 #[.val (.int p1), .val (.int (3 : Int32)), .val (.ref a_COMPLETED), .val (.int (1 : Int32)), .val (.int (1 : Int32))] []))
    refine Go.step (fun t_ k_ => XS.aloadN X8.here hx rfl (hb hby at_54) rfl rfl k_) ?_
    show Go p e below _ (T8.setTop (mkF m 55 #[.val (.int p1), .val (.int (3 : Int32)), .val (.ref a_COMPLETED), .val (.int (1 : Int32)), .val (.int (1 : Int32))] [(.ref a_COMPLETED)]))
    obtain ⟨cq9, kq9, q9a, q9b, q9c⟩ := isOf hZ e8 (E_COMPLETED.ext Ol.2)
    obtain ⟨_, _, ⟨T9, L9, k9, n9⟩, -, X9, ⟨Lc9, hQ9, l9, y9, z9⟩, st9⟩ := X8.virtualBack hx (y := (⟨"com/example/exposure/exposure/ExecutionPhase", "isActive", "()Z"⟩ : MethodName)) (z := (⟨"com/example/exposure/exposure/ExecutionPhase", "isActive", "()Z"⟩ : MethodName)) hown (mvT hZ (hw _ (List.mem_of_getElem? (i := 24) rfl))) (mvT hZ (hw _ (List.mem_of_getElem? (i := 25) rfl))) (notFace_of_selects (args := #[]) (mvT hZ (hw _ (List.mem_of_getElem? (i := 27) rfl)))) (mvT hZ (hw _ (List.mem_of_getElem? (i := 27) rfl))) (mvT hZ (hw _ (List.mem_of_getElem? (i := 26) rfl))) (by decide) (backOf (W := 0) (rm4 l Z a0 hw [] a_PENDING a_COMPLETED a_QUEUED a_EXECUTING a_HELD a_ERROR a_SUSPENDED a_ABORTED a_ARCHIVED a_UNKNOWN HW a_COMPLETED (0 : Int32) h0 n0 Ol (by simp [(Fld.ne F_PENDING_ordinal F_COMPLETED_ordinal (by simp)), (Ne.symm (Fld.ne F_PENDING_ordinal F_COMPLETED_ordinal (by simp))), (Fld.ne F_PENDING_ordinal F_QUEUED_ordinal (by simp)), (Ne.symm (Fld.ne F_PENDING_ordinal F_QUEUED_ordinal (by simp))), (Fld.ne F_PENDING_ordinal F_EXECUTING_ordinal (by simp)), (Ne.symm (Fld.ne F_PENDING_ordinal F_EXECUTING_ordinal (by simp))), (Fld.ne F_PENDING_ordinal F_HELD_ordinal (by simp)), (Ne.symm (Fld.ne F_PENDING_ordinal F_HELD_ordinal (by simp))), (Fld.ne F_PENDING_ordinal F_ERROR_ordinal (by simp)), (Ne.symm (Fld.ne F_PENDING_ordinal F_ERROR_ordinal (by simp))), (Fld.ne F_PENDING_ordinal F_SUSPENDED_ordinal (by simp)), (Ne.symm (Fld.ne F_PENDING_ordinal F_SUSPENDED_ordinal (by simp))), (Fld.ne F_PENDING_ordinal F_ABORTED_ordinal (by simp)), (Ne.symm (Fld.ne F_PENDING_ordinal F_ABORTED_ordinal (by simp))), (Fld.ne F_PENDING_ordinal F_ARCHIVED_ordinal (by simp)), (Ne.symm (Fld.ne F_PENDING_ordinal F_ARCHIVED_ordinal (by simp))), (Fld.ne F_PENDING_ordinal F_UNKNOWN_ordinal (by simp)), (Ne.symm (Fld.ne F_PENDING_ordinal F_UNKNOWN_ordinal (by simp))), (Fld.ne F_COMPLETED_ordinal F_QUEUED_ordinal (by simp)), (Ne.symm (Fld.ne F_COMPLETED_ordinal F_QUEUED_ordinal (by simp))), (Fld.ne F_COMPLETED_ordinal F_EXECUTING_ordinal (by simp)), (Ne.symm (Fld.ne F_COMPLETED_ordinal F_EXECUTING_ordinal (by simp))), (Fld.ne F_COMPLETED_ordinal F_HELD_ordinal (by simp)), (Ne.symm (Fld.ne F_COMPLETED_ordinal F_HELD_ordinal (by simp))), (Fld.ne F_COMPLETED_ordinal F_ERROR_ordinal (by simp)), (Ne.symm (Fld.ne F_COMPLETED_ordinal F_ERROR_ordinal (by simp))), (Fld.ne F_COMPLETED_ordinal F_SUSPENDED_ordinal (by simp)), (Ne.symm (Fld.ne F_COMPLETED_ordinal F_SUSPENDED_ordinal (by simp))), (Fld.ne F_COMPLETED_ordinal F_ABORTED_ordinal (by simp)), (Ne.symm (Fld.ne F_COMPLETED_ordinal F_ABORTED_ordinal (by simp))), (Fld.ne F_COMPLETED_ordinal F_ARCHIVED_ordinal (by simp)), (Ne.symm (Fld.ne F_COMPLETED_ordinal F_ARCHIVED_ordinal (by simp))), (Fld.ne F_COMPLETED_ordinal F_UNKNOWN_ordinal (by simp)), (Ne.symm (Fld.ne F_COMPLETED_ordinal F_UNKNOWN_ordinal (by simp))), (Fld.ne F_QUEUED_ordinal F_EXECUTING_ordinal (by simp)), (Ne.symm (Fld.ne F_QUEUED_ordinal F_EXECUTING_ordinal (by simp))), (Fld.ne F_QUEUED_ordinal F_HELD_ordinal (by simp)), (Ne.symm (Fld.ne F_QUEUED_ordinal F_HELD_ordinal (by simp))), (Fld.ne F_QUEUED_ordinal F_ERROR_ordinal (by simp)), (Ne.symm (Fld.ne F_QUEUED_ordinal F_ERROR_ordinal (by simp))), (Fld.ne F_QUEUED_ordinal F_SUSPENDED_ordinal (by simp)), (Ne.symm (Fld.ne F_QUEUED_ordinal F_SUSPENDED_ordinal (by simp))), (Fld.ne F_QUEUED_ordinal F_ABORTED_ordinal (by simp)), (Ne.symm (Fld.ne F_QUEUED_ordinal F_ABORTED_ordinal (by simp))), (Fld.ne F_QUEUED_ordinal F_ARCHIVED_ordinal (by simp)), (Ne.symm (Fld.ne F_QUEUED_ordinal F_ARCHIVED_ordinal (by simp))), (Fld.ne F_QUEUED_ordinal F_UNKNOWN_ordinal (by simp)), (Ne.symm (Fld.ne F_QUEUED_ordinal F_UNKNOWN_ordinal (by simp))), (Fld.ne F_EXECUTING_ordinal F_HELD_ordinal (by simp)), (Ne.symm (Fld.ne F_EXECUTING_ordinal F_HELD_ordinal (by simp))), (Fld.ne F_EXECUTING_ordinal F_ERROR_ordinal (by simp)), (Ne.symm (Fld.ne F_EXECUTING_ordinal F_ERROR_ordinal (by simp))), (Fld.ne F_EXECUTING_ordinal F_SUSPENDED_ordinal (by simp)), (Ne.symm (Fld.ne F_EXECUTING_ordinal F_SUSPENDED_ordinal (by simp))), (Fld.ne F_EXECUTING_ordinal F_ABORTED_ordinal (by simp)), (Ne.symm (Fld.ne F_EXECUTING_ordinal F_ABORTED_ordinal (by simp))), (Fld.ne F_EXECUTING_ordinal F_ARCHIVED_ordinal (by simp)), (Ne.symm (Fld.ne F_EXECUTING_ordinal F_ARCHIVED_ordinal (by simp))), (Fld.ne F_EXECUTING_ordinal F_UNKNOWN_ordinal (by simp)), (Ne.symm (Fld.ne F_EXECUTING_ordinal F_UNKNOWN_ordinal (by simp))), (Fld.ne F_HELD_ordinal F_ERROR_ordinal (by simp)), (Ne.symm (Fld.ne F_HELD_ordinal F_ERROR_ordinal (by simp))), (Fld.ne F_HELD_ordinal F_SUSPENDED_ordinal (by simp)), (Ne.symm (Fld.ne F_HELD_ordinal F_SUSPENDED_ordinal (by simp))), (Fld.ne F_HELD_ordinal F_ABORTED_ordinal (by simp)), (Ne.symm (Fld.ne F_HELD_ordinal F_ABORTED_ordinal (by simp))), (Fld.ne F_HELD_ordinal F_ARCHIVED_ordinal (by simp)), (Ne.symm (Fld.ne F_HELD_ordinal F_ARCHIVED_ordinal (by simp))), (Fld.ne F_HELD_ordinal F_UNKNOWN_ordinal (by simp)), (Ne.symm (Fld.ne F_HELD_ordinal F_UNKNOWN_ordinal (by simp))), (Fld.ne F_ERROR_ordinal F_SUSPENDED_ordinal (by simp)), (Ne.symm (Fld.ne F_ERROR_ordinal F_SUSPENDED_ordinal (by simp))), (Fld.ne F_ERROR_ordinal F_ABORTED_ordinal (by simp)), (Ne.symm (Fld.ne F_ERROR_ordinal F_ABORTED_ordinal (by simp))), (Fld.ne F_ERROR_ordinal F_ARCHIVED_ordinal (by simp)), (Ne.symm (Fld.ne F_ERROR_ordinal F_ARCHIVED_ordinal (by simp))), (Fld.ne F_ERROR_ordinal F_UNKNOWN_ordinal (by simp)), (Ne.symm (Fld.ne F_ERROR_ordinal F_UNKNOWN_ordinal (by simp))), (Fld.ne F_SUSPENDED_ordinal F_ABORTED_ordinal (by simp)), (Ne.symm (Fld.ne F_SUSPENDED_ordinal F_ABORTED_ordinal (by simp))), (Fld.ne F_SUSPENDED_ordinal F_ARCHIVED_ordinal (by simp)), (Ne.symm (Fld.ne F_SUSPENDED_ordinal F_ARCHIVED_ordinal (by simp))), (Fld.ne F_SUSPENDED_ordinal F_UNKNOWN_ordinal (by simp)), (Ne.symm (Fld.ne F_SUSPENDED_ordinal F_UNKNOWN_ordinal (by simp))), (Fld.ne F_ABORTED_ordinal F_ARCHIVED_ordinal (by simp)), (Ne.symm (Fld.ne F_ABORTED_ordinal F_ARCHIVED_ordinal (by simp))), (Fld.ne F_ABORTED_ordinal F_UNKNOWN_ordinal (by simp)), (Ne.symm (Fld.ne F_ABORTED_ordinal F_UNKNOWN_ordinal (by simp))), (Fld.ne F_ARCHIVED_ordinal F_UNKNOWN_ordinal (by simp)), (Ne.symm (Fld.ne F_ARCHIVED_ordinal F_UNKNOWN_ordinal (by simp)))])) hZ (hw _ (List.mem_of_getElem? (i := 28) rfl)) (hw _ (List.mem_of_getElem? (i := 6) rfl)) (by decide) (by decide)) q9a q9c (g := (mkF m 55 #[.val (.int p1), .val (.int (3 : Int32)), .val (.ref a_COMPLETED), .val (.int (1 : Int32)), .val (.int (1 : Int32))] [(.ref a_COMPLETED)])) rfl (by rw [hml]; rfl) (Steps.refl _) (argsL := []) (rest := []) (lenOf pd_2 rfl) rfl (by show 2 * 0 + _ ≤ _; exact Nat.le_of_eq rfl) (hb hby at_55) (fun _ _ => ⟨rfl, e8, (by decide : 0 + 0 ≤ _), (by decide : 0 + 0 ≤ _)⟩)
    dsimp only [Pt.U, Pt.locs, Pt.cells, Pt.slots] at X9 l9 y9 z9 st9 hQ9
    subst l9 y9 z9
    obtain ⟨rfl, Nq9, e9⟩ := hQ9
    have N9 := Fr.app N8 Nq9
    refine Go.step (fun t_ k_ => st9.trans k_) ?_
    show Go p e below _ (T9.setTop (mkF m 58 #[.val (.int p1), .val (.int (3 : Int32)), .val (.ref a_COMPLETED), .val (.int (1 : Int32)), .val (.int (1 : Int32))] [(.int (0 : Int32))]))
    have hc58 : (0 : Int32) = (0 : Int32) := by decide
    refine Go.step (fun t_ k_ => XS.ifNo X9.here hx rfl (hb hby at_58) rfl ((if0 _ _).trans (teq hc58).2) k_) ?_
    show Go p e below _ (T9.setTop (mkF m 61 #[.val (.int p1), .val (.int (3 : Int32)), .val (.ref a_COMPLETED), .val (.int (1 : Int32)), .val (.int (1 : Int32))] []))
    refine Go.step (fun t_ k_ => XS.aloadN X9.here hx rfl (hb hby at_61) rfl rfl k_) ?_
    show Go p e below _ (T9.setTop (mkF m 62 #[.val (.int p1), .val (.int (3 : Int32)), .val (.ref a_COMPLETED), .val (.int (1 : Int32)), .val (.int (1 : Int32))] [(.ref a_COMPLETED)]))
    obtain ⟨cq10, kq10, q10a, q10b, q10c⟩ := isOf hZ e9 (E_COMPLETED.ext Ol.2)
    obtain ⟨_, _, ⟨T10, L10, k10, n10⟩, -, X10, ⟨Lc10, hQ10, l10, y10, z10⟩, st10⟩ := X9.virtualBack hx (y := (⟨"com/example/exposure/exposure/ExecutionPhase", "canStart", "()Z"⟩ : MethodName)) (z := (⟨"com/example/exposure/exposure/ExecutionPhase", "canStart", "()Z"⟩ : MethodName)) hown (mvT hZ (hw _ (List.mem_of_getElem? (i := 34) rfl))) (mvT hZ (hw _ (List.mem_of_getElem? (i := 35) rfl))) (notFace_of_selects (args := #[]) (mvT hZ (hw _ (List.mem_of_getElem? (i := 37) rfl)))) (mvT hZ (hw _ (List.mem_of_getElem? (i := 37) rfl))) (mvT hZ (hw _ (List.mem_of_getElem? (i := 36) rfl))) (by decide) (backOf (W := 0) (rm5 l Z a0 hw [] a_PENDING a_COMPLETED a_QUEUED a_EXECUTING a_HELD a_ERROR a_SUSPENDED a_ABORTED a_ARCHIVED a_UNKNOWN HW a_COMPLETED (0 : Int32) h0 n0 Ol (by simp [(Fld.ne F_PENDING_ordinal F_COMPLETED_ordinal (by simp)), (Ne.symm (Fld.ne F_PENDING_ordinal F_COMPLETED_ordinal (by simp))), (Fld.ne F_PENDING_ordinal F_QUEUED_ordinal (by simp)), (Ne.symm (Fld.ne F_PENDING_ordinal F_QUEUED_ordinal (by simp))), (Fld.ne F_PENDING_ordinal F_EXECUTING_ordinal (by simp)), (Ne.symm (Fld.ne F_PENDING_ordinal F_EXECUTING_ordinal (by simp))), (Fld.ne F_PENDING_ordinal F_HELD_ordinal (by simp)), (Ne.symm (Fld.ne F_PENDING_ordinal F_HELD_ordinal (by simp))), (Fld.ne F_PENDING_ordinal F_ERROR_ordinal (by simp)), (Ne.symm (Fld.ne F_PENDING_ordinal F_ERROR_ordinal (by simp))), (Fld.ne F_PENDING_ordinal F_SUSPENDED_ordinal (by simp)), (Ne.symm (Fld.ne F_PENDING_ordinal F_SUSPENDED_ordinal (by simp))), (Fld.ne F_PENDING_ordinal F_ABORTED_ordinal (by simp)), (Ne.symm (Fld.ne F_PENDING_ordinal F_ABORTED_ordinal (by simp))), (Fld.ne F_PENDING_ordinal F_ARCHIVED_ordinal (by simp)), (Ne.symm (Fld.ne F_PENDING_ordinal F_ARCHIVED_ordinal (by simp))), (Fld.ne F_PENDING_ordinal F_UNKNOWN_ordinal (by simp)), (Ne.symm (Fld.ne F_PENDING_ordinal F_UNKNOWN_ordinal (by simp))), (Fld.ne F_COMPLETED_ordinal F_QUEUED_ordinal (by simp)), (Ne.symm (Fld.ne F_COMPLETED_ordinal F_QUEUED_ordinal (by simp))), (Fld.ne F_COMPLETED_ordinal F_EXECUTING_ordinal (by simp)), (Ne.symm (Fld.ne F_COMPLETED_ordinal F_EXECUTING_ordinal (by simp))), (Fld.ne F_COMPLETED_ordinal F_HELD_ordinal (by simp)), (Ne.symm (Fld.ne F_COMPLETED_ordinal F_HELD_ordinal (by simp))), (Fld.ne F_COMPLETED_ordinal F_ERROR_ordinal (by simp)), (Ne.symm (Fld.ne F_COMPLETED_ordinal F_ERROR_ordinal (by simp))), (Fld.ne F_COMPLETED_ordinal F_SUSPENDED_ordinal (by simp)), (Ne.symm (Fld.ne F_COMPLETED_ordinal F_SUSPENDED_ordinal (by simp))), (Fld.ne F_COMPLETED_ordinal F_ABORTED_ordinal (by simp)), (Ne.symm (Fld.ne F_COMPLETED_ordinal F_ABORTED_ordinal (by simp))), (Fld.ne F_COMPLETED_ordinal F_ARCHIVED_ordinal (by simp)), (Ne.symm (Fld.ne F_COMPLETED_ordinal F_ARCHIVED_ordinal (by simp))), (Fld.ne F_COMPLETED_ordinal F_UNKNOWN_ordinal (by simp)), (Ne.symm (Fld.ne F_COMPLETED_ordinal F_UNKNOWN_ordinal (by simp))), (Fld.ne F_QUEUED_ordinal F_EXECUTING_ordinal (by simp)), (Ne.symm (Fld.ne F_QUEUED_ordinal F_EXECUTING_ordinal (by simp))), (Fld.ne F_QUEUED_ordinal F_HELD_ordinal (by simp)), (Ne.symm (Fld.ne F_QUEUED_ordinal F_HELD_ordinal (by simp))), (Fld.ne F_QUEUED_ordinal F_ERROR_ordinal (by simp)), (Ne.symm (Fld.ne F_QUEUED_ordinal F_ERROR_ordinal (by simp))), (Fld.ne F_QUEUED_ordinal F_SUSPENDED_ordinal (by simp)), (Ne.symm (Fld.ne F_QUEUED_ordinal F_SUSPENDED_ordinal (by simp))), (Fld.ne F_QUEUED_ordinal F_ABORTED_ordinal (by simp)), (Ne.symm (Fld.ne F_QUEUED_ordinal F_ABORTED_ordinal (by simp))), (Fld.ne F_QUEUED_ordinal F_ARCHIVED_ordinal (by simp)), (Ne.symm (Fld.ne F_QUEUED_ordinal F_ARCHIVED_ordinal (by simp))), (Fld.ne F_QUEUED_ordinal F_UNKNOWN_ordinal (by simp)), (Ne.symm (Fld.ne F_QUEUED_ordinal F_UNKNOWN_ordinal (by simp))), (Fld.ne F_EXECUTING_ordinal F_HELD_ordinal (by simp)), (Ne.symm (Fld.ne F_EXECUTING_ordinal F_HELD_ordinal (by simp))), (Fld.ne F_EXECUTING_ordinal F_ERROR_ordinal (by simp)), (Ne.symm (Fld.ne F_EXECUTING_ordinal F_ERROR_ordinal (by simp))), (Fld.ne F_EXECUTING_ordinal F_SUSPENDED_ordinal (by simp)), (Ne.symm (Fld.ne F_EXECUTING_ordinal F_SUSPENDED_ordinal (by simp))), (Fld.ne F_EXECUTING_ordinal F_ABORTED_ordinal (by simp)), (Ne.symm (Fld.ne F_EXECUTING_ordinal F_ABORTED_ordinal (by simp))), (Fld.ne F_EXECUTING_ordinal F_ARCHIVED_ordinal (by simp)), (Ne.symm (Fld.ne F_EXECUTING_ordinal F_ARCHIVED_ordinal (by simp))), (Fld.ne F_EXECUTING_ordinal F_UNKNOWN_ordinal (by simp)), (Ne.symm (Fld.ne F_EXECUTING_ordinal F_UNKNOWN_ordinal (by simp))), (Fld.ne F_HELD_ordinal F_ERROR_ordinal (by simp)), (Ne.symm (Fld.ne F_HELD_ordinal F_ERROR_ordinal (by simp))), (Fld.ne F_HELD_ordinal F_SUSPENDED_ordinal (by simp)), (Ne.symm (Fld.ne F_HELD_ordinal F_SUSPENDED_ordinal (by simp))), (Fld.ne F_HELD_ordinal F_ABORTED_ordinal (by simp)), (Ne.symm (Fld.ne F_HELD_ordinal F_ABORTED_ordinal (by simp))), (Fld.ne F_HELD_ordinal F_ARCHIVED_ordinal (by simp)), (Ne.symm (Fld.ne F_HELD_ordinal F_ARCHIVED_ordinal (by simp))), (Fld.ne F_HELD_ordinal F_UNKNOWN_ordinal (by simp)), (Ne.symm (Fld.ne F_HELD_ordinal F_UNKNOWN_ordinal (by simp))), (Fld.ne F_ERROR_ordinal F_SUSPENDED_ordinal (by simp)), (Ne.symm (Fld.ne F_ERROR_ordinal F_SUSPENDED_ordinal (by simp))), (Fld.ne F_ERROR_ordinal F_ABORTED_ordinal (by simp)), (Ne.symm (Fld.ne F_ERROR_ordinal F_ABORTED_ordinal (by simp))), (Fld.ne F_ERROR_ordinal F_ARCHIVED_ordinal (by simp)), (Ne.symm (Fld.ne F_ERROR_ordinal F_ARCHIVED_ordinal (by simp))), (Fld.ne F_ERROR_ordinal F_UNKNOWN_ordinal (by simp)), (Ne.symm (Fld.ne F_ERROR_ordinal F_UNKNOWN_ordinal (by simp))), (Fld.ne F_SUSPENDED_ordinal F_ABORTED_ordinal (by simp)), (Ne.symm (Fld.ne F_SUSPENDED_ordinal F_ABORTED_ordinal (by simp))), (Fld.ne F_SUSPENDED_ordinal F_ARCHIVED_ordinal (by simp)), (Ne.symm (Fld.ne F_SUSPENDED_ordinal F_ARCHIVED_ordinal (by simp))), (Fld.ne F_SUSPENDED_ordinal F_UNKNOWN_ordinal (by simp)), (Ne.symm (Fld.ne F_SUSPENDED_ordinal F_UNKNOWN_ordinal (by simp))), (Fld.ne F_ABORTED_ordinal F_ARCHIVED_ordinal (by simp)), (Ne.symm (Fld.ne F_ABORTED_ordinal F_ARCHIVED_ordinal (by simp))), (Fld.ne F_ABORTED_ordinal F_UNKNOWN_ordinal (by simp)), (Ne.symm (Fld.ne F_ABORTED_ordinal F_UNKNOWN_ordinal (by simp))), (Fld.ne F_ARCHIVED_ordinal F_UNKNOWN_ordinal (by simp)), (Ne.symm (Fld.ne F_ARCHIVED_ordinal F_UNKNOWN_ordinal (by simp)))])) hZ (hw _ (List.mem_of_getElem? (i := 38) rfl)) (hw _ (List.mem_of_getElem? (i := 6) rfl)) (by decide) (by decide)) q10a q10c (g := (mkF m 62 #[.val (.int p1), .val (.int (3 : Int32)), .val (.ref a_COMPLETED), .val (.int (1 : Int32)), .val (.int (1 : Int32))] [(.ref a_COMPLETED)])) rfl (by rw [hml]; rfl) (Steps.refl _) (argsL := []) (rest := []) (lenOf pd_2 rfl) rfl (by show 2 * 0 + _ ≤ _; exact Nat.le_of_eq rfl) (hb hby at_62) (fun _ _ => ⟨rfl, e9, (by decide : 0 + 0 ≤ _), (by decide : 0 + 0 ≤ _)⟩)
    dsimp only [Pt.U, Pt.locs, Pt.cells, Pt.slots] at X10 l10 y10 z10 st10 hQ10
    subst l10 y10 z10
    obtain ⟨rfl, Nq10, e10⟩ := hQ10
    have N10 := Fr.app N9 Nq10
    refine Go.step (fun t_ k_ => st10.trans k_) ?_
    show Go p e below _ (T10.setTop (mkF m 65 #[.val (.int p1), .val (.int (3 : Int32)), .val (.ref a_COMPLETED), .val (.int (1 : Int32)), .val (.int (1 : Int32))] [(.int (0 : Int32))]))
    have hc65 : (0 : Int32) = (0 : Int32) := by decide
    refine Go.step (fun t_ k_ => XS.ifYes X10.here hx rfl (pc0 := 65) (pc' := 70) rfl (hb hby at_65) rfl ((if0 _ _).trans (teq hc65).1) (by decide) (by decide) k_) ?_
    show Go p e below _ (T10.setTop (mkF m 70 #[.val (.int p1), .val (.int (3 : Int32)), .val (.ref a_COMPLETED), .val (.int (1 : Int32)), .val (.int (1 : Int32))] []))
    refine Go.step (fun t_ k_ => XS.iconst X10.here hx rfl (hb hby at_70) k_) ?_
    show Go p e below _ (T10.setTop (mkF m 71 #[.val (.int p1), .val (.int (3 : Int32)), .val (.ref a_COMPLETED), .val (.int (1 : Int32)), .val (.int (1 : Int32))] [(.int (1 : Int32))]))
    refine Go.retZ X10 hx (t := .boolean) Bd.returns (by simp) Bd.notSynchronized (hb hby at_71) (by rw [e10]; exact ⟨rfl, N10⟩) (by decide) (by decide)
  next =>
    show Go p e below _ (s₁.setTop (mkF m 8 #[.val (.int p1), .val (.int (4 : Int32)), .unset, .unset, .unset] []))
    refine Go.step (fun t_ k_ => XS.iloadN X0.here hx rfl (hb hby at_8) rfl k_) ?_
    show Go p e below _ (s₁.setTop (mkF m 9 #[.val (.int p1), .val (.int (4 : Int32)), .unset, .unset, .unset] [(.int (4 : Int32))]))
    obtain ⟨_, _, ⟨T11, L11, k11, n11⟩, -, X11, ⟨Lc11, hQ11, l11, y11, z11⟩, st11⟩ := Jvm.LawKit.callS X0 hx (y := (⟨"com/example/exposure/exposure/ExecutionPhaseIsFinalPinLaw", "pick", "(I)Lcom/example/exposure/exposure/ExecutionPhase;"⟩ : MethodName)) hown (mvT hZ (hw _ (List.mem_of_getElem? (i := 1) rfl))) (mvT hZ (hw _ (List.mem_of_getElem? (i := 2) rfl))) (mvT hZ (hw _ (List.mem_of_getElem? (i := 3) rfl))) (mvT hZ (hw _ (List.mem_of_getElem? (i := 4) rfl))) (by decide) (backOf (W := 0) (rm1 l Z a0 hw [] a_PENDING a_COMPLETED a_QUEUED a_EXECUTING a_HELD a_ERROR a_SUSPENDED a_ABORTED a_ARCHIVED a_UNKNOWN HW (4 : Int32) a_ERROR h0 n0 Ol (by simp)) hZ (hw _ (List.mem_of_getElem? (i := 4) rfl)) (hw _ (List.mem_of_getElem? (i := 3) rfl)) (by decide) (by decide)) (g := (mkF m 9 #[.val (.int p1), .val (.int (4 : Int32)), .unset, .unset, .unset] [(.int (4 : Int32))])) rfl (by rw [hml]; rfl) (argsL := [(.int (4 : Int32))]) (rest := []) (lenOf pd_1 rfl) rfl (by show 2 * 0 + _ ≤ _; exact Nat.le_of_eq rfl) (hb hby at_9) (fun _ _ => ⟨rfl, e0, (by decide : 0 + 0 ≤ _), (by decide : 0 + 0 ≤ _)⟩)
    dsimp only [Pt.U, Pt.locs, Pt.cells, Pt.slots] at X11 l11 y11 z11 st11 hQ11
    subst l11 y11 z11
    obtain ⟨rfl, Nq11, e11⟩ := hQ11
    have N11 := Fr.app N0 Nq11
    refine Go.step st11 ?_
    show Go p e below _ (T11.setTop (mkF m 12 #[.val (.int p1), .val (.int (4 : Int32)), .unset, .unset, .unset] [(.ref a_ERROR)]))
    refine Go.step (fun t_ k_ => XS.astoreN X11.here hx rfl (hb hby at_12) rfl rfl (l' := #[.val (.int p1), .val (.int (4 : Int32)), .val (.ref a_ERROR), .unset, .unset]) rfl k_) ?_
    show Go p e below _ (T11.setTop (mkF m 13 #[.val (.int p1), .val (.int (4 : Int32)), .val (.ref a_ERROR), .unset, .unset] []))
    refine Go.step (fun t_ k_ => XS.iloadN X11.here hx rfl (hb hby at_13) rfl k_) ?_
    show Go p e below _ (T11.setTop (mkF m 14 #[.val (.int p1), .val (.int (4 : Int32)), .val (.ref a_ERROR), .unset, .unset] [(.int (4 : Int32))]))
    refine Go.step (fun t_ k_ => XS.iconst X11.here hx rfl (hb hby at_14) k_) ?_
    show Go p e below _ (T11.setTop (mkF m 15 #[.val (.int p1), .val (.int (4 : Int32)), .val (.ref a_ERROR), .unset, .unset] [(.int (3 : Int32)), (.int (4 : Int32))]))
    have hc15 : ¬ ((4 : Int32) = (3 : Int32)) := by decide
    refine Go.step (fun t_ k_ => XS.icmpNo X11.here hx rfl (hb hby at_15) rfl (feq hc15).1 k_) ?_
    show Go p e below _ (T11.setTop (mkF m 18 #[.val (.int p1), .val (.int (4 : Int32)), .val (.ref a_ERROR), .unset, .unset] []))
    refine Go.step (fun t_ k_ => XS.iloadN X11.here hx rfl (hb hby at_18) rfl k_) ?_
    show Go p e below _ (T11.setTop (mkF m 19 #[.val (.int p1), .val (.int (4 : Int32)), .val (.ref a_ERROR), .unset, .unset] [(.int (4 : Int32))]))
    refine Go.step (fun t_ k_ => XS.iconst X11.here hx rfl (hb hby at_19) k_) ?_
    show Go p e below _ (T11.setTop (mkF m 20 #[.val (.int p1), .val (.int (4 : Int32)), .val (.ref a_ERROR), .unset, .unset] [(.int (4 : Int32)), (.int (4 : Int32))]))
    have hc20 : (4 : Int32) = (4 : Int32) := by decide
    refine Go.step (fun t_ k_ => XS.icmpYes X11.here hx rfl (pc0 := 20) (pc' := 29) rfl (hb hby at_20) rfl (teq hc20).1 (by decide) (by decide) k_) ?_
    show Go p e below _ (T11.setTop (mkF m 29 #[.val (.int p1), .val (.int (4 : Int32)), .val (.ref a_ERROR), .unset, .unset] []))
    refine Go.step (fun t_ k_ => XS.iconst X11.here hx rfl (hb hby at_29) k_) ?_
    show Go p e below _ (T11.setTop (mkF m 30 #[.val (.int p1), .val (.int (4 : Int32)), .val (.ref a_ERROR), .unset, .unset] [(.int (1 : Int32))]))
    refine Go.step (fun t_ k_ => XS.goto X11.here hx rfl (pc0 := 30) (pc' := 34) rfl (hb hby at_30) (by decide) (by decide) k_) ?_
    show Go p e below _ (T11.setTop (mkF m 34 #[.val (.int p1), .val (.int (4 : Int32)), .val (.ref a_ERROR), .unset, .unset] [(.int (1 : Int32))]))
    refine Go.step (fun t_ k_ => XS.istoreN X11.here hx rfl (hb hby at_34) rfl (l' := #[.val (.int p1), .val (.int (4 : Int32)), .val (.ref a_ERROR), .val (.int (1 : Int32)), .unset]) rfl k_) ?_
    show Go p e below _ (T11.setTop (mkF m 35 #[.val (.int p1), .val (.int (4 : Int32)), .val (.ref a_ERROR), .val (.int (1 : Int32)), .unset] []))
    refine Go.step (fun t_ k_ => XS.aloadN X11.here hx rfl (hb hby at_35) rfl rfl k_) ?_
    show Go p e below _ (T11.setTop (mkF m 36 #[.val (.int p1), .val (.int (4 : Int32)), .val (.ref a_ERROR), .val (.int (1 : Int32)), .unset] [(.ref a_ERROR)]))
    obtain ⟨cq12, kq12, q12a, q12b, q12c⟩ := isOf hZ e11 (E_ERROR.ext Ol.2)
    obtain ⟨_, _, ⟨T12, L12, k12, n12⟩, -, X12, ⟨Lc12, hQ12, l12, y12, z12⟩, st12⟩ := X11.virtualBack hx (y := (⟨"com/example/exposure/exposure/ExecutionPhase", "isFinal", "()Z"⟩ : MethodName)) (z := (⟨"com/example/exposure/exposure/ExecutionPhase", "isFinal", "()Z"⟩ : MethodName)) hown (mvT hZ (hw _ (List.mem_of_getElem? (i := 8) rfl))) (mvT hZ (hw _ (List.mem_of_getElem? (i := 9) rfl))) (notFace_of_selects (args := #[]) (mvT hZ (hw _ (List.mem_of_getElem? (i := 11) rfl)))) (mvT hZ (hw _ (List.mem_of_getElem? (i := 11) rfl))) (mvT hZ (hw _ (List.mem_of_getElem? (i := 10) rfl))) (by decide) (backOf (W := 0) (rm2 l Z a0 hw [] a_PENDING a_COMPLETED a_QUEUED a_EXECUTING a_HELD a_ERROR a_SUSPENDED a_ABORTED a_ARCHIVED a_UNKNOWN HW a_ERROR (4 : Int32) (1 : Int32) h0 n0 Ol F_ERROR_ordinal E_ERROR (by decide) (by simp)) hZ (hw _ (List.mem_of_getElem? (i := 12) rfl)) (hw _ (List.mem_of_getElem? (i := 6) rfl)) (by decide) (by decide)) q12a q12c (g := (mkF m 36 #[.val (.int p1), .val (.int (4 : Int32)), .val (.ref a_ERROR), .val (.int (1 : Int32)), .unset] [(.ref a_ERROR)])) rfl (by rw [hml]; rfl) (Steps.refl _) (argsL := []) (rest := []) (lenOf pd_2 rfl) rfl (by show 2 * 0 + _ ≤ _; exact Nat.le_of_eq rfl) (hb hby at_36) (fun _ _ => ⟨rfl, e11, (by decide : 0 + 0 ≤ _), (by decide : 0 + 0 ≤ _)⟩)
    dsimp only [Pt.U, Pt.locs, Pt.cells, Pt.slots] at X12 l12 y12 z12 st12 hQ12
    subst l12 y12 z12
    obtain ⟨rfl, Nq12, e12⟩ := hQ12
    have N12 := Fr.app N11 Nq12
    refine Go.step (fun t_ k_ => st12.trans k_) ?_
    show Go p e below _ (T12.setTop (mkF m 39 #[.val (.int p1), .val (.int (4 : Int32)), .val (.ref a_ERROR), .val (.int (1 : Int32)), .unset] [(.int (1 : Int32))]))
    refine Go.step (fun t_ k_ => XS.istore X12.here hx rfl (hb hby at_39) rfl (l' := #[.val (.int p1), .val (.int (4 : Int32)), .val (.ref a_ERROR), .val (.int (1 : Int32)), .val (.int (1 : Int32))]) rfl k_) ?_
    show Go p e below _ (T12.setTop (mkF m 41 #[.val (.int p1), .val (.int (4 : Int32)), .val (.ref a_ERROR), .val (.int (1 : Int32)), .val (.int (1 : Int32))] []))
    refine Go.step (fun t_ k_ => XS.iload X12.here hx rfl (hb hby at_41) rfl k_) ?_
    show Go p e below _ (T12.setTop (mkF m 43 #[.val (.int p1), .val (.int (4 : Int32)), .val (.ref a_ERROR), .val (.int (1 : Int32)), .val (.int (1 : Int32))] [(.int (1 : Int32))]))
    refine Go.step (fun t_ k_ => XS.iloadN X12.here hx rfl (hb hby at_43) rfl k_) ?_
    show Go p e below _ (T12.setTop (mkF m 44 #[.val (.int p1), .val (.int (4 : Int32)), .val (.ref a_ERROR), .val (.int (1 : Int32)), .val (.int (1 : Int32))] [(.int (1 : Int32)), (.int (1 : Int32))]))
    have hc44 : (1 : Int32) = (1 : Int32) := by decide
    refine Go.step (fun t_ k_ => XS.icmpYes X12.here hx rfl (pc0 := 44) (pc' := 49) rfl (hb hby at_44) rfl (teq hc44).1 (by decide) (by decide) k_) ?_
    show Go p e below _ (T12.setTop (mkF m 49 #[.val (.int p1), .val (.int (4 : Int32)), .val (.ref a_ERROR), .val (.int (1 : Int32)), .val (.int (1 : Int32))] []))
    refine Go.step (fun t_ k_ => XS.iload X12.here hx rfl (hb hby at_49) rfl k_) ?_
    show Go p e below _ (T12.setTop (mkF m 51 #[.val (.int p1), .val (.int (4 : Int32)), .val (.ref a_ERROR), .val (.int (1 : Int32)), .val (.int (1 : Int32))] [(.int (1 : Int32))]))
    have hc51 : ¬ ((1 : Int32) = (0 : Int32)) := by decide
    refine Go.step (fun t_ k_ => XS.ifNo X12.here hx rfl (hb hby at_51) rfl ((if0 _ _).trans (feq hc51).1) k_) ?_
    show Go p e below _ (T12.setTop (mkF m 54 #[.val (.int p1), .val (.int (4 : Int32)), .val (.ref a_ERROR), .val (.int (1 : Int32)), .val (.int (1 : Int32))] []))
    refine Go.step (fun t_ k_ => XS.aloadN X12.here hx rfl (hb hby at_54) rfl rfl k_) ?_
    show Go p e below _ (T12.setTop (mkF m 55 #[.val (.int p1), .val (.int (4 : Int32)), .val (.ref a_ERROR), .val (.int (1 : Int32)), .val (.int (1 : Int32))] [(.ref a_ERROR)]))
    obtain ⟨cq13, kq13, q13a, q13b, q13c⟩ := isOf hZ e12 (E_ERROR.ext Ol.2)
    obtain ⟨_, _, ⟨T13, L13, k13, n13⟩, -, X13, ⟨Lc13, hQ13, l13, y13, z13⟩, st13⟩ := X12.virtualBack hx (y := (⟨"com/example/exposure/exposure/ExecutionPhase", "isActive", "()Z"⟩ : MethodName)) (z := (⟨"com/example/exposure/exposure/ExecutionPhase", "isActive", "()Z"⟩ : MethodName)) hown (mvT hZ (hw _ (List.mem_of_getElem? (i := 24) rfl))) (mvT hZ (hw _ (List.mem_of_getElem? (i := 25) rfl))) (notFace_of_selects (args := #[]) (mvT hZ (hw _ (List.mem_of_getElem? (i := 27) rfl)))) (mvT hZ (hw _ (List.mem_of_getElem? (i := 27) rfl))) (mvT hZ (hw _ (List.mem_of_getElem? (i := 26) rfl))) (by decide) (backOf (W := 0) (rm4 l Z a0 hw [] a_PENDING a_COMPLETED a_QUEUED a_EXECUTING a_HELD a_ERROR a_SUSPENDED a_ABORTED a_ARCHIVED a_UNKNOWN HW a_ERROR (0 : Int32) h0 n0 Ol (by simp [(Fld.ne F_PENDING_ordinal F_COMPLETED_ordinal (by simp)), (Ne.symm (Fld.ne F_PENDING_ordinal F_COMPLETED_ordinal (by simp))), (Fld.ne F_PENDING_ordinal F_QUEUED_ordinal (by simp)), (Ne.symm (Fld.ne F_PENDING_ordinal F_QUEUED_ordinal (by simp))), (Fld.ne F_PENDING_ordinal F_EXECUTING_ordinal (by simp)), (Ne.symm (Fld.ne F_PENDING_ordinal F_EXECUTING_ordinal (by simp))), (Fld.ne F_PENDING_ordinal F_HELD_ordinal (by simp)), (Ne.symm (Fld.ne F_PENDING_ordinal F_HELD_ordinal (by simp))), (Fld.ne F_PENDING_ordinal F_ERROR_ordinal (by simp)), (Ne.symm (Fld.ne F_PENDING_ordinal F_ERROR_ordinal (by simp))), (Fld.ne F_PENDING_ordinal F_SUSPENDED_ordinal (by simp)), (Ne.symm (Fld.ne F_PENDING_ordinal F_SUSPENDED_ordinal (by simp))), (Fld.ne F_PENDING_ordinal F_ABORTED_ordinal (by simp)), (Ne.symm (Fld.ne F_PENDING_ordinal F_ABORTED_ordinal (by simp))), (Fld.ne F_PENDING_ordinal F_ARCHIVED_ordinal (by simp)), (Ne.symm (Fld.ne F_PENDING_ordinal F_ARCHIVED_ordinal (by simp))), (Fld.ne F_PENDING_ordinal F_UNKNOWN_ordinal (by simp)), (Ne.symm (Fld.ne F_PENDING_ordinal F_UNKNOWN_ordinal (by simp))), (Fld.ne F_COMPLETED_ordinal F_QUEUED_ordinal (by simp)), (Ne.symm (Fld.ne F_COMPLETED_ordinal F_QUEUED_ordinal (by simp))), (Fld.ne F_COMPLETED_ordinal F_EXECUTING_ordinal (by simp)), (Ne.symm (Fld.ne F_COMPLETED_ordinal F_EXECUTING_ordinal (by simp))), (Fld.ne F_COMPLETED_ordinal F_HELD_ordinal (by simp)), (Ne.symm (Fld.ne F_COMPLETED_ordinal F_HELD_ordinal (by simp))), (Fld.ne F_COMPLETED_ordinal F_ERROR_ordinal (by simp)), (Ne.symm (Fld.ne F_COMPLETED_ordinal F_ERROR_ordinal (by simp))), (Fld.ne F_COMPLETED_ordinal F_SUSPENDED_ordinal (by simp)), (Ne.symm (Fld.ne F_COMPLETED_ordinal F_SUSPENDED_ordinal (by simp))), (Fld.ne F_COMPLETED_ordinal F_ABORTED_ordinal (by simp)), (Ne.symm (Fld.ne F_COMPLETED_ordinal F_ABORTED_ordinal (by simp))), (Fld.ne F_COMPLETED_ordinal F_ARCHIVED_ordinal (by simp)), (Ne.symm (Fld.ne F_COMPLETED_ordinal F_ARCHIVED_ordinal (by simp))), (Fld.ne F_COMPLETED_ordinal F_UNKNOWN_ordinal (by simp)), (Ne.symm (Fld.ne F_COMPLETED_ordinal F_UNKNOWN_ordinal (by simp))), (Fld.ne F_QUEUED_ordinal F_EXECUTING_ordinal (by simp)), (Ne.symm (Fld.ne F_QUEUED_ordinal F_EXECUTING_ordinal (by simp))), (Fld.ne F_QUEUED_ordinal F_HELD_ordinal (by simp)), (Ne.symm (Fld.ne F_QUEUED_ordinal F_HELD_ordinal (by simp))), (Fld.ne F_QUEUED_ordinal F_ERROR_ordinal (by simp)), (Ne.symm (Fld.ne F_QUEUED_ordinal F_ERROR_ordinal (by simp))), (Fld.ne F_QUEUED_ordinal F_SUSPENDED_ordinal (by simp)), (Ne.symm (Fld.ne F_QUEUED_ordinal F_SUSPENDED_ordinal (by simp))), (Fld.ne F_QUEUED_ordinal F_ABORTED_ordinal (by simp)), (Ne.symm (Fld.ne F_QUEUED_ordinal F_ABORTED_ordinal (by simp))), (Fld.ne F_QUEUED_ordinal F_ARCHIVED_ordinal (by simp)), (Ne.symm (Fld.ne F_QUEUED_ordinal F_ARCHIVED_ordinal (by simp))), (Fld.ne F_QUEUED_ordinal F_UNKNOWN_ordinal (by simp)), (Ne.symm (Fld.ne F_QUEUED_ordinal F_UNKNOWN_ordinal (by simp))), (Fld.ne F_EXECUTING_ordinal F_HELD_ordinal (by simp)), (Ne.symm (Fld.ne F_EXECUTING_ordinal F_HELD_ordinal (by simp))), (Fld.ne F_EXECUTING_ordinal F_ERROR_ordinal (by simp)), (Ne.symm (Fld.ne F_EXECUTING_ordinal F_ERROR_ordinal (by simp))), (Fld.ne F_EXECUTING_ordinal F_SUSPENDED_ordinal (by simp)), (Ne.symm (Fld.ne F_EXECUTING_ordinal F_SUSPENDED_ordinal (by simp))), (Fld.ne F_EXECUTING_ordinal F_ABORTED_ordinal (by simp)), (Ne.symm (Fld.ne F_EXECUTING_ordinal F_ABORTED_ordinal (by simp))), (Fld.ne F_EXECUTING_ordinal F_ARCHIVED_ordinal (by simp)), (Ne.symm (Fld.ne F_EXECUTING_ordinal F_ARCHIVED_ordinal (by simp))), (Fld.ne F_EXECUTING_ordinal F_UNKNOWN_ordinal (by simp)), (Ne.symm (Fld.ne F_EXECUTING_ordinal F_UNKNOWN_ordinal (by simp))), (Fld.ne F_HELD_ordinal F_ERROR_ordinal (by simp)), (Ne.symm (Fld.ne F_HELD_ordinal F_ERROR_ordinal (by simp))), (Fld.ne F_HELD_ordinal F_SUSPENDED_ordinal (by simp)), (Ne.symm (Fld.ne F_HELD_ordinal F_SUSPENDED_ordinal (by simp))), (Fld.ne F_HELD_ordinal F_ABORTED_ordinal (by simp)), (Ne.symm (Fld.ne F_HELD_ordinal F_ABORTED_ordinal (by simp))), (Fld.ne F_HELD_ordinal F_ARCHIVED_ordinal (by simp)), (Ne.symm (Fld.ne F_HELD_ordinal F_ARCHIVED_ordinal (by simp))), (Fld.ne F_HELD_ordinal F_UNKNOWN_ordinal (by simp)), (Ne.symm (Fld.ne F_HELD_ordinal F_UNKNOWN_ordinal (by simp))), (Fld.ne F_ERROR_ordinal F_SUSPENDED_ordinal (by simp)), (Ne.symm (Fld.ne F_ERROR_ordinal F_SUSPENDED_ordinal (by simp))), (Fld.ne F_ERROR_ordinal F_ABORTED_ordinal (by simp)), (Ne.symm (Fld.ne F_ERROR_ordinal F_ABORTED_ordinal (by simp))), (Fld.ne F_ERROR_ordinal F_ARCHIVED_ordinal (by simp)), (Ne.symm (Fld.ne F_ERROR_ordinal F_ARCHIVED_ordinal (by simp))), (Fld.ne F_ERROR_ordinal F_UNKNOWN_ordinal (by simp)), (Ne.symm (Fld.ne F_ERROR_ordinal F_UNKNOWN_ordinal (by simp))), (Fld.ne F_SUSPENDED_ordinal F_ABORTED_ordinal (by simp)), (Ne.symm (Fld.ne F_SUSPENDED_ordinal F_ABORTED_ordinal (by simp))), (Fld.ne F_SUSPENDED_ordinal F_ARCHIVED_ordinal (by simp)), (Ne.symm (Fld.ne F_SUSPENDED_ordinal F_ARCHIVED_ordinal (by simp))), (Fld.ne F_SUSPENDED_ordinal F_UNKNOWN_ordinal (by simp)), (Ne.symm (Fld.ne F_SUSPENDED_ordinal F_UNKNOWN_ordinal (by simp))), (Fld.ne F_ABORTED_ordinal F_ARCHIVED_ordinal (by simp)), (Ne.symm (Fld.ne F_ABORTED_ordinal F_ARCHIVED_ordinal (by simp))), (Fld.ne F_ABORTED_ordinal F_UNKNOWN_ordinal (by simp)), (Ne.symm (Fld.ne F_ABORTED_ordinal F_UNKNOWN_ordinal (by simp))), (Fld.ne F_ARCHIVED_ordinal F_UNKNOWN_ordinal (by simp)), (Ne.symm (Fld.ne F_ARCHIVED_ordinal F_UNKNOWN_ordinal (by simp)))])) hZ (hw _ (List.mem_of_getElem? (i := 28) rfl)) (hw _ (List.mem_of_getElem? (i := 6) rfl)) (by decide) (by decide)) q13a q13c (g := (mkF m 55 #[.val (.int p1), .val (.int (4 : Int32)), .val (.ref a_ERROR), .val (.int (1 : Int32)), .val (.int (1 : Int32))] [(.ref a_ERROR)])) rfl (by rw [hml]; rfl) (Steps.refl _) (argsL := []) (rest := []) (lenOf pd_2 rfl) rfl (by show 2 * 0 + _ ≤ _; exact Nat.le_of_eq rfl) (hb hby at_55) (fun _ _ => ⟨rfl, e12, (by decide : 0 + 0 ≤ _), (by decide : 0 + 0 ≤ _)⟩)
    dsimp only [Pt.U, Pt.locs, Pt.cells, Pt.slots] at X13 l13 y13 z13 st13 hQ13
    subst l13 y13 z13
    obtain ⟨rfl, Nq13, e13⟩ := hQ13
    have N13 := Fr.app N12 Nq13
    refine Go.step (fun t_ k_ => st13.trans k_) ?_
    show Go p e below _ (T13.setTop (mkF m 58 #[.val (.int p1), .val (.int (4 : Int32)), .val (.ref a_ERROR), .val (.int (1 : Int32)), .val (.int (1 : Int32))] [(.int (0 : Int32))]))
    have hc58 : (0 : Int32) = (0 : Int32) := by decide
    refine Go.step (fun t_ k_ => XS.ifNo X13.here hx rfl (hb hby at_58) rfl ((if0 _ _).trans (teq hc58).2) k_) ?_
    show Go p e below _ (T13.setTop (mkF m 61 #[.val (.int p1), .val (.int (4 : Int32)), .val (.ref a_ERROR), .val (.int (1 : Int32)), .val (.int (1 : Int32))] []))
    refine Go.step (fun t_ k_ => XS.aloadN X13.here hx rfl (hb hby at_61) rfl rfl k_) ?_
    show Go p e below _ (T13.setTop (mkF m 62 #[.val (.int p1), .val (.int (4 : Int32)), .val (.ref a_ERROR), .val (.int (1 : Int32)), .val (.int (1 : Int32))] [(.ref a_ERROR)]))
    obtain ⟨cq14, kq14, q14a, q14b, q14c⟩ := isOf hZ e13 (E_ERROR.ext Ol.2)
    obtain ⟨_, _, ⟨T14, L14, k14, n14⟩, -, X14, ⟨Lc14, hQ14, l14, y14, z14⟩, st14⟩ := X13.virtualBack hx (y := (⟨"com/example/exposure/exposure/ExecutionPhase", "canStart", "()Z"⟩ : MethodName)) (z := (⟨"com/example/exposure/exposure/ExecutionPhase", "canStart", "()Z"⟩ : MethodName)) hown (mvT hZ (hw _ (List.mem_of_getElem? (i := 34) rfl))) (mvT hZ (hw _ (List.mem_of_getElem? (i := 35) rfl))) (notFace_of_selects (args := #[]) (mvT hZ (hw _ (List.mem_of_getElem? (i := 37) rfl)))) (mvT hZ (hw _ (List.mem_of_getElem? (i := 37) rfl))) (mvT hZ (hw _ (List.mem_of_getElem? (i := 36) rfl))) (by decide) (backOf (W := 0) (rm5 l Z a0 hw [] a_PENDING a_COMPLETED a_QUEUED a_EXECUTING a_HELD a_ERROR a_SUSPENDED a_ABORTED a_ARCHIVED a_UNKNOWN HW a_ERROR (0 : Int32) h0 n0 Ol (by simp [(Fld.ne F_PENDING_ordinal F_COMPLETED_ordinal (by simp)), (Ne.symm (Fld.ne F_PENDING_ordinal F_COMPLETED_ordinal (by simp))), (Fld.ne F_PENDING_ordinal F_QUEUED_ordinal (by simp)), (Ne.symm (Fld.ne F_PENDING_ordinal F_QUEUED_ordinal (by simp))), (Fld.ne F_PENDING_ordinal F_EXECUTING_ordinal (by simp)), (Ne.symm (Fld.ne F_PENDING_ordinal F_EXECUTING_ordinal (by simp))), (Fld.ne F_PENDING_ordinal F_HELD_ordinal (by simp)), (Ne.symm (Fld.ne F_PENDING_ordinal F_HELD_ordinal (by simp))), (Fld.ne F_PENDING_ordinal F_ERROR_ordinal (by simp)), (Ne.symm (Fld.ne F_PENDING_ordinal F_ERROR_ordinal (by simp))), (Fld.ne F_PENDING_ordinal F_SUSPENDED_ordinal (by simp)), (Ne.symm (Fld.ne F_PENDING_ordinal F_SUSPENDED_ordinal (by simp))), (Fld.ne F_PENDING_ordinal F_ABORTED_ordinal (by simp)), (Ne.symm (Fld.ne F_PENDING_ordinal F_ABORTED_ordinal (by simp))), (Fld.ne F_PENDING_ordinal F_ARCHIVED_ordinal (by simp)), (Ne.symm (Fld.ne F_PENDING_ordinal F_ARCHIVED_ordinal (by simp))), (Fld.ne F_PENDING_ordinal F_UNKNOWN_ordinal (by simp)), (Ne.symm (Fld.ne F_PENDING_ordinal F_UNKNOWN_ordinal (by simp))), (Fld.ne F_COMPLETED_ordinal F_QUEUED_ordinal (by simp)), (Ne.symm (Fld.ne F_COMPLETED_ordinal F_QUEUED_ordinal (by simp))), (Fld.ne F_COMPLETED_ordinal F_EXECUTING_ordinal (by simp)), (Ne.symm (Fld.ne F_COMPLETED_ordinal F_EXECUTING_ordinal (by simp))), (Fld.ne F_COMPLETED_ordinal F_HELD_ordinal (by simp)), (Ne.symm (Fld.ne F_COMPLETED_ordinal F_HELD_ordinal (by simp))), (Fld.ne F_COMPLETED_ordinal F_ERROR_ordinal (by simp)), (Ne.symm (Fld.ne F_COMPLETED_ordinal F_ERROR_ordinal (by simp))), (Fld.ne F_COMPLETED_ordinal F_SUSPENDED_ordinal (by simp)), (Ne.symm (Fld.ne F_COMPLETED_ordinal F_SUSPENDED_ordinal (by simp))), (Fld.ne F_COMPLETED_ordinal F_ABORTED_ordinal (by simp)), (Ne.symm (Fld.ne F_COMPLETED_ordinal F_ABORTED_ordinal (by simp))), (Fld.ne F_COMPLETED_ordinal F_ARCHIVED_ordinal (by simp)), (Ne.symm (Fld.ne F_COMPLETED_ordinal F_ARCHIVED_ordinal (by simp))), (Fld.ne F_COMPLETED_ordinal F_UNKNOWN_ordinal (by simp)), (Ne.symm (Fld.ne F_COMPLETED_ordinal F_UNKNOWN_ordinal (by simp))), (Fld.ne F_QUEUED_ordinal F_EXECUTING_ordinal (by simp)), (Ne.symm (Fld.ne F_QUEUED_ordinal F_EXECUTING_ordinal (by simp))), (Fld.ne F_QUEUED_ordinal F_HELD_ordinal (by simp)), (Ne.symm (Fld.ne F_QUEUED_ordinal F_HELD_ordinal (by simp))), (Fld.ne F_QUEUED_ordinal F_ERROR_ordinal (by simp)), (Ne.symm (Fld.ne F_QUEUED_ordinal F_ERROR_ordinal (by simp))), (Fld.ne F_QUEUED_ordinal F_SUSPENDED_ordinal (by simp)), (Ne.symm (Fld.ne F_QUEUED_ordinal F_SUSPENDED_ordinal (by simp))), (Fld.ne F_QUEUED_ordinal F_ABORTED_ordinal (by simp)), (Ne.symm (Fld.ne F_QUEUED_ordinal F_ABORTED_ordinal (by simp))), (Fld.ne F_QUEUED_ordinal F_ARCHIVED_ordinal (by simp)), (Ne.symm (Fld.ne F_QUEUED_ordinal F_ARCHIVED_ordinal (by simp))), (Fld.ne F_QUEUED_ordinal F_UNKNOWN_ordinal (by simp)), (Ne.symm (Fld.ne F_QUEUED_ordinal F_UNKNOWN_ordinal (by simp))), (Fld.ne F_EXECUTING_ordinal F_HELD_ordinal (by simp)), (Ne.symm (Fld.ne F_EXECUTING_ordinal F_HELD_ordinal (by simp))), (Fld.ne F_EXECUTING_ordinal F_ERROR_ordinal (by simp)), (Ne.symm (Fld.ne F_EXECUTING_ordinal F_ERROR_ordinal (by simp))), (Fld.ne F_EXECUTING_ordinal F_SUSPENDED_ordinal (by simp)), (Ne.symm (Fld.ne F_EXECUTING_ordinal F_SUSPENDED_ordinal (by simp))), (Fld.ne F_EXECUTING_ordinal F_ABORTED_ordinal (by simp)), (Ne.symm (Fld.ne F_EXECUTING_ordinal F_ABORTED_ordinal (by simp))), (Fld.ne F_EXECUTING_ordinal F_ARCHIVED_ordinal (by simp)), (Ne.symm (Fld.ne F_EXECUTING_ordinal F_ARCHIVED_ordinal (by simp))), (Fld.ne F_EXECUTING_ordinal F_UNKNOWN_ordinal (by simp)), (Ne.symm (Fld.ne F_EXECUTING_ordinal F_UNKNOWN_ordinal (by simp))), (Fld.ne F_HELD_ordinal F_ERROR_ordinal (by simp)), (Ne.symm (Fld.ne F_HELD_ordinal F_ERROR_ordinal (by simp))), (Fld.ne F_HELD_ordinal F_SUSPENDED_ordinal (by simp)), (Ne.symm (Fld.ne F_HELD_ordinal F_SUSPENDED_ordinal (by simp))), (Fld.ne F_HELD_ordinal F_ABORTED_ordinal (by simp)), (Ne.symm (Fld.ne F_HELD_ordinal F_ABORTED_ordinal (by simp))), (Fld.ne F_HELD_ordinal F_ARCHIVED_ordinal (by simp)), (Ne.symm (Fld.ne F_HELD_ordinal F_ARCHIVED_ordinal (by simp))), (Fld.ne F_HELD_ordinal F_UNKNOWN_ordinal (by simp)), (Ne.symm (Fld.ne F_HELD_ordinal F_UNKNOWN_ordinal (by simp))), (Fld.ne F_ERROR_ordinal F_SUSPENDED_ordinal (by simp)), (Ne.symm (Fld.ne F_ERROR_ordinal F_SUSPENDED_ordinal (by simp))), (Fld.ne F_ERROR_ordinal F_ABORTED_ordinal (by simp)), (Ne.symm (Fld.ne F_ERROR_ordinal F_ABORTED_ordinal (by simp))), (Fld.ne F_ERROR_ordinal F_ARCHIVED_ordinal (by simp)), (Ne.symm (Fld.ne F_ERROR_ordinal F_ARCHIVED_ordinal (by simp))), (Fld.ne F_ERROR_ordinal F_UNKNOWN_ordinal (by simp)), (Ne.symm (Fld.ne F_ERROR_ordinal F_UNKNOWN_ordinal (by simp))), (Fld.ne F_SUSPENDED_ordinal F_ABORTED_ordinal (by simp)), (Ne.symm (Fld.ne F_SUSPENDED_ordinal F_ABORTED_ordinal (by simp))), (Fld.ne F_SUSPENDED_ordinal F_ARCHIVED_ordinal (by simp)), (Ne.symm (Fld.ne F_SUSPENDED_ordinal F_ARCHIVED_ordinal (by simp))), (Fld.ne F_SUSPENDED_ordinal F_UNKNOWN_ordinal (by simp)), (Ne.symm (Fld.ne F_SUSPENDED_ordinal F_UNKNOWN_ordinal (by simp))), (Fld.ne F_ABORTED_ordinal F_ARCHIVED_ordinal (by simp)), (Ne.symm (Fld.ne F_ABORTED_ordinal F_ARCHIVED_ordinal (by simp))), (Fld.ne F_ABORTED_ordinal F_UNKNOWN_ordinal (by simp)), (Ne.symm (Fld.ne F_ABORTED_ordinal F_UNKNOWN_ordinal (by simp))), (Fld.ne F_ARCHIVED_ordinal F_UNKNOWN_ordinal (by simp)), (Ne.symm (Fld.ne F_ARCHIVED_ordinal F_UNKNOWN_ordinal (by simp)))])) hZ (hw _ (List.mem_of_getElem? (i := 38) rfl)) (hw _ (List.mem_of_getElem? (i := 6) rfl)) (by decide) (by decide)) q14a q14c (g := (mkF m 62 #[.val (.int p1), .val (.int (4 : Int32)), .val (.ref a_ERROR), .val (.int (1 : Int32)), .val (.int (1 : Int32))] [(.ref a_ERROR)])) rfl (by rw [hml]; rfl) (Steps.refl _) (argsL := []) (rest := []) (lenOf pd_2 rfl) rfl (by show 2 * 0 + _ ≤ _; exact Nat.le_of_eq rfl) (hb hby at_62) (fun _ _ => ⟨rfl, e13, (by decide : 0 + 0 ≤ _), (by decide : 0 + 0 ≤ _)⟩)
    dsimp only [Pt.U, Pt.locs, Pt.cells, Pt.slots] at X14 l14 y14 z14 st14 hQ14
    subst l14 y14 z14
    obtain ⟨rfl, Nq14, e14⟩ := hQ14
    have N14 := Fr.app N13 Nq14
    refine Go.step (fun t_ k_ => st14.trans k_) ?_
    show Go p e below _ (T14.setTop (mkF m 65 #[.val (.int p1), .val (.int (4 : Int32)), .val (.ref a_ERROR), .val (.int (1 : Int32)), .val (.int (1 : Int32))] [(.int (0 : Int32))]))
    have hc65 : (0 : Int32) = (0 : Int32) := by decide
    refine Go.step (fun t_ k_ => XS.ifYes X14.here hx rfl (pc0 := 65) (pc' := 70) rfl (hb hby at_65) rfl ((if0 _ _).trans (teq hc65).1) (by decide) (by decide) k_) ?_
    show Go p e below _ (T14.setTop (mkF m 70 #[.val (.int p1), .val (.int (4 : Int32)), .val (.ref a_ERROR), .val (.int (1 : Int32)), .val (.int (1 : Int32))] []))
    refine Go.step (fun t_ k_ => XS.iconst X14.here hx rfl (hb hby at_70) k_) ?_
    show Go p e below _ (T14.setTop (mkF m 71 #[.val (.int p1), .val (.int (4 : Int32)), .val (.ref a_ERROR), .val (.int (1 : Int32)), .val (.int (1 : Int32))] [(.int (1 : Int32))]))
    refine Go.retZ X14 hx (t := .boolean) Bd.returns (by simp) Bd.notSynchronized (hb hby at_71) (by rw [e14]; exact ⟨rfl, N14⟩) (by decide) (by decide)
  next =>
    show Go p e below _ (s₁.setTop (mkF m 8 #[.val (.int p1), .val (.int (5 : Int32)), .unset, .unset, .unset] []))
    refine Go.step (fun t_ k_ => XS.iloadN X0.here hx rfl (hb hby at_8) rfl k_) ?_
    show Go p e below _ (s₁.setTop (mkF m 9 #[.val (.int p1), .val (.int (5 : Int32)), .unset, .unset, .unset] [(.int (5 : Int32))]))
    obtain ⟨_, _, ⟨T15, L15, k15, n15⟩, -, X15, ⟨Lc15, hQ15, l15, y15, z15⟩, st15⟩ := Jvm.LawKit.callS X0 hx (y := (⟨"com/example/exposure/exposure/ExecutionPhaseIsFinalPinLaw", "pick", "(I)Lcom/example/exposure/exposure/ExecutionPhase;"⟩ : MethodName)) hown (mvT hZ (hw _ (List.mem_of_getElem? (i := 1) rfl))) (mvT hZ (hw _ (List.mem_of_getElem? (i := 2) rfl))) (mvT hZ (hw _ (List.mem_of_getElem? (i := 3) rfl))) (mvT hZ (hw _ (List.mem_of_getElem? (i := 4) rfl))) (by decide) (backOf (W := 0) (rm1 l Z a0 hw [] a_PENDING a_COMPLETED a_QUEUED a_EXECUTING a_HELD a_ERROR a_SUSPENDED a_ABORTED a_ARCHIVED a_UNKNOWN HW (5 : Int32) a_UNKNOWN h0 n0 Ol (by simp)) hZ (hw _ (List.mem_of_getElem? (i := 4) rfl)) (hw _ (List.mem_of_getElem? (i := 3) rfl)) (by decide) (by decide)) (g := (mkF m 9 #[.val (.int p1), .val (.int (5 : Int32)), .unset, .unset, .unset] [(.int (5 : Int32))])) rfl (by rw [hml]; rfl) (argsL := [(.int (5 : Int32))]) (rest := []) (lenOf pd_1 rfl) rfl (by show 2 * 0 + _ ≤ _; exact Nat.le_of_eq rfl) (hb hby at_9) (fun _ _ => ⟨rfl, e0, (by decide : 0 + 0 ≤ _), (by decide : 0 + 0 ≤ _)⟩)
    dsimp only [Pt.U, Pt.locs, Pt.cells, Pt.slots] at X15 l15 y15 z15 st15 hQ15
    subst l15 y15 z15
    obtain ⟨rfl, Nq15, e15⟩ := hQ15
    have N15 := Fr.app N0 Nq15
    refine Go.step st15 ?_
    show Go p e below _ (T15.setTop (mkF m 12 #[.val (.int p1), .val (.int (5 : Int32)), .unset, .unset, .unset] [(.ref a_UNKNOWN)]))
    refine Go.step (fun t_ k_ => XS.astoreN X15.here hx rfl (hb hby at_12) rfl rfl (l' := #[.val (.int p1), .val (.int (5 : Int32)), .val (.ref a_UNKNOWN), .unset, .unset]) rfl k_) ?_
    show Go p e below _ (T15.setTop (mkF m 13 #[.val (.int p1), .val (.int (5 : Int32)), .val (.ref a_UNKNOWN), .unset, .unset] []))
    refine Go.step (fun t_ k_ => XS.iloadN X15.here hx rfl (hb hby at_13) rfl k_) ?_
    show Go p e below _ (T15.setTop (mkF m 14 #[.val (.int p1), .val (.int (5 : Int32)), .val (.ref a_UNKNOWN), .unset, .unset] [(.int (5 : Int32))]))
    refine Go.step (fun t_ k_ => XS.iconst X15.here hx rfl (hb hby at_14) k_) ?_
    show Go p e below _ (T15.setTop (mkF m 15 #[.val (.int p1), .val (.int (5 : Int32)), .val (.ref a_UNKNOWN), .unset, .unset] [(.int (3 : Int32)), (.int (5 : Int32))]))
    have hc15 : ¬ ((5 : Int32) = (3 : Int32)) := by decide
    refine Go.step (fun t_ k_ => XS.icmpNo X15.here hx rfl (hb hby at_15) rfl (feq hc15).1 k_) ?_
    show Go p e below _ (T15.setTop (mkF m 18 #[.val (.int p1), .val (.int (5 : Int32)), .val (.ref a_UNKNOWN), .unset, .unset] []))
    refine Go.step (fun t_ k_ => XS.iloadN X15.here hx rfl (hb hby at_18) rfl k_) ?_
    show Go p e below _ (T15.setTop (mkF m 19 #[.val (.int p1), .val (.int (5 : Int32)), .val (.ref a_UNKNOWN), .unset, .unset] [(.int (5 : Int32))]))
    refine Go.step (fun t_ k_ => XS.iconst X15.here hx rfl (hb hby at_19) k_) ?_
    show Go p e below _ (T15.setTop (mkF m 20 #[.val (.int p1), .val (.int (5 : Int32)), .val (.ref a_UNKNOWN), .unset, .unset] [(.int (4 : Int32)), (.int (5 : Int32))]))
    have hc20 : ¬ ((5 : Int32) = (4 : Int32)) := by decide
    refine Go.step (fun t_ k_ => XS.icmpNo X15.here hx rfl (hb hby at_20) rfl (feq hc20).1 k_) ?_
    show Go p e below _ (T15.setTop (mkF m 23 #[.val (.int p1), .val (.int (5 : Int32)), .val (.ref a_UNKNOWN), .unset, .unset] []))
    refine Go.step (fun t_ k_ => XS.iloadN X15.here hx rfl (hb hby at_23) rfl k_) ?_
    show Go p e below _ (T15.setTop (mkF m 24 #[.val (.int p1), .val (.int (5 : Int32)), .val (.ref a_UNKNOWN), .unset, .unset] [(.int (5 : Int32))]))
    refine Go.step (fun t_ k_ => XS.bipush X15.here hx rfl (hb hby at_24) k_) ?_
    show Go p e below _ (T15.setTop (mkF m 26 #[.val (.int p1), .val (.int (5 : Int32)), .val (.ref a_UNKNOWN), .unset, .unset] [(.int (8 : Int32)), (.int (5 : Int32))]))
    have hc26 : (5 : Int32) < (8 : Int32) := by decide
    refine Go.step (fun t_ k_ => XS.icmpYes X15.here hx rfl (pc0 := 26) (pc' := 33) rfl (hb hby at_26) rfl (tlt hc26).1 (by decide) (by decide) k_) ?_
    show Go p e below _ (T15.setTop (mkF m 33 #[.val (.int p1), .val (.int (5 : Int32)), .val (.ref a_UNKNOWN), .unset, .unset] []))
    refine Go.step (fun t_ k_ => XS.iconst X15.here hx rfl (hb hby at_33) k_) ?_
    show Go p e below _ (T15.setTop (mkF m 34 #[.val (.int p1), .val (.int (5 : Int32)), .val (.ref a_UNKNOWN), .unset, .unset] [(.int (0 : Int32))]))
    refine Go.step (fun t_ k_ => XS.istoreN X15.here hx rfl (hb hby at_34) rfl (l' := #[.val (.int p1), .val (.int (5 : Int32)), .val (.ref a_UNKNOWN), .val (.int (0 : Int32)), .unset]) rfl k_) ?_
    show Go p e below _ (T15.setTop (mkF m 35 #[.val (.int p1), .val (.int (5 : Int32)), .val (.ref a_UNKNOWN), .val (.int (0 : Int32)), .unset] []))
    refine Go.step (fun t_ k_ => XS.aloadN X15.here hx rfl (hb hby at_35) rfl rfl k_) ?_
    show Go p e below _ (T15.setTop (mkF m 36 #[.val (.int p1), .val (.int (5 : Int32)), .val (.ref a_UNKNOWN), .val (.int (0 : Int32)), .unset] [(.ref a_UNKNOWN)]))
    obtain ⟨cq16, kq16, q16a, q16b, q16c⟩ := isOf hZ e15 (E_UNKNOWN.ext Ol.2)
    obtain ⟨_, _, ⟨T16, L16, k16, n16⟩, -, X16, ⟨Lc16, hQ16, l16, y16, z16⟩, st16⟩ := X15.virtualBack hx (y := (⟨"com/example/exposure/exposure/ExecutionPhase", "isFinal", "()Z"⟩ : MethodName)) (z := (⟨"com/example/exposure/exposure/ExecutionPhase", "isFinal", "()Z"⟩ : MethodName)) hown (mvT hZ (hw _ (List.mem_of_getElem? (i := 8) rfl))) (mvT hZ (hw _ (List.mem_of_getElem? (i := 9) rfl))) (notFace_of_selects (args := #[]) (mvT hZ (hw _ (List.mem_of_getElem? (i := 11) rfl)))) (mvT hZ (hw _ (List.mem_of_getElem? (i := 11) rfl))) (mvT hZ (hw _ (List.mem_of_getElem? (i := 10) rfl))) (by decide) (backOf (W := 0) (rm2 l Z a0 hw [] a_PENDING a_COMPLETED a_QUEUED a_EXECUTING a_HELD a_ERROR a_SUSPENDED a_ABORTED a_ARCHIVED a_UNKNOWN HW a_UNKNOWN (5 : Int32) (0 : Int32) h0 n0 Ol F_UNKNOWN_ordinal E_UNKNOWN (by decide) (by simp)) hZ (hw _ (List.mem_of_getElem? (i := 12) rfl)) (hw _ (List.mem_of_getElem? (i := 6) rfl)) (by decide) (by decide)) q16a q16c (g := (mkF m 36 #[.val (.int p1), .val (.int (5 : Int32)), .val (.ref a_UNKNOWN), .val (.int (0 : Int32)), .unset] [(.ref a_UNKNOWN)])) rfl (by rw [hml]; rfl) (Steps.refl _) (argsL := []) (rest := []) (lenOf pd_2 rfl) rfl (by show 2 * 0 + _ ≤ _; exact Nat.le_of_eq rfl) (hb hby at_36) (fun _ _ => ⟨rfl, e15, (by decide : 0 + 0 ≤ _), (by decide : 0 + 0 ≤ _)⟩)
    dsimp only [Pt.U, Pt.locs, Pt.cells, Pt.slots] at X16 l16 y16 z16 st16 hQ16
    subst l16 y16 z16
    obtain ⟨rfl, Nq16, e16⟩ := hQ16
    have N16 := Fr.app N15 Nq16
    refine Go.step (fun t_ k_ => st16.trans k_) ?_
    show Go p e below _ (T16.setTop (mkF m 39 #[.val (.int p1), .val (.int (5 : Int32)), .val (.ref a_UNKNOWN), .val (.int (0 : Int32)), .unset] [(.int (0 : Int32))]))
    refine Go.step (fun t_ k_ => XS.istore X16.here hx rfl (hb hby at_39) rfl (l' := #[.val (.int p1), .val (.int (5 : Int32)), .val (.ref a_UNKNOWN), .val (.int (0 : Int32)), .val (.int (0 : Int32))]) rfl k_) ?_
    show Go p e below _ (T16.setTop (mkF m 41 #[.val (.int p1), .val (.int (5 : Int32)), .val (.ref a_UNKNOWN), .val (.int (0 : Int32)), .val (.int (0 : Int32))] []))
    refine Go.step (fun t_ k_ => XS.iload X16.here hx rfl (hb hby at_41) rfl k_) ?_
    show Go p e below _ (T16.setTop (mkF m 43 #[.val (.int p1), .val (.int (5 : Int32)), .val (.ref a_UNKNOWN), .val (.int (0 : Int32)), .val (.int (0 : Int32))] [(.int (0 : Int32))]))
    refine Go.step (fun t_ k_ => XS.iloadN X16.here hx rfl (hb hby at_43) rfl k_) ?_
    show Go p e below _ (T16.setTop (mkF m 44 #[.val (.int p1), .val (.int (5 : Int32)), .val (.ref a_UNKNOWN), .val (.int (0 : Int32)), .val (.int (0 : Int32))] [(.int (0 : Int32)), (.int (0 : Int32))]))
    have hc44 : (0 : Int32) = (0 : Int32) := by decide
    refine Go.step (fun t_ k_ => XS.icmpYes X16.here hx rfl (pc0 := 44) (pc' := 49) rfl (hb hby at_44) rfl (teq hc44).1 (by decide) (by decide) k_) ?_
    show Go p e below _ (T16.setTop (mkF m 49 #[.val (.int p1), .val (.int (5 : Int32)), .val (.ref a_UNKNOWN), .val (.int (0 : Int32)), .val (.int (0 : Int32))] []))
    refine Go.step (fun t_ k_ => XS.iload X16.here hx rfl (hb hby at_49) rfl k_) ?_
    show Go p e below _ (T16.setTop (mkF m 51 #[.val (.int p1), .val (.int (5 : Int32)), .val (.ref a_UNKNOWN), .val (.int (0 : Int32)), .val (.int (0 : Int32))] [(.int (0 : Int32))]))
    have hc51 : (0 : Int32) = (0 : Int32) := by decide
    refine Go.step (fun t_ k_ => XS.ifYes X16.here hx rfl (pc0 := 51) (pc' := 70) rfl (hb hby at_51) rfl ((if0 _ _).trans (teq hc51).1) (by decide) (by decide) k_) ?_
    show Go p e below _ (T16.setTop (mkF m 70 #[.val (.int p1), .val (.int (5 : Int32)), .val (.ref a_UNKNOWN), .val (.int (0 : Int32)), .val (.int (0 : Int32))] []))
    refine Go.step (fun t_ k_ => XS.iconst X16.here hx rfl (hb hby at_70) k_) ?_
    show Go p e below _ (T16.setTop (mkF m 71 #[.val (.int p1), .val (.int (5 : Int32)), .val (.ref a_UNKNOWN), .val (.int (0 : Int32)), .val (.int (0 : Int32))] [(.int (1 : Int32))]))
    refine Go.retZ X16 hx (t := .boolean) Bd.returns (by simp) Bd.notSynchronized (hb hby at_71) (by rw [e16]; exact ⟨rfl, N16⟩) (by decide) (by decide)
  next =>
    show Go p e below _ (s₁.setTop (mkF m 8 #[.val (.int p1), .val (.int (6 : Int32)), .unset, .unset, .unset] []))
    refine Go.step (fun t_ k_ => XS.iloadN X0.here hx rfl (hb hby at_8) rfl k_) ?_
    show Go p e below _ (s₁.setTop (mkF m 9 #[.val (.int p1), .val (.int (6 : Int32)), .unset, .unset, .unset] [(.int (6 : Int32))]))
    obtain ⟨_, _, ⟨T17, L17, k17, n17⟩, -, X17, ⟨Lc17, hQ17, l17, y17, z17⟩, st17⟩ := Jvm.LawKit.callS X0 hx (y := (⟨"com/example/exposure/exposure/ExecutionPhaseIsFinalPinLaw", "pick", "(I)Lcom/example/exposure/exposure/ExecutionPhase;"⟩ : MethodName)) hown (mvT hZ (hw _ (List.mem_of_getElem? (i := 1) rfl))) (mvT hZ (hw _ (List.mem_of_getElem? (i := 2) rfl))) (mvT hZ (hw _ (List.mem_of_getElem? (i := 3) rfl))) (mvT hZ (hw _ (List.mem_of_getElem? (i := 4) rfl))) (by decide) (backOf (W := 0) (rm1 l Z a0 hw [] a_PENDING a_COMPLETED a_QUEUED a_EXECUTING a_HELD a_ERROR a_SUSPENDED a_ABORTED a_ARCHIVED a_UNKNOWN HW (6 : Int32) a_HELD h0 n0 Ol (by simp)) hZ (hw _ (List.mem_of_getElem? (i := 4) rfl)) (hw _ (List.mem_of_getElem? (i := 3) rfl)) (by decide) (by decide)) (g := (mkF m 9 #[.val (.int p1), .val (.int (6 : Int32)), .unset, .unset, .unset] [(.int (6 : Int32))])) rfl (by rw [hml]; rfl) (argsL := [(.int (6 : Int32))]) (rest := []) (lenOf pd_1 rfl) rfl (by show 2 * 0 + _ ≤ _; exact Nat.le_of_eq rfl) (hb hby at_9) (fun _ _ => ⟨rfl, e0, (by decide : 0 + 0 ≤ _), (by decide : 0 + 0 ≤ _)⟩)
    dsimp only [Pt.U, Pt.locs, Pt.cells, Pt.slots] at X17 l17 y17 z17 st17 hQ17
    subst l17 y17 z17
    obtain ⟨rfl, Nq17, e17⟩ := hQ17
    have N17 := Fr.app N0 Nq17
    refine Go.step st17 ?_
    show Go p e below _ (T17.setTop (mkF m 12 #[.val (.int p1), .val (.int (6 : Int32)), .unset, .unset, .unset] [(.ref a_HELD)]))
    refine Go.step (fun t_ k_ => XS.astoreN X17.here hx rfl (hb hby at_12) rfl rfl (l' := #[.val (.int p1), .val (.int (6 : Int32)), .val (.ref a_HELD), .unset, .unset]) rfl k_) ?_
    show Go p e below _ (T17.setTop (mkF m 13 #[.val (.int p1), .val (.int (6 : Int32)), .val (.ref a_HELD), .unset, .unset] []))
    refine Go.step (fun t_ k_ => XS.iloadN X17.here hx rfl (hb hby at_13) rfl k_) ?_
    show Go p e below _ (T17.setTop (mkF m 14 #[.val (.int p1), .val (.int (6 : Int32)), .val (.ref a_HELD), .unset, .unset] [(.int (6 : Int32))]))
    refine Go.step (fun t_ k_ => XS.iconst X17.here hx rfl (hb hby at_14) k_) ?_
    show Go p e below _ (T17.setTop (mkF m 15 #[.val (.int p1), .val (.int (6 : Int32)), .val (.ref a_HELD), .unset, .unset] [(.int (3 : Int32)), (.int (6 : Int32))]))
    have hc15 : ¬ ((6 : Int32) = (3 : Int32)) := by decide
    refine Go.step (fun t_ k_ => XS.icmpNo X17.here hx rfl (hb hby at_15) rfl (feq hc15).1 k_) ?_
    show Go p e below _ (T17.setTop (mkF m 18 #[.val (.int p1), .val (.int (6 : Int32)), .val (.ref a_HELD), .unset, .unset] []))
    refine Go.step (fun t_ k_ => XS.iloadN X17.here hx rfl (hb hby at_18) rfl k_) ?_
    show Go p e below _ (T17.setTop (mkF m 19 #[.val (.int p1), .val (.int (6 : Int32)), .val (.ref a_HELD), .unset, .unset] [(.int (6 : Int32))]))
    refine Go.step (fun t_ k_ => XS.iconst X17.here hx rfl (hb hby at_19) k_) ?_
    show Go p e below _ (T17.setTop (mkF m 20 #[.val (.int p1), .val (.int (6 : Int32)), .val (.ref a_HELD), .unset, .unset] [(.int (4 : Int32)), (.int (6 : Int32))]))
    have hc20 : ¬ ((6 : Int32) = (4 : Int32)) := by decide
    refine Go.step (fun t_ k_ => XS.icmpNo X17.here hx rfl (hb hby at_20) rfl (feq hc20).1 k_) ?_
    show Go p e below _ (T17.setTop (mkF m 23 #[.val (.int p1), .val (.int (6 : Int32)), .val (.ref a_HELD), .unset, .unset] []))
    refine Go.step (fun t_ k_ => XS.iloadN X17.here hx rfl (hb hby at_23) rfl k_) ?_
    show Go p e below _ (T17.setTop (mkF m 24 #[.val (.int p1), .val (.int (6 : Int32)), .val (.ref a_HELD), .unset, .unset] [(.int (6 : Int32))]))
    refine Go.step (fun t_ k_ => XS.bipush X17.here hx rfl (hb hby at_24) k_) ?_
    show Go p e below _ (T17.setTop (mkF m 26 #[.val (.int p1), .val (.int (6 : Int32)), .val (.ref a_HELD), .unset, .unset] [(.int (8 : Int32)), (.int (6 : Int32))]))
    have hc26 : (6 : Int32) < (8 : Int32) := by decide
    refine Go.step (fun t_ k_ => XS.icmpYes X17.here hx rfl (pc0 := 26) (pc' := 33) rfl (hb hby at_26) rfl (tlt hc26).1 (by decide) (by decide) k_) ?_
    show Go p e below _ (T17.setTop (mkF m 33 #[.val (.int p1), .val (.int (6 : Int32)), .val (.ref a_HELD), .unset, .unset] []))
    refine Go.step (fun t_ k_ => XS.iconst X17.here hx rfl (hb hby at_33) k_) ?_
    show Go p e below _ (T17.setTop (mkF m 34 #[.val (.int p1), .val (.int (6 : Int32)), .val (.ref a_HELD), .unset, .unset] [(.int (0 : Int32))]))
    refine Go.step (fun t_ k_ => XS.istoreN X17.here hx rfl (hb hby at_34) rfl (l' := #[.val (.int p1), .val (.int (6 : Int32)), .val (.ref a_HELD), .val (.int (0 : Int32)), .unset]) rfl k_) ?_
    show Go p e below _ (T17.setTop (mkF m 35 #[.val (.int p1), .val (.int (6 : Int32)), .val (.ref a_HELD), .val (.int (0 : Int32)), .unset] []))
    refine Go.step (fun t_ k_ => XS.aloadN X17.here hx rfl (hb hby at_35) rfl rfl k_) ?_
    show Go p e below _ (T17.setTop (mkF m 36 #[.val (.int p1), .val (.int (6 : Int32)), .val (.ref a_HELD), .val (.int (0 : Int32)), .unset] [(.ref a_HELD)]))
    obtain ⟨cq18, kq18, q18a, q18b, q18c⟩ := isOf hZ e17 (E_HELD.ext Ol.2)
    obtain ⟨_, _, ⟨T18, L18, k18, n18⟩, -, X18, ⟨Lc18, hQ18, l18, y18, z18⟩, st18⟩ := X17.virtualBack hx (y := (⟨"com/example/exposure/exposure/ExecutionPhase", "isFinal", "()Z"⟩ : MethodName)) (z := (⟨"com/example/exposure/exposure/ExecutionPhase", "isFinal", "()Z"⟩ : MethodName)) hown (mvT hZ (hw _ (List.mem_of_getElem? (i := 8) rfl))) (mvT hZ (hw _ (List.mem_of_getElem? (i := 9) rfl))) (notFace_of_selects (args := #[]) (mvT hZ (hw _ (List.mem_of_getElem? (i := 11) rfl)))) (mvT hZ (hw _ (List.mem_of_getElem? (i := 11) rfl))) (mvT hZ (hw _ (List.mem_of_getElem? (i := 10) rfl))) (by decide) (backOf (W := 0) (rm2 l Z a0 hw [] a_PENDING a_COMPLETED a_QUEUED a_EXECUTING a_HELD a_ERROR a_SUSPENDED a_ABORTED a_ARCHIVED a_UNKNOWN HW a_HELD (6 : Int32) (0 : Int32) h0 n0 Ol F_HELD_ordinal E_HELD (by decide) (by simp)) hZ (hw _ (List.mem_of_getElem? (i := 12) rfl)) (hw _ (List.mem_of_getElem? (i := 6) rfl)) (by decide) (by decide)) q18a q18c (g := (mkF m 36 #[.val (.int p1), .val (.int (6 : Int32)), .val (.ref a_HELD), .val (.int (0 : Int32)), .unset] [(.ref a_HELD)])) rfl (by rw [hml]; rfl) (Steps.refl _) (argsL := []) (rest := []) (lenOf pd_2 rfl) rfl (by show 2 * 0 + _ ≤ _; exact Nat.le_of_eq rfl) (hb hby at_36) (fun _ _ => ⟨rfl, e17, (by decide : 0 + 0 ≤ _), (by decide : 0 + 0 ≤ _)⟩)
    dsimp only [Pt.U, Pt.locs, Pt.cells, Pt.slots] at X18 l18 y18 z18 st18 hQ18
    subst l18 y18 z18
    obtain ⟨rfl, Nq18, e18⟩ := hQ18
    have N18 := Fr.app N17 Nq18
    refine Go.step (fun t_ k_ => st18.trans k_) ?_
    show Go p e below _ (T18.setTop (mkF m 39 #[.val (.int p1), .val (.int (6 : Int32)), .val (.ref a_HELD), .val (.int (0 : Int32)), .unset] [(.int (0 : Int32))]))
    refine Go.step (fun t_ k_ => XS.istore X18.here hx rfl (hb hby at_39) rfl (l' := #[.val (.int p1), .val (.int (6 : Int32)), .val (.ref a_HELD), .val (.int (0 : Int32)), .val (.int (0 : Int32))]) rfl k_) ?_
    show Go p e below _ (T18.setTop (mkF m 41 #[.val (.int p1), .val (.int (6 : Int32)), .val (.ref a_HELD), .val (.int (0 : Int32)), .val (.int (0 : Int32))] []))
    refine Go.step (fun t_ k_ => XS.iload X18.here hx rfl (hb hby at_41) rfl k_) ?_
    show Go p e below _ (T18.setTop (mkF m 43 #[.val (.int p1), .val (.int (6 : Int32)), .val (.ref a_HELD), .val (.int (0 : Int32)), .val (.int (0 : Int32))] [(.int (0 : Int32))]))
    refine Go.step (fun t_ k_ => XS.iloadN X18.here hx rfl (hb hby at_43) rfl k_) ?_
    show Go p e below _ (T18.setTop (mkF m 44 #[.val (.int p1), .val (.int (6 : Int32)), .val (.ref a_HELD), .val (.int (0 : Int32)), .val (.int (0 : Int32))] [(.int (0 : Int32)), (.int (0 : Int32))]))
    have hc44 : (0 : Int32) = (0 : Int32) := by decide
    refine Go.step (fun t_ k_ => XS.icmpYes X18.here hx rfl (pc0 := 44) (pc' := 49) rfl (hb hby at_44) rfl (teq hc44).1 (by decide) (by decide) k_) ?_
    show Go p e below _ (T18.setTop (mkF m 49 #[.val (.int p1), .val (.int (6 : Int32)), .val (.ref a_HELD), .val (.int (0 : Int32)), .val (.int (0 : Int32))] []))
    refine Go.step (fun t_ k_ => XS.iload X18.here hx rfl (hb hby at_49) rfl k_) ?_
    show Go p e below _ (T18.setTop (mkF m 51 #[.val (.int p1), .val (.int (6 : Int32)), .val (.ref a_HELD), .val (.int (0 : Int32)), .val (.int (0 : Int32))] [(.int (0 : Int32))]))
    have hc51 : (0 : Int32) = (0 : Int32) := by decide
    refine Go.step (fun t_ k_ => XS.ifYes X18.here hx rfl (pc0 := 51) (pc' := 70) rfl (hb hby at_51) rfl ((if0 _ _).trans (teq hc51).1) (by decide) (by decide) k_) ?_
    show Go p e below _ (T18.setTop (mkF m 70 #[.val (.int p1), .val (.int (6 : Int32)), .val (.ref a_HELD), .val (.int (0 : Int32)), .val (.int (0 : Int32))] []))
    refine Go.step (fun t_ k_ => XS.iconst X18.here hx rfl (hb hby at_70) k_) ?_
    show Go p e below _ (T18.setTop (mkF m 71 #[.val (.int p1), .val (.int (6 : Int32)), .val (.ref a_HELD), .val (.int (0 : Int32)), .val (.int (0 : Int32))] [(.int (1 : Int32))]))
    refine Go.retZ X18 hx (t := .boolean) Bd.returns (by simp) Bd.notSynchronized (hb hby at_71) (by rw [e18]; exact ⟨rfl, N18⟩) (by decide) (by decide)
  next =>
    show Go p e below _ (s₁.setTop (mkF m 8 #[.val (.int p1), .val (.int (7 : Int32)), .unset, .unset, .unset] []))
    refine Go.step (fun t_ k_ => XS.iloadN X0.here hx rfl (hb hby at_8) rfl k_) ?_
    show Go p e below _ (s₁.setTop (mkF m 9 #[.val (.int p1), .val (.int (7 : Int32)), .unset, .unset, .unset] [(.int (7 : Int32))]))
    obtain ⟨_, _, ⟨T19, L19, k19, n19⟩, -, X19, ⟨Lc19, hQ19, l19, y19, z19⟩, st19⟩ := Jvm.LawKit.callS X0 hx (y := (⟨"com/example/exposure/exposure/ExecutionPhaseIsFinalPinLaw", "pick", "(I)Lcom/example/exposure/exposure/ExecutionPhase;"⟩ : MethodName)) hown (mvT hZ (hw _ (List.mem_of_getElem? (i := 1) rfl))) (mvT hZ (hw _ (List.mem_of_getElem? (i := 2) rfl))) (mvT hZ (hw _ (List.mem_of_getElem? (i := 3) rfl))) (mvT hZ (hw _ (List.mem_of_getElem? (i := 4) rfl))) (by decide) (backOf (W := 0) (rm1 l Z a0 hw [] a_PENDING a_COMPLETED a_QUEUED a_EXECUTING a_HELD a_ERROR a_SUSPENDED a_ABORTED a_ARCHIVED a_UNKNOWN HW (7 : Int32) a_SUSPENDED h0 n0 Ol (by simp)) hZ (hw _ (List.mem_of_getElem? (i := 4) rfl)) (hw _ (List.mem_of_getElem? (i := 3) rfl)) (by decide) (by decide)) (g := (mkF m 9 #[.val (.int p1), .val (.int (7 : Int32)), .unset, .unset, .unset] [(.int (7 : Int32))])) rfl (by rw [hml]; rfl) (argsL := [(.int (7 : Int32))]) (rest := []) (lenOf pd_1 rfl) rfl (by show 2 * 0 + _ ≤ _; exact Nat.le_of_eq rfl) (hb hby at_9) (fun _ _ => ⟨rfl, e0, (by decide : 0 + 0 ≤ _), (by decide : 0 + 0 ≤ _)⟩)
    dsimp only [Pt.U, Pt.locs, Pt.cells, Pt.slots] at X19 l19 y19 z19 st19 hQ19
    subst l19 y19 z19
    obtain ⟨rfl, Nq19, e19⟩ := hQ19
    have N19 := Fr.app N0 Nq19
    refine Go.step st19 ?_
    show Go p e below _ (T19.setTop (mkF m 12 #[.val (.int p1), .val (.int (7 : Int32)), .unset, .unset, .unset] [(.ref a_SUSPENDED)]))
    refine Go.step (fun t_ k_ => XS.astoreN X19.here hx rfl (hb hby at_12) rfl rfl (l' := #[.val (.int p1), .val (.int (7 : Int32)), .val (.ref a_SUSPENDED), .unset, .unset]) rfl k_) ?_
    show Go p e below _ (T19.setTop (mkF m 13 #[.val (.int p1), .val (.int (7 : Int32)), .val (.ref a_SUSPENDED), .unset, .unset] []))
    refine Go.step (fun t_ k_ => XS.iloadN X19.here hx rfl (hb hby at_13) rfl k_) ?_
    show Go p e below _ (T19.setTop (mkF m 14 #[.val (.int p1), .val (.int (7 : Int32)), .val (.ref a_SUSPENDED), .unset, .unset] [(.int (7 : Int32))]))
    refine Go.step (fun t_ k_ => XS.iconst X19.here hx rfl (hb hby at_14) k_) ?_
    show Go p e below _ (T19.setTop (mkF m 15 #[.val (.int p1), .val (.int (7 : Int32)), .val (.ref a_SUSPENDED), .unset, .unset] [(.int (3 : Int32)), (.int (7 : Int32))]))
    have hc15 : ¬ ((7 : Int32) = (3 : Int32)) := by decide
    refine Go.step (fun t_ k_ => XS.icmpNo X19.here hx rfl (hb hby at_15) rfl (feq hc15).1 k_) ?_
    show Go p e below _ (T19.setTop (mkF m 18 #[.val (.int p1), .val (.int (7 : Int32)), .val (.ref a_SUSPENDED), .unset, .unset] []))
    refine Go.step (fun t_ k_ => XS.iloadN X19.here hx rfl (hb hby at_18) rfl k_) ?_
    show Go p e below _ (T19.setTop (mkF m 19 #[.val (.int p1), .val (.int (7 : Int32)), .val (.ref a_SUSPENDED), .unset, .unset] [(.int (7 : Int32))]))
    refine Go.step (fun t_ k_ => XS.iconst X19.here hx rfl (hb hby at_19) k_) ?_
    show Go p e below _ (T19.setTop (mkF m 20 #[.val (.int p1), .val (.int (7 : Int32)), .val (.ref a_SUSPENDED), .unset, .unset] [(.int (4 : Int32)), (.int (7 : Int32))]))
    have hc20 : ¬ ((7 : Int32) = (4 : Int32)) := by decide
    refine Go.step (fun t_ k_ => XS.icmpNo X19.here hx rfl (hb hby at_20) rfl (feq hc20).1 k_) ?_
    show Go p e below _ (T19.setTop (mkF m 23 #[.val (.int p1), .val (.int (7 : Int32)), .val (.ref a_SUSPENDED), .unset, .unset] []))
    refine Go.step (fun t_ k_ => XS.iloadN X19.here hx rfl (hb hby at_23) rfl k_) ?_
    show Go p e below _ (T19.setTop (mkF m 24 #[.val (.int p1), .val (.int (7 : Int32)), .val (.ref a_SUSPENDED), .unset, .unset] [(.int (7 : Int32))]))
    refine Go.step (fun t_ k_ => XS.bipush X19.here hx rfl (hb hby at_24) k_) ?_
    show Go p e below _ (T19.setTop (mkF m 26 #[.val (.int p1), .val (.int (7 : Int32)), .val (.ref a_SUSPENDED), .unset, .unset] [(.int (8 : Int32)), (.int (7 : Int32))]))
    have hc26 : (7 : Int32) < (8 : Int32) := by decide
    refine Go.step (fun t_ k_ => XS.icmpYes X19.here hx rfl (pc0 := 26) (pc' := 33) rfl (hb hby at_26) rfl (tlt hc26).1 (by decide) (by decide) k_) ?_
    show Go p e below _ (T19.setTop (mkF m 33 #[.val (.int p1), .val (.int (7 : Int32)), .val (.ref a_SUSPENDED), .unset, .unset] []))
    refine Go.step (fun t_ k_ => XS.iconst X19.here hx rfl (hb hby at_33) k_) ?_
    show Go p e below _ (T19.setTop (mkF m 34 #[.val (.int p1), .val (.int (7 : Int32)), .val (.ref a_SUSPENDED), .unset, .unset] [(.int (0 : Int32))]))
    refine Go.step (fun t_ k_ => XS.istoreN X19.here hx rfl (hb hby at_34) rfl (l' := #[.val (.int p1), .val (.int (7 : Int32)), .val (.ref a_SUSPENDED), .val (.int (0 : Int32)), .unset]) rfl k_) ?_
    show Go p e below _ (T19.setTop (mkF m 35 #[.val (.int p1), .val (.int (7 : Int32)), .val (.ref a_SUSPENDED), .val (.int (0 : Int32)), .unset] []))
    refine Go.step (fun t_ k_ => XS.aloadN X19.here hx rfl (hb hby at_35) rfl rfl k_) ?_
    show Go p e below _ (T19.setTop (mkF m 36 #[.val (.int p1), .val (.int (7 : Int32)), .val (.ref a_SUSPENDED), .val (.int (0 : Int32)), .unset] [(.ref a_SUSPENDED)]))
    obtain ⟨cq20, kq20, q20a, q20b, q20c⟩ := isOf hZ e19 (E_SUSPENDED.ext Ol.2)
    obtain ⟨_, _, ⟨T20, L20, k20, n20⟩, -, X20, ⟨Lc20, hQ20, l20, y20, z20⟩, st20⟩ := X19.virtualBack hx (y := (⟨"com/example/exposure/exposure/ExecutionPhase", "isFinal", "()Z"⟩ : MethodName)) (z := (⟨"com/example/exposure/exposure/ExecutionPhase", "isFinal", "()Z"⟩ : MethodName)) hown (mvT hZ (hw _ (List.mem_of_getElem? (i := 8) rfl))) (mvT hZ (hw _ (List.mem_of_getElem? (i := 9) rfl))) (notFace_of_selects (args := #[]) (mvT hZ (hw _ (List.mem_of_getElem? (i := 11) rfl)))) (mvT hZ (hw _ (List.mem_of_getElem? (i := 11) rfl))) (mvT hZ (hw _ (List.mem_of_getElem? (i := 10) rfl))) (by decide) (backOf (W := 0) (rm2 l Z a0 hw [] a_PENDING a_COMPLETED a_QUEUED a_EXECUTING a_HELD a_ERROR a_SUSPENDED a_ABORTED a_ARCHIVED a_UNKNOWN HW a_SUSPENDED (7 : Int32) (0 : Int32) h0 n0 Ol F_SUSPENDED_ordinal E_SUSPENDED (by decide) (by simp)) hZ (hw _ (List.mem_of_getElem? (i := 12) rfl)) (hw _ (List.mem_of_getElem? (i := 6) rfl)) (by decide) (by decide)) q20a q20c (g := (mkF m 36 #[.val (.int p1), .val (.int (7 : Int32)), .val (.ref a_SUSPENDED), .val (.int (0 : Int32)), .unset] [(.ref a_SUSPENDED)])) rfl (by rw [hml]; rfl) (Steps.refl _) (argsL := []) (rest := []) (lenOf pd_2 rfl) rfl (by show 2 * 0 + _ ≤ _; exact Nat.le_of_eq rfl) (hb hby at_36) (fun _ _ => ⟨rfl, e19, (by decide : 0 + 0 ≤ _), (by decide : 0 + 0 ≤ _)⟩)
    dsimp only [Pt.U, Pt.locs, Pt.cells, Pt.slots] at X20 l20 y20 z20 st20 hQ20
    subst l20 y20 z20
    obtain ⟨rfl, Nq20, e20⟩ := hQ20
    have N20 := Fr.app N19 Nq20
    refine Go.step (fun t_ k_ => st20.trans k_) ?_
    show Go p e below _ (T20.setTop (mkF m 39 #[.val (.int p1), .val (.int (7 : Int32)), .val (.ref a_SUSPENDED), .val (.int (0 : Int32)), .unset] [(.int (0 : Int32))]))
    refine Go.step (fun t_ k_ => XS.istore X20.here hx rfl (hb hby at_39) rfl (l' := #[.val (.int p1), .val (.int (7 : Int32)), .val (.ref a_SUSPENDED), .val (.int (0 : Int32)), .val (.int (0 : Int32))]) rfl k_) ?_
    show Go p e below _ (T20.setTop (mkF m 41 #[.val (.int p1), .val (.int (7 : Int32)), .val (.ref a_SUSPENDED), .val (.int (0 : Int32)), .val (.int (0 : Int32))] []))
    refine Go.step (fun t_ k_ => XS.iload X20.here hx rfl (hb hby at_41) rfl k_) ?_
    show Go p e below _ (T20.setTop (mkF m 43 #[.val (.int p1), .val (.int (7 : Int32)), .val (.ref a_SUSPENDED), .val (.int (0 : Int32)), .val (.int (0 : Int32))] [(.int (0 : Int32))]))
    refine Go.step (fun t_ k_ => XS.iloadN X20.here hx rfl (hb hby at_43) rfl k_) ?_
    show Go p e below _ (T20.setTop (mkF m 44 #[.val (.int p1), .val (.int (7 : Int32)), .val (.ref a_SUSPENDED), .val (.int (0 : Int32)), .val (.int (0 : Int32))] [(.int (0 : Int32)), (.int (0 : Int32))]))
    have hc44 : (0 : Int32) = (0 : Int32) := by decide
    refine Go.step (fun t_ k_ => XS.icmpYes X20.here hx rfl (pc0 := 44) (pc' := 49) rfl (hb hby at_44) rfl (teq hc44).1 (by decide) (by decide) k_) ?_
    show Go p e below _ (T20.setTop (mkF m 49 #[.val (.int p1), .val (.int (7 : Int32)), .val (.ref a_SUSPENDED), .val (.int (0 : Int32)), .val (.int (0 : Int32))] []))
    refine Go.step (fun t_ k_ => XS.iload X20.here hx rfl (hb hby at_49) rfl k_) ?_
    show Go p e below _ (T20.setTop (mkF m 51 #[.val (.int p1), .val (.int (7 : Int32)), .val (.ref a_SUSPENDED), .val (.int (0 : Int32)), .val (.int (0 : Int32))] [(.int (0 : Int32))]))
    have hc51 : (0 : Int32) = (0 : Int32) := by decide
    refine Go.step (fun t_ k_ => XS.ifYes X20.here hx rfl (pc0 := 51) (pc' := 70) rfl (hb hby at_51) rfl ((if0 _ _).trans (teq hc51).1) (by decide) (by decide) k_) ?_
    show Go p e below _ (T20.setTop (mkF m 70 #[.val (.int p1), .val (.int (7 : Int32)), .val (.ref a_SUSPENDED), .val (.int (0 : Int32)), .val (.int (0 : Int32))] []))
    refine Go.step (fun t_ k_ => XS.iconst X20.here hx rfl (hb hby at_70) k_) ?_
    show Go p e below _ (T20.setTop (mkF m 71 #[.val (.int p1), .val (.int (7 : Int32)), .val (.ref a_SUSPENDED), .val (.int (0 : Int32)), .val (.int (0 : Int32))] [(.int (1 : Int32))]))
    refine Go.retZ X20 hx (t := .boolean) Bd.returns (by simp) Bd.notSynchronized (hb hby at_71) (by rw [e20]; exact ⟨rfl, N20⟩) (by decide) (by decide)
  next =>
    show Go p e below _ (s₁.setTop (mkF m 8 #[.val (.int p1), .val (.int (8 : Int32)), .unset, .unset, .unset] []))
    refine Go.step (fun t_ k_ => XS.iloadN X0.here hx rfl (hb hby at_8) rfl k_) ?_
    show Go p e below _ (s₁.setTop (mkF m 9 #[.val (.int p1), .val (.int (8 : Int32)), .unset, .unset, .unset] [(.int (8 : Int32))]))
    obtain ⟨_, _, ⟨T21, L21, k21, n21⟩, -, X21, ⟨Lc21, hQ21, l21, y21, z21⟩, st21⟩ := Jvm.LawKit.callS X0 hx (y := (⟨"com/example/exposure/exposure/ExecutionPhaseIsFinalPinLaw", "pick", "(I)Lcom/example/exposure/exposure/ExecutionPhase;"⟩ : MethodName)) hown (mvT hZ (hw _ (List.mem_of_getElem? (i := 1) rfl))) (mvT hZ (hw _ (List.mem_of_getElem? (i := 2) rfl))) (mvT hZ (hw _ (List.mem_of_getElem? (i := 3) rfl))) (mvT hZ (hw _ (List.mem_of_getElem? (i := 4) rfl))) (by decide) (backOf (W := 0) (rm1 l Z a0 hw [] a_PENDING a_COMPLETED a_QUEUED a_EXECUTING a_HELD a_ERROR a_SUSPENDED a_ABORTED a_ARCHIVED a_UNKNOWN HW (8 : Int32) a_ABORTED h0 n0 Ol (by simp)) hZ (hw _ (List.mem_of_getElem? (i := 4) rfl)) (hw _ (List.mem_of_getElem? (i := 3) rfl)) (by decide) (by decide)) (g := (mkF m 9 #[.val (.int p1), .val (.int (8 : Int32)), .unset, .unset, .unset] [(.int (8 : Int32))])) rfl (by rw [hml]; rfl) (argsL := [(.int (8 : Int32))]) (rest := []) (lenOf pd_1 rfl) rfl (by show 2 * 0 + _ ≤ _; exact Nat.le_of_eq rfl) (hb hby at_9) (fun _ _ => ⟨rfl, e0, (by decide : 0 + 0 ≤ _), (by decide : 0 + 0 ≤ _)⟩)
    dsimp only [Pt.U, Pt.locs, Pt.cells, Pt.slots] at X21 l21 y21 z21 st21 hQ21
    subst l21 y21 z21
    obtain ⟨rfl, Nq21, e21⟩ := hQ21
    have N21 := Fr.app N0 Nq21
    refine Go.step st21 ?_
    show Go p e below _ (T21.setTop (mkF m 12 #[.val (.int p1), .val (.int (8 : Int32)), .unset, .unset, .unset] [(.ref a_ABORTED)]))
    refine Go.step (fun t_ k_ => XS.astoreN X21.here hx rfl (hb hby at_12) rfl rfl (l' := #[.val (.int p1), .val (.int (8 : Int32)), .val (.ref a_ABORTED), .unset, .unset]) rfl k_) ?_
    show Go p e below _ (T21.setTop (mkF m 13 #[.val (.int p1), .val (.int (8 : Int32)), .val (.ref a_ABORTED), .unset, .unset] []))
    refine Go.step (fun t_ k_ => XS.iloadN X21.here hx rfl (hb hby at_13) rfl k_) ?_
    show Go p e below _ (T21.setTop (mkF m 14 #[.val (.int p1), .val (.int (8 : Int32)), .val (.ref a_ABORTED), .unset, .unset] [(.int (8 : Int32))]))
    refine Go.step (fun t_ k_ => XS.iconst X21.here hx rfl (hb hby at_14) k_) ?_
    show Go p e below _ (T21.setTop (mkF m 15 #[.val (.int p1), .val (.int (8 : Int32)), .val (.ref a_ABORTED), .unset, .unset] [(.int (3 : Int32)), (.int (8 : Int32))]))
    have hc15 : ¬ ((8 : Int32) = (3 : Int32)) := by decide
    refine Go.step (fun t_ k_ => XS.icmpNo X21.here hx rfl (hb hby at_15) rfl (feq hc15).1 k_) ?_
    show Go p e below _ (T21.setTop (mkF m 18 #[.val (.int p1), .val (.int (8 : Int32)), .val (.ref a_ABORTED), .unset, .unset] []))
    refine Go.step (fun t_ k_ => XS.iloadN X21.here hx rfl (hb hby at_18) rfl k_) ?_
    show Go p e below _ (T21.setTop (mkF m 19 #[.val (.int p1), .val (.int (8 : Int32)), .val (.ref a_ABORTED), .unset, .unset] [(.int (8 : Int32))]))
    refine Go.step (fun t_ k_ => XS.iconst X21.here hx rfl (hb hby at_19) k_) ?_
    show Go p e below _ (T21.setTop (mkF m 20 #[.val (.int p1), .val (.int (8 : Int32)), .val (.ref a_ABORTED), .unset, .unset] [(.int (4 : Int32)), (.int (8 : Int32))]))
    have hc20 : ¬ ((8 : Int32) = (4 : Int32)) := by decide
    refine Go.step (fun t_ k_ => XS.icmpNo X21.here hx rfl (hb hby at_20) rfl (feq hc20).1 k_) ?_
    show Go p e below _ (T21.setTop (mkF m 23 #[.val (.int p1), .val (.int (8 : Int32)), .val (.ref a_ABORTED), .unset, .unset] []))
    refine Go.step (fun t_ k_ => XS.iloadN X21.here hx rfl (hb hby at_23) rfl k_) ?_
    show Go p e below _ (T21.setTop (mkF m 24 #[.val (.int p1), .val (.int (8 : Int32)), .val (.ref a_ABORTED), .unset, .unset] [(.int (8 : Int32))]))
    refine Go.step (fun t_ k_ => XS.bipush X21.here hx rfl (hb hby at_24) k_) ?_
    show Go p e below _ (T21.setTop (mkF m 26 #[.val (.int p1), .val (.int (8 : Int32)), .val (.ref a_ABORTED), .unset, .unset] [(.int (8 : Int32)), (.int (8 : Int32))]))
    have hc26 : ¬ ((8 : Int32) < (8 : Int32)) := by decide
    refine Go.step (fun t_ k_ => XS.icmpNo X21.here hx rfl (hb hby at_26) rfl (flt hc26).1 k_) ?_
    show Go p e below _ (T21.setTop (mkF m 29 #[.val (.int p1), .val (.int (8 : Int32)), .val (.ref a_ABORTED), .unset, .unset] []))
    refine Go.step (fun t_ k_ => XS.iconst X21.here hx rfl (hb hby at_29) k_) ?_
    show Go p e below _ (T21.setTop (mkF m 30 #[.val (.int p1), .val (.int (8 : Int32)), .val (.ref a_ABORTED), .unset, .unset] [(.int (1 : Int32))]))
    refine Go.step (fun t_ k_ => XS.goto X21.here hx rfl (pc0 := 30) (pc' := 34) rfl (hb hby at_30) (by decide) (by decide) k_) ?_
    show Go p e below _ (T21.setTop (mkF m 34 #[.val (.int p1), .val (.int (8 : Int32)), .val (.ref a_ABORTED), .unset, .unset] [(.int (1 : Int32))]))
    refine Go.step (fun t_ k_ => XS.istoreN X21.here hx rfl (hb hby at_34) rfl (l' := #[.val (.int p1), .val (.int (8 : Int32)), .val (.ref a_ABORTED), .val (.int (1 : Int32)), .unset]) rfl k_) ?_
    show Go p e below _ (T21.setTop (mkF m 35 #[.val (.int p1), .val (.int (8 : Int32)), .val (.ref a_ABORTED), .val (.int (1 : Int32)), .unset] []))
    refine Go.step (fun t_ k_ => XS.aloadN X21.here hx rfl (hb hby at_35) rfl rfl k_) ?_
    show Go p e below _ (T21.setTop (mkF m 36 #[.val (.int p1), .val (.int (8 : Int32)), .val (.ref a_ABORTED), .val (.int (1 : Int32)), .unset] [(.ref a_ABORTED)]))
    obtain ⟨cq22, kq22, q22a, q22b, q22c⟩ := isOf hZ e21 (E_ABORTED.ext Ol.2)
    obtain ⟨_, _, ⟨T22, L22, k22, n22⟩, -, X22, ⟨Lc22, hQ22, l22, y22, z22⟩, st22⟩ := X21.virtualBack hx (y := (⟨"com/example/exposure/exposure/ExecutionPhase", "isFinal", "()Z"⟩ : MethodName)) (z := (⟨"com/example/exposure/exposure/ExecutionPhase", "isFinal", "()Z"⟩ : MethodName)) hown (mvT hZ (hw _ (List.mem_of_getElem? (i := 8) rfl))) (mvT hZ (hw _ (List.mem_of_getElem? (i := 9) rfl))) (notFace_of_selects (args := #[]) (mvT hZ (hw _ (List.mem_of_getElem? (i := 11) rfl)))) (mvT hZ (hw _ (List.mem_of_getElem? (i := 11) rfl))) (mvT hZ (hw _ (List.mem_of_getElem? (i := 10) rfl))) (by decide) (backOf (W := 0) (rm2 l Z a0 hw [] a_PENDING a_COMPLETED a_QUEUED a_EXECUTING a_HELD a_ERROR a_SUSPENDED a_ABORTED a_ARCHIVED a_UNKNOWN HW a_ABORTED (8 : Int32) (1 : Int32) h0 n0 Ol F_ABORTED_ordinal E_ABORTED (by decide) (by simp)) hZ (hw _ (List.mem_of_getElem? (i := 12) rfl)) (hw _ (List.mem_of_getElem? (i := 6) rfl)) (by decide) (by decide)) q22a q22c (g := (mkF m 36 #[.val (.int p1), .val (.int (8 : Int32)), .val (.ref a_ABORTED), .val (.int (1 : Int32)), .unset] [(.ref a_ABORTED)])) rfl (by rw [hml]; rfl) (Steps.refl _) (argsL := []) (rest := []) (lenOf pd_2 rfl) rfl (by show 2 * 0 + _ ≤ _; exact Nat.le_of_eq rfl) (hb hby at_36) (fun _ _ => ⟨rfl, e21, (by decide : 0 + 0 ≤ _), (by decide : 0 + 0 ≤ _)⟩)
    dsimp only [Pt.U, Pt.locs, Pt.cells, Pt.slots] at X22 l22 y22 z22 st22 hQ22
    subst l22 y22 z22
    obtain ⟨rfl, Nq22, e22⟩ := hQ22
    have N22 := Fr.app N21 Nq22
    refine Go.step (fun t_ k_ => st22.trans k_) ?_
    show Go p e below _ (T22.setTop (mkF m 39 #[.val (.int p1), .val (.int (8 : Int32)), .val (.ref a_ABORTED), .val (.int (1 : Int32)), .unset] [(.int (1 : Int32))]))
    refine Go.step (fun t_ k_ => XS.istore X22.here hx rfl (hb hby at_39) rfl (l' := #[.val (.int p1), .val (.int (8 : Int32)), .val (.ref a_ABORTED), .val (.int (1 : Int32)), .val (.int (1 : Int32))]) rfl k_) ?_
    show Go p e below _ (T22.setTop (mkF m 41 #[.val (.int p1), .val (.int (8 : Int32)), .val (.ref a_ABORTED), .val (.int (1 : Int32)), .val (.int (1 : Int32))] []))
    refine Go.step (fun t_ k_ => XS.iload X22.here hx rfl (hb hby at_41) rfl k_) ?_
    show Go p e below _ (T22.setTop (mkF m 43 #[.val (.int p1), .val (.int (8 : Int32)), .val (.ref a_ABORTED), .val (.int (1 : Int32)), .val (.int (1 : Int32))] [(.int (1 : Int32))]))
    refine Go.step (fun t_ k_ => XS.iloadN X22.here hx rfl (hb hby at_43) rfl k_) ?_
    show Go p e below _ (T22.setTop (mkF m 44 #[.val (.int p1), .val (.int (8 : Int32)), .val (.ref a_ABORTED), .val (.int (1 : Int32)), .val (.int (1 : Int32))] [(.int (1 : Int32)), (.int (1 : Int32))]))
    have hc44 : (1 : Int32) = (1 : Int32) := by decide
    refine Go.step (fun t_ k_ => XS.icmpYes X22.here hx rfl (pc0 := 44) (pc' := 49) rfl (hb hby at_44) rfl (teq hc44).1 (by decide) (by decide) k_) ?_
    show Go p e below _ (T22.setTop (mkF m 49 #[.val (.int p1), .val (.int (8 : Int32)), .val (.ref a_ABORTED), .val (.int (1 : Int32)), .val (.int (1 : Int32))] []))
    refine Go.step (fun t_ k_ => XS.iload X22.here hx rfl (hb hby at_49) rfl k_) ?_
    show Go p e below _ (T22.setTop (mkF m 51 #[.val (.int p1), .val (.int (8 : Int32)), .val (.ref a_ABORTED), .val (.int (1 : Int32)), .val (.int (1 : Int32))] [(.int (1 : Int32))]))
    have hc51 : ¬ ((1 : Int32) = (0 : Int32)) := by decide
    refine Go.step (fun t_ k_ => XS.ifNo X22.here hx rfl (hb hby at_51) rfl ((if0 _ _).trans (feq hc51).1) k_) ?_
    show Go p e below _ (T22.setTop (mkF m 54 #[.val (.int p1), .val (.int (8 : Int32)), .val (.ref a_ABORTED), .val (.int (1 : Int32)), .val (.int (1 : Int32))] []))
    refine Go.step (fun t_ k_ => XS.aloadN X22.here hx rfl (hb hby at_54) rfl rfl k_) ?_
    show Go p e below _ (T22.setTop (mkF m 55 #[.val (.int p1), .val (.int (8 : Int32)), .val (.ref a_ABORTED), .val (.int (1 : Int32)), .val (.int (1 : Int32))] [(.ref a_ABORTED)]))
    obtain ⟨cq23, kq23, q23a, q23b, q23c⟩ := isOf hZ e22 (E_ABORTED.ext Ol.2)
    obtain ⟨_, _, ⟨T23, L23, k23, n23⟩, -, X23, ⟨Lc23, hQ23, l23, y23, z23⟩, st23⟩ := X22.virtualBack hx (y := (⟨"com/example/exposure/exposure/ExecutionPhase", "isActive", "()Z"⟩ : MethodName)) (z := (⟨"com/example/exposure/exposure/ExecutionPhase", "isActive", "()Z"⟩ : MethodName)) hown (mvT hZ (hw _ (List.mem_of_getElem? (i := 24) rfl))) (mvT hZ (hw _ (List.mem_of_getElem? (i := 25) rfl))) (notFace_of_selects (args := #[]) (mvT hZ (hw _ (List.mem_of_getElem? (i := 27) rfl)))) (mvT hZ (hw _ (List.mem_of_getElem? (i := 27) rfl))) (mvT hZ (hw _ (List.mem_of_getElem? (i := 26) rfl))) (by decide) (backOf (W := 0) (rm4 l Z a0 hw [] a_PENDING a_COMPLETED a_QUEUED a_EXECUTING a_HELD a_ERROR a_SUSPENDED a_ABORTED a_ARCHIVED a_UNKNOWN HW a_ABORTED (0 : Int32) h0 n0 Ol (by simp [(Fld.ne F_PENDING_ordinal F_COMPLETED_ordinal (by simp)), (Ne.symm (Fld.ne F_PENDING_ordinal F_COMPLETED_ordinal (by simp))), (Fld.ne F_PENDING_ordinal F_QUEUED_ordinal (by simp)), (Ne.symm (Fld.ne F_PENDING_ordinal F_QUEUED_ordinal (by simp))), (Fld.ne F_PENDING_ordinal F_EXECUTING_ordinal (by simp)), (Ne.symm (Fld.ne F_PENDING_ordinal F_EXECUTING_ordinal (by simp))), (Fld.ne F_PENDING_ordinal F_HELD_ordinal (by simp)), (Ne.symm (Fld.ne F_PENDING_ordinal F_HELD_ordinal (by simp))), (Fld.ne F_PENDING_ordinal F_ERROR_ordinal (by simp)), (Ne.symm (Fld.ne F_PENDING_ordinal F_ERROR_ordinal (by simp))), (Fld.ne F_PENDING_ordinal F_SUSPENDED_ordinal (by simp)), (Ne.symm (Fld.ne F_PENDING_ordinal F_SUSPENDED_ordinal (by simp))), (Fld.ne F_PENDING_ordinal F_ABORTED_ordinal (by simp)), (Ne.symm (Fld.ne F_PENDING_ordinal F_ABORTED_ordinal (by simp))), (Fld.ne F_PENDING_ordinal F_ARCHIVED_ordinal (by simp)), (Ne.symm (Fld.ne F_PENDING_ordinal F_ARCHIVED_ordinal (by simp))), (Fld.ne F_PENDING_ordinal F_UNKNOWN_ordinal (by simp)), (Ne.symm (Fld.ne F_PENDING_ordinal F_UNKNOWN_ordinal (by simp))), (Fld.ne F_COMPLETED_ordinal F_QUEUED_ordinal (by simp)), (Ne.symm (Fld.ne F_COMPLETED_ordinal F_QUEUED_ordinal (by simp))), (Fld.ne F_COMPLETED_ordinal F_EXECUTING_ordinal (by simp)), (Ne.symm (Fld.ne F_COMPLETED_ordinal F_EXECUTING_ordinal (by simp))), (Fld.ne F_COMPLETED_ordinal F_HELD_ordinal (by simp)), (Ne.symm (Fld.ne F_COMPLETED_ordinal F_HELD_ordinal (by simp))), (Fld.ne F_COMPLETED_ordinal F_ERROR_ordinal (by simp)), (Ne.symm (Fld.ne F_COMPLETED_ordinal F_ERROR_ordinal (by simp))), (Fld.ne F_COMPLETED_ordinal F_SUSPENDED_ordinal (by simp)), (Ne.symm (Fld.ne F_COMPLETED_ordinal F_SUSPENDED_ordinal (by simp))), (Fld.ne F_COMPLETED_ordinal F_ABORTED_ordinal (by simp)), (Ne.symm (Fld.ne F_COMPLETED_ordinal F_ABORTED_ordinal (by simp))), (Fld.ne F_COMPLETED_ordinal F_ARCHIVED_ordinal (by simp)), (Ne.symm (Fld.ne F_COMPLETED_ordinal F_ARCHIVED_ordinal (by simp))), (Fld.ne F_COMPLETED_ordinal F_UNKNOWN_ordinal (by simp)), (Ne.symm (Fld.ne F_COMPLETED_ordinal F_UNKNOWN_ordinal (by simp))), (Fld.ne F_QUEUED_ordinal F_EXECUTING_ordinal (by simp)), (Ne.symm (Fld.ne F_QUEUED_ordinal F_EXECUTING_ordinal (by simp))), (Fld.ne F_QUEUED_ordinal F_HELD_ordinal (by simp)), (Ne.symm (Fld.ne F_QUEUED_ordinal F_HELD_ordinal (by simp))), (Fld.ne F_QUEUED_ordinal F_ERROR_ordinal (by simp)), (Ne.symm (Fld.ne F_QUEUED_ordinal F_ERROR_ordinal (by simp))), (Fld.ne F_QUEUED_ordinal F_SUSPENDED_ordinal (by simp)), (Ne.symm (Fld.ne F_QUEUED_ordinal F_SUSPENDED_ordinal (by simp))), (Fld.ne F_QUEUED_ordinal F_ABORTED_ordinal (by simp)), (Ne.symm (Fld.ne F_QUEUED_ordinal F_ABORTED_ordinal (by simp))), (Fld.ne F_QUEUED_ordinal F_ARCHIVED_ordinal (by simp)), (Ne.symm (Fld.ne F_QUEUED_ordinal F_ARCHIVED_ordinal (by simp))), (Fld.ne F_QUEUED_ordinal F_UNKNOWN_ordinal (by simp)), (Ne.symm (Fld.ne F_QUEUED_ordinal F_UNKNOWN_ordinal (by simp))), (Fld.ne F_EXECUTING_ordinal F_HELD_ordinal (by simp)), (Ne.symm (Fld.ne F_EXECUTING_ordinal F_HELD_ordinal (by simp))), (Fld.ne F_EXECUTING_ordinal F_ERROR_ordinal (by simp)), (Ne.symm (Fld.ne F_EXECUTING_ordinal F_ERROR_ordinal (by simp))), (Fld.ne F_EXECUTING_ordinal F_SUSPENDED_ordinal (by simp)), (Ne.symm (Fld.ne F_EXECUTING_ordinal F_SUSPENDED_ordinal (by simp))), (Fld.ne F_EXECUTING_ordinal F_ABORTED_ordinal (by simp)), (Ne.symm (Fld.ne F_EXECUTING_ordinal F_ABORTED_ordinal (by simp))), (Fld.ne F_EXECUTING_ordinal F_ARCHIVED_ordinal (by simp)), (Ne.symm (Fld.ne F_EXECUTING_ordinal F_ARCHIVED_ordinal (by simp))), (Fld.ne F_EXECUTING_ordinal F_UNKNOWN_ordinal (by simp)), (Ne.symm (Fld.ne F_EXECUTING_ordinal F_UNKNOWN_ordinal (by simp))), (Fld.ne F_HELD_ordinal F_ERROR_ordinal (by simp)), (Ne.symm (Fld.ne F_HELD_ordinal F_ERROR_ordinal (by simp))), (Fld.ne F_HELD_ordinal F_SUSPENDED_ordinal (by simp)), (Ne.symm (Fld.ne F_HELD_ordinal F_SUSPENDED_ordinal (by simp))), (Fld.ne F_HELD_ordinal F_ABORTED_ordinal (by simp)), (Ne.symm (Fld.ne F_HELD_ordinal F_ABORTED_ordinal (by simp))), (Fld.ne F_HELD_ordinal F_ARCHIVED_ordinal (by simp)), (Ne.symm (Fld.ne F_HELD_ordinal F_ARCHIVED_ordinal (by simp))), (Fld.ne F_HELD_ordinal F_UNKNOWN_ordinal (by simp)), (Ne.symm (Fld.ne F_HELD_ordinal F_UNKNOWN_ordinal (by simp))), (Fld.ne F_ERROR_ordinal F_SUSPENDED_ordinal (by simp)), (Ne.symm (Fld.ne F_ERROR_ordinal F_SUSPENDED_ordinal (by simp))), (Fld.ne F_ERROR_ordinal F_ABORTED_ordinal (by simp)), (Ne.symm (Fld.ne F_ERROR_ordinal F_ABORTED_ordinal (by simp))), (Fld.ne F_ERROR_ordinal F_ARCHIVED_ordinal (by simp)), (Ne.symm (Fld.ne F_ERROR_ordinal F_ARCHIVED_ordinal (by simp))), (Fld.ne F_ERROR_ordinal F_UNKNOWN_ordinal (by simp)), (Ne.symm (Fld.ne F_ERROR_ordinal F_UNKNOWN_ordinal (by simp))), (Fld.ne F_SUSPENDED_ordinal F_ABORTED_ordinal (by simp)), (Ne.symm (Fld.ne F_SUSPENDED_ordinal F_ABORTED_ordinal (by simp))), (Fld.ne F_SUSPENDED_ordinal F_ARCHIVED_ordinal (by simp)), (Ne.symm (Fld.ne F_SUSPENDED_ordinal F_ARCHIVED_ordinal (by simp))), (Fld.ne F_SUSPENDED_ordinal F_UNKNOWN_ordinal (by simp)), (Ne.symm (Fld.ne F_SUSPENDED_ordinal F_UNKNOWN_ordinal (by simp))), (Fld.ne F_ABORTED_ordinal F_ARCHIVED_ordinal (by simp)), (Ne.symm (Fld.ne F_ABORTED_ordinal F_ARCHIVED_ordinal (by simp))), (Fld.ne F_ABORTED_ordinal F_UNKNOWN_ordinal (by simp)), (Ne.symm (Fld.ne F_ABORTED_ordinal F_UNKNOWN_ordinal (by simp))), (Fld.ne F_ARCHIVED_ordinal F_UNKNOWN_ordinal (by simp)), (Ne.symm (Fld.ne F_ARCHIVED_ordinal F_UNKNOWN_ordinal (by simp)))])) hZ (hw _ (List.mem_of_getElem? (i := 28) rfl)) (hw _ (List.mem_of_getElem? (i := 6) rfl)) (by decide) (by decide)) q23a q23c (g := (mkF m 55 #[.val (.int p1), .val (.int (8 : Int32)), .val (.ref a_ABORTED), .val (.int (1 : Int32)), .val (.int (1 : Int32))] [(.ref a_ABORTED)])) rfl (by rw [hml]; rfl) (Steps.refl _) (argsL := []) (rest := []) (lenOf pd_2 rfl) rfl (by show 2 * 0 + _ ≤ _; exact Nat.le_of_eq rfl) (hb hby at_55) (fun _ _ => ⟨rfl, e22, (by decide : 0 + 0 ≤ _), (by decide : 0 + 0 ≤ _)⟩)
    dsimp only [Pt.U, Pt.locs, Pt.cells, Pt.slots] at X23 l23 y23 z23 st23 hQ23
    subst l23 y23 z23
    obtain ⟨rfl, Nq23, e23⟩ := hQ23
    have N23 := Fr.app N22 Nq23
    refine Go.step (fun t_ k_ => st23.trans k_) ?_
    show Go p e below _ (T23.setTop (mkF m 58 #[.val (.int p1), .val (.int (8 : Int32)), .val (.ref a_ABORTED), .val (.int (1 : Int32)), .val (.int (1 : Int32))] [(.int (0 : Int32))]))
    have hc58 : (0 : Int32) = (0 : Int32) := by decide
    refine Go.step (fun t_ k_ => XS.ifNo X23.here hx rfl (hb hby at_58) rfl ((if0 _ _).trans (teq hc58).2) k_) ?_
    show Go p e below _ (T23.setTop (mkF m 61 #[.val (.int p1), .val (.int (8 : Int32)), .val (.ref a_ABORTED), .val (.int (1 : Int32)), .val (.int (1 : Int32))] []))
    refine Go.step (fun t_ k_ => XS.aloadN X23.here hx rfl (hb hby at_61) rfl rfl k_) ?_
    show Go p e below _ (T23.setTop (mkF m 62 #[.val (.int p1), .val (.int (8 : Int32)), .val (.ref a_ABORTED), .val (.int (1 : Int32)), .val (.int (1 : Int32))] [(.ref a_ABORTED)]))
    obtain ⟨cq24, kq24, q24a, q24b, q24c⟩ := isOf hZ e23 (E_ABORTED.ext Ol.2)
    obtain ⟨_, _, ⟨T24, L24, k24, n24⟩, -, X24, ⟨Lc24, hQ24, l24, y24, z24⟩, st24⟩ := X23.virtualBack hx (y := (⟨"com/example/exposure/exposure/ExecutionPhase", "canStart", "()Z"⟩ : MethodName)) (z := (⟨"com/example/exposure/exposure/ExecutionPhase", "canStart", "()Z"⟩ : MethodName)) hown (mvT hZ (hw _ (List.mem_of_getElem? (i := 34) rfl))) (mvT hZ (hw _ (List.mem_of_getElem? (i := 35) rfl))) (notFace_of_selects (args := #[]) (mvT hZ (hw _ (List.mem_of_getElem? (i := 37) rfl)))) (mvT hZ (hw _ (List.mem_of_getElem? (i := 37) rfl))) (mvT hZ (hw _ (List.mem_of_getElem? (i := 36) rfl))) (by decide) (backOf (W := 0) (rm5 l Z a0 hw [] a_PENDING a_COMPLETED a_QUEUED a_EXECUTING a_HELD a_ERROR a_SUSPENDED a_ABORTED a_ARCHIVED a_UNKNOWN HW a_ABORTED (0 : Int32) h0 n0 Ol (by simp [(Fld.ne F_PENDING_ordinal F_COMPLETED_ordinal (by simp)), (Ne.symm (Fld.ne F_PENDING_ordinal F_COMPLETED_ordinal (by simp))), (Fld.ne F_PENDING_ordinal F_QUEUED_ordinal (by simp)), (Ne.symm (Fld.ne F_PENDING_ordinal F_QUEUED_ordinal (by simp))), (Fld.ne F_PENDING_ordinal F_EXECUTING_ordinal (by simp)), (Ne.symm (Fld.ne F_PENDING_ordinal F_EXECUTING_ordinal (by simp))), (Fld.ne F_PENDING_ordinal F_HELD_ordinal (by simp)), (Ne.symm (Fld.ne F_PENDING_ordinal F_HELD_ordinal (by simp))), (Fld.ne F_PENDING_ordinal F_ERROR_ordinal (by simp)), (Ne.symm (Fld.ne F_PENDING_ordinal F_ERROR_ordinal (by simp))), (Fld.ne F_PENDING_ordinal F_SUSPENDED_ordinal (by simp)), (Ne.symm (Fld.ne F_PENDING_ordinal F_SUSPENDED_ordinal (by simp))), (Fld.ne F_PENDING_ordinal F_ABORTED_ordinal (by simp)), (Ne.symm (Fld.ne F_PENDING_ordinal F_ABORTED_ordinal (by simp))), (Fld.ne F_PENDING_ordinal F_ARCHIVED_ordinal (by simp)), (Ne.symm (Fld.ne F_PENDING_ordinal F_ARCHIVED_ordinal (by simp))), (Fld.ne F_PENDING_ordinal F_UNKNOWN_ordinal (by simp)), (Ne.symm (Fld.ne F_PENDING_ordinal F_UNKNOWN_ordinal (by simp))), (Fld.ne F_COMPLETED_ordinal F_QUEUED_ordinal (by simp)), (Ne.symm (Fld.ne F_COMPLETED_ordinal F_QUEUED_ordinal (by simp))), (Fld.ne F_COMPLETED_ordinal F_EXECUTING_ordinal (by simp)), (Ne.symm (Fld.ne F_COMPLETED_ordinal F_EXECUTING_ordinal (by simp))), (Fld.ne F_COMPLETED_ordinal F_HELD_ordinal (by simp)), (Ne.symm (Fld.ne F_COMPLETED_ordinal F_HELD_ordinal (by simp))), (Fld.ne F_COMPLETED_ordinal F_ERROR_ordinal (by simp)), (Ne.symm (Fld.ne F_COMPLETED_ordinal F_ERROR_ordinal (by simp))), (Fld.ne F_COMPLETED_ordinal F_SUSPENDED_ordinal (by simp)), (Ne.symm (Fld.ne F_COMPLETED_ordinal F_SUSPENDED_ordinal (by simp))), (Fld.ne F_COMPLETED_ordinal F_ABORTED_ordinal (by simp)), (Ne.symm (Fld.ne F_COMPLETED_ordinal F_ABORTED_ordinal (by simp))), (Fld.ne F_COMPLETED_ordinal F_ARCHIVED_ordinal (by simp)), (Ne.symm (Fld.ne F_COMPLETED_ordinal F_ARCHIVED_ordinal (by simp))), (Fld.ne F_COMPLETED_ordinal F_UNKNOWN_ordinal (by simp)), (Ne.symm (Fld.ne F_COMPLETED_ordinal F_UNKNOWN_ordinal (by simp))), (Fld.ne F_QUEUED_ordinal F_EXECUTING_ordinal (by simp)), (Ne.symm (Fld.ne F_QUEUED_ordinal F_EXECUTING_ordinal (by simp))), (Fld.ne F_QUEUED_ordinal F_HELD_ordinal (by simp)), (Ne.symm (Fld.ne F_QUEUED_ordinal F_HELD_ordinal (by simp))), (Fld.ne F_QUEUED_ordinal F_ERROR_ordinal (by simp)), (Ne.symm (Fld.ne F_QUEUED_ordinal F_ERROR_ordinal (by simp))), (Fld.ne F_QUEUED_ordinal F_SUSPENDED_ordinal (by simp)), (Ne.symm (Fld.ne F_QUEUED_ordinal F_SUSPENDED_ordinal (by simp))), (Fld.ne F_QUEUED_ordinal F_ABORTED_ordinal (by simp)), (Ne.symm (Fld.ne F_QUEUED_ordinal F_ABORTED_ordinal (by simp))), (Fld.ne F_QUEUED_ordinal F_ARCHIVED_ordinal (by simp)), (Ne.symm (Fld.ne F_QUEUED_ordinal F_ARCHIVED_ordinal (by simp))), (Fld.ne F_QUEUED_ordinal F_UNKNOWN_ordinal (by simp)), (Ne.symm (Fld.ne F_QUEUED_ordinal F_UNKNOWN_ordinal (by simp))), (Fld.ne F_EXECUTING_ordinal F_HELD_ordinal (by simp)), (Ne.symm (Fld.ne F_EXECUTING_ordinal F_HELD_ordinal (by simp))), (Fld.ne F_EXECUTING_ordinal F_ERROR_ordinal (by simp)), (Ne.symm (Fld.ne F_EXECUTING_ordinal F_ERROR_ordinal (by simp))), (Fld.ne F_EXECUTING_ordinal F_SUSPENDED_ordinal (by simp)), (Ne.symm (Fld.ne F_EXECUTING_ordinal F_SUSPENDED_ordinal (by simp))), (Fld.ne F_EXECUTING_ordinal F_ABORTED_ordinal (by simp)), (Ne.symm (Fld.ne F_EXECUTING_ordinal F_ABORTED_ordinal (by simp))), (Fld.ne F_EXECUTING_ordinal F_ARCHIVED_ordinal (by simp)), (Ne.symm (Fld.ne F_EXECUTING_ordinal F_ARCHIVED_ordinal (by simp))), (Fld.ne F_EXECUTING_ordinal F_UNKNOWN_ordinal (by simp)), (Ne.symm (Fld.ne F_EXECUTING_ordinal F_UNKNOWN_ordinal (by simp))), (Fld.ne F_HELD_ordinal F_ERROR_ordinal (by simp)), (Ne.symm (Fld.ne F_HELD_ordinal F_ERROR_ordinal (by simp))), (Fld.ne F_HELD_ordinal F_SUSPENDED_ordinal (by simp)), (Ne.symm (Fld.ne F_HELD_ordinal F_SUSPENDED_ordinal (by simp))), (Fld.ne F_HELD_ordinal F_ABORTED_ordinal (by simp)), (Ne.symm (Fld.ne F_HELD_ordinal F_ABORTED_ordinal (by simp))), (Fld.ne F_HELD_ordinal F_ARCHIVED_ordinal (by simp)), (Ne.symm (Fld.ne F_HELD_ordinal F_ARCHIVED_ordinal (by simp))), (Fld.ne F_HELD_ordinal F_UNKNOWN_ordinal (by simp)), (Ne.symm (Fld.ne F_HELD_ordinal F_UNKNOWN_ordinal (by simp))), (Fld.ne F_ERROR_ordinal F_SUSPENDED_ordinal (by simp)), (Ne.symm (Fld.ne F_ERROR_ordinal F_SUSPENDED_ordinal (by simp))), (Fld.ne F_ERROR_ordinal F_ABORTED_ordinal (by simp)), (Ne.symm (Fld.ne F_ERROR_ordinal F_ABORTED_ordinal (by simp))), (Fld.ne F_ERROR_ordinal F_ARCHIVED_ordinal (by simp)), (Ne.symm (Fld.ne F_ERROR_ordinal F_ARCHIVED_ordinal (by simp))), (Fld.ne F_ERROR_ordinal F_UNKNOWN_ordinal (by simp)), (Ne.symm (Fld.ne F_ERROR_ordinal F_UNKNOWN_ordinal (by simp))), (Fld.ne F_SUSPENDED_ordinal F_ABORTED_ordinal (by simp)), (Ne.symm (Fld.ne F_SUSPENDED_ordinal F_ABORTED_ordinal (by simp))), (Fld.ne F_SUSPENDED_ordinal F_ARCHIVED_ordinal (by simp)), (Ne.symm (Fld.ne F_SUSPENDED_ordinal F_ARCHIVED_ordinal (by simp))), (Fld.ne F_SUSPENDED_ordinal F_UNKNOWN_ordinal (by simp)), (Ne.symm (Fld.ne F_SUSPENDED_ordinal F_UNKNOWN_ordinal (by simp))), (Fld.ne F_ABORTED_ordinal F_ARCHIVED_ordinal (by simp)), (Ne.symm (Fld.ne F_ABORTED_ordinal F_ARCHIVED_ordinal (by simp))), (Fld.ne F_ABORTED_ordinal F_UNKNOWN_ordinal (by simp)), (Ne.symm (Fld.ne F_ABORTED_ordinal F_UNKNOWN_ordinal (by simp))), (Fld.ne F_ARCHIVED_ordinal F_UNKNOWN_ordinal (by simp)), (Ne.symm (Fld.ne F_ARCHIVED_ordinal F_UNKNOWN_ordinal (by simp)))])) hZ (hw _ (List.mem_of_getElem? (i := 38) rfl)) (hw _ (List.mem_of_getElem? (i := 6) rfl)) (by decide) (by decide)) q24a q24c (g := (mkF m 62 #[.val (.int p1), .val (.int (8 : Int32)), .val (.ref a_ABORTED), .val (.int (1 : Int32)), .val (.int (1 : Int32))] [(.ref a_ABORTED)])) rfl (by rw [hml]; rfl) (Steps.refl _) (argsL := []) (rest := []) (lenOf pd_2 rfl) rfl (by show 2 * 0 + _ ≤ _; exact Nat.le_of_eq rfl) (hb hby at_62) (fun _ _ => ⟨rfl, e23, (by decide : 0 + 0 ≤ _), (by decide : 0 + 0 ≤ _)⟩)
    dsimp only [Pt.U, Pt.locs, Pt.cells, Pt.slots] at X24 l24 y24 z24 st24 hQ24
    subst l24 y24 z24
    obtain ⟨rfl, Nq24, e24⟩ := hQ24
    have N24 := Fr.app N23 Nq24
    refine Go.step (fun t_ k_ => st24.trans k_) ?_
    show Go p e below _ (T24.setTop (mkF m 65 #[.val (.int p1), .val (.int (8 : Int32)), .val (.ref a_ABORTED), .val (.int (1 : Int32)), .val (.int (1 : Int32))] [(.int (0 : Int32))]))
    have hc65 : (0 : Int32) = (0 : Int32) := by decide
    refine Go.step (fun t_ k_ => XS.ifYes X24.here hx rfl (pc0 := 65) (pc' := 70) rfl (hb hby at_65) rfl ((if0 _ _).trans (teq hc65).1) (by decide) (by decide) k_) ?_
    show Go p e below _ (T24.setTop (mkF m 70 #[.val (.int p1), .val (.int (8 : Int32)), .val (.ref a_ABORTED), .val (.int (1 : Int32)), .val (.int (1 : Int32))] []))
    refine Go.step (fun t_ k_ => XS.iconst X24.here hx rfl (hb hby at_70) k_) ?_
    show Go p e below _ (T24.setTop (mkF m 71 #[.val (.int p1), .val (.int (8 : Int32)), .val (.ref a_ABORTED), .val (.int (1 : Int32)), .val (.int (1 : Int32))] [(.int (1 : Int32))]))
    refine Go.retZ X24 hx (t := .boolean) Bd.returns (by simp) Bd.notSynchronized (hb hby at_71) (by rw [e24]; exact ⟨rfl, N24⟩) (by decide) (by decide)
  next =>
    show Go p e below _ (s₁.setTop (mkF m 8 #[.val (.int p1), .val (.int (9 : Int32)), .unset, .unset, .unset] []))
    refine Go.step (fun t_ k_ => XS.iloadN X0.here hx rfl (hb hby at_8) rfl k_) ?_
    show Go p e below _ (s₁.setTop (mkF m 9 #[.val (.int p1), .val (.int (9 : Int32)), .unset, .unset, .unset] [(.int (9 : Int32))]))
    obtain ⟨_, _, ⟨T25, L25, k25, n25⟩, -, X25, ⟨Lc25, hQ25, l25, y25, z25⟩, st25⟩ := Jvm.LawKit.callS X0 hx (y := (⟨"com/example/exposure/exposure/ExecutionPhaseIsFinalPinLaw", "pick", "(I)Lcom/example/exposure/exposure/ExecutionPhase;"⟩ : MethodName)) hown (mvT hZ (hw _ (List.mem_of_getElem? (i := 1) rfl))) (mvT hZ (hw _ (List.mem_of_getElem? (i := 2) rfl))) (mvT hZ (hw _ (List.mem_of_getElem? (i := 3) rfl))) (mvT hZ (hw _ (List.mem_of_getElem? (i := 4) rfl))) (by decide) (backOf (W := 0) (rm1 l Z a0 hw [] a_PENDING a_COMPLETED a_QUEUED a_EXECUTING a_HELD a_ERROR a_SUSPENDED a_ABORTED a_ARCHIVED a_UNKNOWN HW (9 : Int32) a_ARCHIVED h0 n0 Ol (by simp)) hZ (hw _ (List.mem_of_getElem? (i := 4) rfl)) (hw _ (List.mem_of_getElem? (i := 3) rfl)) (by decide) (by decide)) (g := (mkF m 9 #[.val (.int p1), .val (.int (9 : Int32)), .unset, .unset, .unset] [(.int (9 : Int32))])) rfl (by rw [hml]; rfl) (argsL := [(.int (9 : Int32))]) (rest := []) (lenOf pd_1 rfl) rfl (by show 2 * 0 + _ ≤ _; exact Nat.le_of_eq rfl) (hb hby at_9) (fun _ _ => ⟨rfl, e0, (by decide : 0 + 0 ≤ _), (by decide : 0 + 0 ≤ _)⟩)
    dsimp only [Pt.U, Pt.locs, Pt.cells, Pt.slots] at X25 l25 y25 z25 st25 hQ25
    subst l25 y25 z25
    obtain ⟨rfl, Nq25, e25⟩ := hQ25
    have N25 := Fr.app N0 Nq25
    refine Go.step st25 ?_
    show Go p e below _ (T25.setTop (mkF m 12 #[.val (.int p1), .val (.int (9 : Int32)), .unset, .unset, .unset] [(.ref a_ARCHIVED)]))
    refine Go.step (fun t_ k_ => XS.astoreN X25.here hx rfl (hb hby at_12) rfl rfl (l' := #[.val (.int p1), .val (.int (9 : Int32)), .val (.ref a_ARCHIVED), .unset, .unset]) rfl k_) ?_
    show Go p e below _ (T25.setTop (mkF m 13 #[.val (.int p1), .val (.int (9 : Int32)), .val (.ref a_ARCHIVED), .unset, .unset] []))
    refine Go.step (fun t_ k_ => XS.iloadN X25.here hx rfl (hb hby at_13) rfl k_) ?_
    show Go p e below _ (T25.setTop (mkF m 14 #[.val (.int p1), .val (.int (9 : Int32)), .val (.ref a_ARCHIVED), .unset, .unset] [(.int (9 : Int32))]))
    refine Go.step (fun t_ k_ => XS.iconst X25.here hx rfl (hb hby at_14) k_) ?_
    show Go p e below _ (T25.setTop (mkF m 15 #[.val (.int p1), .val (.int (9 : Int32)), .val (.ref a_ARCHIVED), .unset, .unset] [(.int (3 : Int32)), (.int (9 : Int32))]))
    have hc15 : ¬ ((9 : Int32) = (3 : Int32)) := by decide
    refine Go.step (fun t_ k_ => XS.icmpNo X25.here hx rfl (hb hby at_15) rfl (feq hc15).1 k_) ?_
    show Go p e below _ (T25.setTop (mkF m 18 #[.val (.int p1), .val (.int (9 : Int32)), .val (.ref a_ARCHIVED), .unset, .unset] []))
    refine Go.step (fun t_ k_ => XS.iloadN X25.here hx rfl (hb hby at_18) rfl k_) ?_
    show Go p e below _ (T25.setTop (mkF m 19 #[.val (.int p1), .val (.int (9 : Int32)), .val (.ref a_ARCHIVED), .unset, .unset] [(.int (9 : Int32))]))
    refine Go.step (fun t_ k_ => XS.iconst X25.here hx rfl (hb hby at_19) k_) ?_
    show Go p e below _ (T25.setTop (mkF m 20 #[.val (.int p1), .val (.int (9 : Int32)), .val (.ref a_ARCHIVED), .unset, .unset] [(.int (4 : Int32)), (.int (9 : Int32))]))
    have hc20 : ¬ ((9 : Int32) = (4 : Int32)) := by decide
    refine Go.step (fun t_ k_ => XS.icmpNo X25.here hx rfl (hb hby at_20) rfl (feq hc20).1 k_) ?_
    show Go p e below _ (T25.setTop (mkF m 23 #[.val (.int p1), .val (.int (9 : Int32)), .val (.ref a_ARCHIVED), .unset, .unset] []))
    refine Go.step (fun t_ k_ => XS.iloadN X25.here hx rfl (hb hby at_23) rfl k_) ?_
    show Go p e below _ (T25.setTop (mkF m 24 #[.val (.int p1), .val (.int (9 : Int32)), .val (.ref a_ARCHIVED), .unset, .unset] [(.int (9 : Int32))]))
    refine Go.step (fun t_ k_ => XS.bipush X25.here hx rfl (hb hby at_24) k_) ?_
    show Go p e below _ (T25.setTop (mkF m 26 #[.val (.int p1), .val (.int (9 : Int32)), .val (.ref a_ARCHIVED), .unset, .unset] [(.int (8 : Int32)), (.int (9 : Int32))]))
    have hc26 : ¬ ((9 : Int32) < (8 : Int32)) := by decide
    refine Go.step (fun t_ k_ => XS.icmpNo X25.here hx rfl (hb hby at_26) rfl (flt hc26).1 k_) ?_
    show Go p e below _ (T25.setTop (mkF m 29 #[.val (.int p1), .val (.int (9 : Int32)), .val (.ref a_ARCHIVED), .unset, .unset] []))
    refine Go.step (fun t_ k_ => XS.iconst X25.here hx rfl (hb hby at_29) k_) ?_
    show Go p e below _ (T25.setTop (mkF m 30 #[.val (.int p1), .val (.int (9 : Int32)), .val (.ref a_ARCHIVED), .unset, .unset] [(.int (1 : Int32))]))
    refine Go.step (fun t_ k_ => XS.goto X25.here hx rfl (pc0 := 30) (pc' := 34) rfl (hb hby at_30) (by decide) (by decide) k_) ?_
    show Go p e below _ (T25.setTop (mkF m 34 #[.val (.int p1), .val (.int (9 : Int32)), .val (.ref a_ARCHIVED), .unset, .unset] [(.int (1 : Int32))]))
    refine Go.step (fun t_ k_ => XS.istoreN X25.here hx rfl (hb hby at_34) rfl (l' := #[.val (.int p1), .val (.int (9 : Int32)), .val (.ref a_ARCHIVED), .val (.int (1 : Int32)), .unset]) rfl k_) ?_
    show Go p e below _ (T25.setTop (mkF m 35 #[.val (.int p1), .val (.int (9 : Int32)), .val (.ref a_ARCHIVED), .val (.int (1 : Int32)), .unset] []))
    refine Go.step (fun t_ k_ => XS.aloadN X25.here hx rfl (hb hby at_35) rfl rfl k_) ?_
    show Go p e below _ (T25.setTop (mkF m 36 #[.val (.int p1), .val (.int (9 : Int32)), .val (.ref a_ARCHIVED), .val (.int (1 : Int32)), .unset] [(.ref a_ARCHIVED)]))
    obtain ⟨cq26, kq26, q26a, q26b, q26c⟩ := isOf hZ e25 (E_ARCHIVED.ext Ol.2)
    obtain ⟨_, _, ⟨T26, L26, k26, n26⟩, -, X26, ⟨Lc26, hQ26, l26, y26, z26⟩, st26⟩ := X25.virtualBack hx (y := (⟨"com/example/exposure/exposure/ExecutionPhase", "isFinal", "()Z"⟩ : MethodName)) (z := (⟨"com/example/exposure/exposure/ExecutionPhase", "isFinal", "()Z"⟩ : MethodName)) hown (mvT hZ (hw _ (List.mem_of_getElem? (i := 8) rfl))) (mvT hZ (hw _ (List.mem_of_getElem? (i := 9) rfl))) (notFace_of_selects (args := #[]) (mvT hZ (hw _ (List.mem_of_getElem? (i := 11) rfl)))) (mvT hZ (hw _ (List.mem_of_getElem? (i := 11) rfl))) (mvT hZ (hw _ (List.mem_of_getElem? (i := 10) rfl))) (by decide) (backOf (W := 0) (rm2 l Z a0 hw [] a_PENDING a_COMPLETED a_QUEUED a_EXECUTING a_HELD a_ERROR a_SUSPENDED a_ABORTED a_ARCHIVED a_UNKNOWN HW a_ARCHIVED (9 : Int32) (1 : Int32) h0 n0 Ol F_ARCHIVED_ordinal E_ARCHIVED (by decide) (by simp)) hZ (hw _ (List.mem_of_getElem? (i := 12) rfl)) (hw _ (List.mem_of_getElem? (i := 6) rfl)) (by decide) (by decide)) q26a q26c (g := (mkF m 36 #[.val (.int p1), .val (.int (9 : Int32)), .val (.ref a_ARCHIVED), .val (.int (1 : Int32)), .unset] [(.ref a_ARCHIVED)])) rfl (by rw [hml]; rfl) (Steps.refl _) (argsL := []) (rest := []) (lenOf pd_2 rfl) rfl (by show 2 * 0 + _ ≤ _; exact Nat.le_of_eq rfl) (hb hby at_36) (fun _ _ => ⟨rfl, e25, (by decide : 0 + 0 ≤ _), (by decide : 0 + 0 ≤ _)⟩)
    dsimp only [Pt.U, Pt.locs, Pt.cells, Pt.slots] at X26 l26 y26 z26 st26 hQ26
    subst l26 y26 z26
    obtain ⟨rfl, Nq26, e26⟩ := hQ26
    have N26 := Fr.app N25 Nq26
    refine Go.step (fun t_ k_ => st26.trans k_) ?_
    show Go p e below _ (T26.setTop (mkF m 39 #[.val (.int p1), .val (.int (9 : Int32)), .val (.ref a_ARCHIVED), .val (.int (1 : Int32)), .unset] [(.int (1 : Int32))]))
    refine Go.step (fun t_ k_ => XS.istore X26.here hx rfl (hb hby at_39) rfl (l' := #[.val (.int p1), .val (.int (9 : Int32)), .val (.ref a_ARCHIVED), .val (.int (1 : Int32)), .val (.int (1 : Int32))]) rfl k_) ?_
    show Go p e below _ (T26.setTop (mkF m 41 #[.val (.int p1), .val (.int (9 : Int32)), .val (.ref a_ARCHIVED), .val (.int (1 : Int32)), .val (.int (1 : Int32))] []))
    refine Go.step (fun t_ k_ => XS.iload X26.here hx rfl (hb hby at_41) rfl k_) ?_
    show Go p e below _ (T26.setTop (mkF m 43 #[.val (.int p1), .val (.int (9 : Int32)), .val (.ref a_ARCHIVED), .val (.int (1 : Int32)), .val (.int (1 : Int32))] [(.int (1 : Int32))]))
    refine Go.step (fun t_ k_ => XS.iloadN X26.here hx rfl (hb hby at_43) rfl k_) ?_
    show Go p e below _ (T26.setTop (mkF m 44 #[.val (.int p1), .val (.int (9 : Int32)), .val (.ref a_ARCHIVED), .val (.int (1 : Int32)), .val (.int (1 : Int32))] [(.int (1 : Int32)), (.int (1 : Int32))]))
    have hc44 : (1 : Int32) = (1 : Int32) := by decide
    refine Go.step (fun t_ k_ => XS.icmpYes X26.here hx rfl (pc0 := 44) (pc' := 49) rfl (hb hby at_44) rfl (teq hc44).1 (by decide) (by decide) k_) ?_
    show Go p e below _ (T26.setTop (mkF m 49 #[.val (.int p1), .val (.int (9 : Int32)), .val (.ref a_ARCHIVED), .val (.int (1 : Int32)), .val (.int (1 : Int32))] []))
    refine Go.step (fun t_ k_ => XS.iload X26.here hx rfl (hb hby at_49) rfl k_) ?_
    show Go p e below _ (T26.setTop (mkF m 51 #[.val (.int p1), .val (.int (9 : Int32)), .val (.ref a_ARCHIVED), .val (.int (1 : Int32)), .val (.int (1 : Int32))] [(.int (1 : Int32))]))
    have hc51 : ¬ ((1 : Int32) = (0 : Int32)) := by decide
    refine Go.step (fun t_ k_ => XS.ifNo X26.here hx rfl (hb hby at_51) rfl ((if0 _ _).trans (feq hc51).1) k_) ?_
    show Go p e below _ (T26.setTop (mkF m 54 #[.val (.int p1), .val (.int (9 : Int32)), .val (.ref a_ARCHIVED), .val (.int (1 : Int32)), .val (.int (1 : Int32))] []))
    refine Go.step (fun t_ k_ => XS.aloadN X26.here hx rfl (hb hby at_54) rfl rfl k_) ?_
    show Go p e below _ (T26.setTop (mkF m 55 #[.val (.int p1), .val (.int (9 : Int32)), .val (.ref a_ARCHIVED), .val (.int (1 : Int32)), .val (.int (1 : Int32))] [(.ref a_ARCHIVED)]))
    obtain ⟨cq27, kq27, q27a, q27b, q27c⟩ := isOf hZ e26 (E_ARCHIVED.ext Ol.2)
    obtain ⟨_, _, ⟨T27, L27, k27, n27⟩, -, X27, ⟨Lc27, hQ27, l27, y27, z27⟩, st27⟩ := X26.virtualBack hx (y := (⟨"com/example/exposure/exposure/ExecutionPhase", "isActive", "()Z"⟩ : MethodName)) (z := (⟨"com/example/exposure/exposure/ExecutionPhase", "isActive", "()Z"⟩ : MethodName)) hown (mvT hZ (hw _ (List.mem_of_getElem? (i := 24) rfl))) (mvT hZ (hw _ (List.mem_of_getElem? (i := 25) rfl))) (notFace_of_selects (args := #[]) (mvT hZ (hw _ (List.mem_of_getElem? (i := 27) rfl)))) (mvT hZ (hw _ (List.mem_of_getElem? (i := 27) rfl))) (mvT hZ (hw _ (List.mem_of_getElem? (i := 26) rfl))) (by decide) (backOf (W := 0) (rm4 l Z a0 hw [] a_PENDING a_COMPLETED a_QUEUED a_EXECUTING a_HELD a_ERROR a_SUSPENDED a_ABORTED a_ARCHIVED a_UNKNOWN HW a_ARCHIVED (0 : Int32) h0 n0 Ol (by simp [(Fld.ne F_PENDING_ordinal F_COMPLETED_ordinal (by simp)), (Ne.symm (Fld.ne F_PENDING_ordinal F_COMPLETED_ordinal (by simp))), (Fld.ne F_PENDING_ordinal F_QUEUED_ordinal (by simp)), (Ne.symm (Fld.ne F_PENDING_ordinal F_QUEUED_ordinal (by simp))), (Fld.ne F_PENDING_ordinal F_EXECUTING_ordinal (by simp)), (Ne.symm (Fld.ne F_PENDING_ordinal F_EXECUTING_ordinal (by simp))), (Fld.ne F_PENDING_ordinal F_HELD_ordinal (by simp)), (Ne.symm (Fld.ne F_PENDING_ordinal F_HELD_ordinal (by simp))), (Fld.ne F_PENDING_ordinal F_ERROR_ordinal (by simp)), (Ne.symm (Fld.ne F_PENDING_ordinal F_ERROR_ordinal (by simp))), (Fld.ne F_PENDING_ordinal F_SUSPENDED_ordinal (by simp)), (Ne.symm (Fld.ne F_PENDING_ordinal F_SUSPENDED_ordinal (by simp))), (Fld.ne F_PENDING_ordinal F_ABORTED_ordinal (by simp)), (Ne.symm (Fld.ne F_PENDING_ordinal F_ABORTED_ordinal (by simp))), (Fld.ne F_PENDING_ordinal F_ARCHIVED_ordinal (by simp)), (Ne.symm (Fld.ne F_PENDING_ordinal F_ARCHIVED_ordinal (by simp))), (Fld.ne F_PENDING_ordinal F_UNKNOWN_ordinal (by simp)), (Ne.symm (Fld.ne F_PENDING_ordinal F_UNKNOWN_ordinal (by simp))), (Fld.ne F_COMPLETED_ordinal F_QUEUED_ordinal (by simp)), (Ne.symm (Fld.ne F_COMPLETED_ordinal F_QUEUED_ordinal (by simp))), (Fld.ne F_COMPLETED_ordinal F_EXECUTING_ordinal (by simp)), (Ne.symm (Fld.ne F_COMPLETED_ordinal F_EXECUTING_ordinal (by simp))), (Fld.ne F_COMPLETED_ordinal F_HELD_ordinal (by simp)), (Ne.symm (Fld.ne F_COMPLETED_ordinal F_HELD_ordinal (by simp))), (Fld.ne F_COMPLETED_ordinal F_ERROR_ordinal (by simp)), (Ne.symm (Fld.ne F_COMPLETED_ordinal F_ERROR_ordinal (by simp))), (Fld.ne F_COMPLETED_ordinal F_SUSPENDED_ordinal (by simp)), (Ne.symm (Fld.ne F_COMPLETED_ordinal F_SUSPENDED_ordinal (by simp))), (Fld.ne F_COMPLETED_ordinal F_ABORTED_ordinal (by simp)), (Ne.symm (Fld.ne F_COMPLETED_ordinal F_ABORTED_ordinal (by simp))), (Fld.ne F_COMPLETED_ordinal F_ARCHIVED_ordinal (by simp)), (Ne.symm (Fld.ne F_COMPLETED_ordinal F_ARCHIVED_ordinal (by simp))), (Fld.ne F_COMPLETED_ordinal F_UNKNOWN_ordinal (by simp)), (Ne.symm (Fld.ne F_COMPLETED_ordinal F_UNKNOWN_ordinal (by simp))), (Fld.ne F_QUEUED_ordinal F_EXECUTING_ordinal (by simp)), (Ne.symm (Fld.ne F_QUEUED_ordinal F_EXECUTING_ordinal (by simp))), (Fld.ne F_QUEUED_ordinal F_HELD_ordinal (by simp)), (Ne.symm (Fld.ne F_QUEUED_ordinal F_HELD_ordinal (by simp))), (Fld.ne F_QUEUED_ordinal F_ERROR_ordinal (by simp)), (Ne.symm (Fld.ne F_QUEUED_ordinal F_ERROR_ordinal (by simp))), (Fld.ne F_QUEUED_ordinal F_SUSPENDED_ordinal (by simp)), (Ne.symm (Fld.ne F_QUEUED_ordinal F_SUSPENDED_ordinal (by simp))), (Fld.ne F_QUEUED_ordinal F_ABORTED_ordinal (by simp)), (Ne.symm (Fld.ne F_QUEUED_ordinal F_ABORTED_ordinal (by simp))), (Fld.ne F_QUEUED_ordinal F_ARCHIVED_ordinal (by simp)), (Ne.symm (Fld.ne F_QUEUED_ordinal F_ARCHIVED_ordinal (by simp))), (Fld.ne F_QUEUED_ordinal F_UNKNOWN_ordinal (by simp)), (Ne.symm (Fld.ne F_QUEUED_ordinal F_UNKNOWN_ordinal (by simp))), (Fld.ne F_EXECUTING_ordinal F_HELD_ordinal (by simp)), (Ne.symm (Fld.ne F_EXECUTING_ordinal F_HELD_ordinal (by simp))), (Fld.ne F_EXECUTING_ordinal F_ERROR_ordinal (by simp)), (Ne.symm (Fld.ne F_EXECUTING_ordinal F_ERROR_ordinal (by simp))), (Fld.ne F_EXECUTING_ordinal F_SUSPENDED_ordinal (by simp)), (Ne.symm (Fld.ne F_EXECUTING_ordinal F_SUSPENDED_ordinal (by simp))), (Fld.ne F_EXECUTING_ordinal F_ABORTED_ordinal (by simp)), (Ne.symm (Fld.ne F_EXECUTING_ordinal F_ABORTED_ordinal (by simp))), (Fld.ne F_EXECUTING_ordinal F_ARCHIVED_ordinal (by simp)), (Ne.symm (Fld.ne F_EXECUTING_ordinal F_ARCHIVED_ordinal (by simp))), (Fld.ne F_EXECUTING_ordinal F_UNKNOWN_ordinal (by simp)), (Ne.symm (Fld.ne F_EXECUTING_ordinal F_UNKNOWN_ordinal (by simp))), (Fld.ne F_HELD_ordinal F_ERROR_ordinal (by simp)), (Ne.symm (Fld.ne F_HELD_ordinal F_ERROR_ordinal (by simp))), (Fld.ne F_HELD_ordinal F_SUSPENDED_ordinal (by simp)), (Ne.symm (Fld.ne F_HELD_ordinal F_SUSPENDED_ordinal (by simp))), (Fld.ne F_HELD_ordinal F_ABORTED_ordinal (by simp)), (Ne.symm (Fld.ne F_HELD_ordinal F_ABORTED_ordinal (by simp))), (Fld.ne F_HELD_ordinal F_ARCHIVED_ordinal (by simp)), (Ne.symm (Fld.ne F_HELD_ordinal F_ARCHIVED_ordinal (by simp))), (Fld.ne F_HELD_ordinal F_UNKNOWN_ordinal (by simp)), (Ne.symm (Fld.ne F_HELD_ordinal F_UNKNOWN_ordinal (by simp))), (Fld.ne F_ERROR_ordinal F_SUSPENDED_ordinal (by simp)), (Ne.symm (Fld.ne F_ERROR_ordinal F_SUSPENDED_ordinal (by simp))), (Fld.ne F_ERROR_ordinal F_ABORTED_ordinal (by simp)), (Ne.symm (Fld.ne F_ERROR_ordinal F_ABORTED_ordinal (by simp))), (Fld.ne F_ERROR_ordinal F_ARCHIVED_ordinal (by simp)), (Ne.symm (Fld.ne F_ERROR_ordinal F_ARCHIVED_ordinal (by simp))), (Fld.ne F_ERROR_ordinal F_UNKNOWN_ordinal (by simp)), (Ne.symm (Fld.ne F_ERROR_ordinal F_UNKNOWN_ordinal (by simp))), (Fld.ne F_SUSPENDED_ordinal F_ABORTED_ordinal (by simp)), (Ne.symm (Fld.ne F_SUSPENDED_ordinal F_ABORTED_ordinal (by simp))), (Fld.ne F_SUSPENDED_ordinal F_ARCHIVED_ordinal (by simp)), (Ne.symm (Fld.ne F_SUSPENDED_ordinal F_ARCHIVED_ordinal (by simp))), (Fld.ne F_SUSPENDED_ordinal F_UNKNOWN_ordinal (by simp)), (Ne.symm (Fld.ne F_SUSPENDED_ordinal F_UNKNOWN_ordinal (by simp))), (Fld.ne F_ABORTED_ordinal F_ARCHIVED_ordinal (by simp)), (Ne.symm (Fld.ne F_ABORTED_ordinal F_ARCHIVED_ordinal (by simp))), (Fld.ne F_ABORTED_ordinal F_UNKNOWN_ordinal (by simp)), (Ne.symm (Fld.ne F_ABORTED_ordinal F_UNKNOWN_ordinal (by simp))), (Fld.ne F_ARCHIVED_ordinal F_UNKNOWN_ordinal (by simp)), (Ne.symm (Fld.ne F_ARCHIVED_ordinal F_UNKNOWN_ordinal (by simp)))])) hZ (hw _ (List.mem_of_getElem? (i := 28) rfl)) (hw _ (List.mem_of_getElem? (i := 6) rfl)) (by decide) (by decide)) q27a q27c (g := (mkF m 55 #[.val (.int p1), .val (.int (9 : Int32)), .val (.ref a_ARCHIVED), .val (.int (1 : Int32)), .val (.int (1 : Int32))] [(.ref a_ARCHIVED)])) rfl (by rw [hml]; rfl) (Steps.refl _) (argsL := []) (rest := []) (lenOf pd_2 rfl) rfl (by show 2 * 0 + _ ≤ _; exact Nat.le_of_eq rfl) (hb hby at_55) (fun _ _ => ⟨rfl, e26, (by decide : 0 + 0 ≤ _), (by decide : 0 + 0 ≤ _)⟩)
    dsimp only [Pt.U, Pt.locs, Pt.cells, Pt.slots] at X27 l27 y27 z27 st27 hQ27
    subst l27 y27 z27
    obtain ⟨rfl, Nq27, e27⟩ := hQ27
    have N27 := Fr.app N26 Nq27
    refine Go.step (fun t_ k_ => st27.trans k_) ?_
    show Go p e below _ (T27.setTop (mkF m 58 #[.val (.int p1), .val (.int (9 : Int32)), .val (.ref a_ARCHIVED), .val (.int (1 : Int32)), .val (.int (1 : Int32))] [(.int (0 : Int32))]))
    have hc58 : (0 : Int32) = (0 : Int32) := by decide
    refine Go.step (fun t_ k_ => XS.ifNo X27.here hx rfl (hb hby at_58) rfl ((if0 _ _).trans (teq hc58).2) k_) ?_
    show Go p e below _ (T27.setTop (mkF m 61 #[.val (.int p1), .val (.int (9 : Int32)), .val (.ref a_ARCHIVED), .val (.int (1 : Int32)), .val (.int (1 : Int32))] []))
    refine Go.step (fun t_ k_ => XS.aloadN X27.here hx rfl (hb hby at_61) rfl rfl k_) ?_
    show Go p e below _ (T27.setTop (mkF m 62 #[.val (.int p1), .val (.int (9 : Int32)), .val (.ref a_ARCHIVED), .val (.int (1 : Int32)), .val (.int (1 : Int32))] [(.ref a_ARCHIVED)]))
    obtain ⟨cq28, kq28, q28a, q28b, q28c⟩ := isOf hZ e27 (E_ARCHIVED.ext Ol.2)
    obtain ⟨_, _, ⟨T28, L28, k28, n28⟩, -, X28, ⟨Lc28, hQ28, l28, y28, z28⟩, st28⟩ := X27.virtualBack hx (y := (⟨"com/example/exposure/exposure/ExecutionPhase", "canStart", "()Z"⟩ : MethodName)) (z := (⟨"com/example/exposure/exposure/ExecutionPhase", "canStart", "()Z"⟩ : MethodName)) hown (mvT hZ (hw _ (List.mem_of_getElem? (i := 34) rfl))) (mvT hZ (hw _ (List.mem_of_getElem? (i := 35) rfl))) (notFace_of_selects (args := #[]) (mvT hZ (hw _ (List.mem_of_getElem? (i := 37) rfl)))) (mvT hZ (hw _ (List.mem_of_getElem? (i := 37) rfl))) (mvT hZ (hw _ (List.mem_of_getElem? (i := 36) rfl))) (by decide) (backOf (W := 0) (rm5 l Z a0 hw [] a_PENDING a_COMPLETED a_QUEUED a_EXECUTING a_HELD a_ERROR a_SUSPENDED a_ABORTED a_ARCHIVED a_UNKNOWN HW a_ARCHIVED (0 : Int32) h0 n0 Ol (by simp [(Fld.ne F_PENDING_ordinal F_COMPLETED_ordinal (by simp)), (Ne.symm (Fld.ne F_PENDING_ordinal F_COMPLETED_ordinal (by simp))), (Fld.ne F_PENDING_ordinal F_QUEUED_ordinal (by simp)), (Ne.symm (Fld.ne F_PENDING_ordinal F_QUEUED_ordinal (by simp))), (Fld.ne F_PENDING_ordinal F_EXECUTING_ordinal (by simp)), (Ne.symm (Fld.ne F_PENDING_ordinal F_EXECUTING_ordinal (by simp))), (Fld.ne F_PENDING_ordinal F_HELD_ordinal (by simp)), (Ne.symm (Fld.ne F_PENDING_ordinal F_HELD_ordinal (by simp))), (Fld.ne F_PENDING_ordinal F_ERROR_ordinal (by simp)), (Ne.symm (Fld.ne F_PENDING_ordinal F_ERROR_ordinal (by simp))), (Fld.ne F_PENDING_ordinal F_SUSPENDED_ordinal (by simp)), (Ne.symm (Fld.ne F_PENDING_ordinal F_SUSPENDED_ordinal (by simp))), (Fld.ne F_PENDING_ordinal F_ABORTED_ordinal (by simp)), (Ne.symm (Fld.ne F_PENDING_ordinal F_ABORTED_ordinal (by simp))), (Fld.ne F_PENDING_ordinal F_ARCHIVED_ordinal (by simp)), (Ne.symm (Fld.ne F_PENDING_ordinal F_ARCHIVED_ordinal (by simp))), (Fld.ne F_PENDING_ordinal F_UNKNOWN_ordinal (by simp)), (Ne.symm (Fld.ne F_PENDING_ordinal F_UNKNOWN_ordinal (by simp))), (Fld.ne F_COMPLETED_ordinal F_QUEUED_ordinal (by simp)), (Ne.symm (Fld.ne F_COMPLETED_ordinal F_QUEUED_ordinal (by simp))), (Fld.ne F_COMPLETED_ordinal F_EXECUTING_ordinal (by simp)), (Ne.symm (Fld.ne F_COMPLETED_ordinal F_EXECUTING_ordinal (by simp))), (Fld.ne F_COMPLETED_ordinal F_HELD_ordinal (by simp)), (Ne.symm (Fld.ne F_COMPLETED_ordinal F_HELD_ordinal (by simp))), (Fld.ne F_COMPLETED_ordinal F_ERROR_ordinal (by simp)), (Ne.symm (Fld.ne F_COMPLETED_ordinal F_ERROR_ordinal (by simp))), (Fld.ne F_COMPLETED_ordinal F_SUSPENDED_ordinal (by simp)), (Ne.symm (Fld.ne F_COMPLETED_ordinal F_SUSPENDED_ordinal (by simp))), (Fld.ne F_COMPLETED_ordinal F_ABORTED_ordinal (by simp)), (Ne.symm (Fld.ne F_COMPLETED_ordinal F_ABORTED_ordinal (by simp))), (Fld.ne F_COMPLETED_ordinal F_ARCHIVED_ordinal (by simp)), (Ne.symm (Fld.ne F_COMPLETED_ordinal F_ARCHIVED_ordinal (by simp))), (Fld.ne F_COMPLETED_ordinal F_UNKNOWN_ordinal (by simp)), (Ne.symm (Fld.ne F_COMPLETED_ordinal F_UNKNOWN_ordinal (by simp))), (Fld.ne F_QUEUED_ordinal F_EXECUTING_ordinal (by simp)), (Ne.symm (Fld.ne F_QUEUED_ordinal F_EXECUTING_ordinal (by simp))), (Fld.ne F_QUEUED_ordinal F_HELD_ordinal (by simp)), (Ne.symm (Fld.ne F_QUEUED_ordinal F_HELD_ordinal (by simp))), (Fld.ne F_QUEUED_ordinal F_ERROR_ordinal (by simp)), (Ne.symm (Fld.ne F_QUEUED_ordinal F_ERROR_ordinal (by simp))), (Fld.ne F_QUEUED_ordinal F_SUSPENDED_ordinal (by simp)), (Ne.symm (Fld.ne F_QUEUED_ordinal F_SUSPENDED_ordinal (by simp))), (Fld.ne F_QUEUED_ordinal F_ABORTED_ordinal (by simp)), (Ne.symm (Fld.ne F_QUEUED_ordinal F_ABORTED_ordinal (by simp))), (Fld.ne F_QUEUED_ordinal F_ARCHIVED_ordinal (by simp)), (Ne.symm (Fld.ne F_QUEUED_ordinal F_ARCHIVED_ordinal (by simp))), (Fld.ne F_QUEUED_ordinal F_UNKNOWN_ordinal (by simp)), (Ne.symm (Fld.ne F_QUEUED_ordinal F_UNKNOWN_ordinal (by simp))), (Fld.ne F_EXECUTING_ordinal F_HELD_ordinal (by simp)), (Ne.symm (Fld.ne F_EXECUTING_ordinal F_HELD_ordinal (by simp))), (Fld.ne F_EXECUTING_ordinal F_ERROR_ordinal (by simp)), (Ne.symm (Fld.ne F_EXECUTING_ordinal F_ERROR_ordinal (by simp))), (Fld.ne F_EXECUTING_ordinal F_SUSPENDED_ordinal (by simp)), (Ne.symm (Fld.ne F_EXECUTING_ordinal F_SUSPENDED_ordinal (by simp))), (Fld.ne F_EXECUTING_ordinal F_ABORTED_ordinal (by simp)), (Ne.symm (Fld.ne F_EXECUTING_ordinal F_ABORTED_ordinal (by simp))), (Fld.ne F_EXECUTING_ordinal F_ARCHIVED_ordinal (by simp)), (Ne.symm (Fld.ne F_EXECUTING_ordinal F_ARCHIVED_ordinal (by simp))), (Fld.ne F_EXECUTING_ordinal F_UNKNOWN_ordinal (by simp)), (Ne.symm (Fld.ne F_EXECUTING_ordinal F_UNKNOWN_ordinal (by simp))), (Fld.ne F_HELD_ordinal F_ERROR_ordinal (by simp)), (Ne.symm (Fld.ne F_HELD_ordinal F_ERROR_ordinal (by simp))), (Fld.ne F_HELD_ordinal F_SUSPENDED_ordinal (by simp)), (Ne.symm (Fld.ne F_HELD_ordinal F_SUSPENDED_ordinal (by simp))), (Fld.ne F_HELD_ordinal F_ABORTED_ordinal (by simp)), (Ne.symm (Fld.ne F_HELD_ordinal F_ABORTED_ordinal (by simp))), (Fld.ne F_HELD_ordinal F_ARCHIVED_ordinal (by simp)), (Ne.symm (Fld.ne F_HELD_ordinal F_ARCHIVED_ordinal (by simp))), (Fld.ne F_HELD_ordinal F_UNKNOWN_ordinal (by simp)), (Ne.symm (Fld.ne F_HELD_ordinal F_UNKNOWN_ordinal (by simp))), (Fld.ne F_ERROR_ordinal F_SUSPENDED_ordinal (by simp)), (Ne.symm (Fld.ne F_ERROR_ordinal F_SUSPENDED_ordinal (by simp))), (Fld.ne F_ERROR_ordinal F_ABORTED_ordinal (by simp)), (Ne.symm (Fld.ne F_ERROR_ordinal F_ABORTED_ordinal (by simp))), (Fld.ne F_ERROR_ordinal F_ARCHIVED_ordinal (by simp)), (Ne.symm (Fld.ne F_ERROR_ordinal F_ARCHIVED_ordinal (by simp))), (Fld.ne F_ERROR_ordinal F_UNKNOWN_ordinal (by simp)), (Ne.symm (Fld.ne F_ERROR_ordinal F_UNKNOWN_ordinal (by simp))), (Fld.ne F_SUSPENDED_ordinal F_ABORTED_ordinal (by simp)), (Ne.symm (Fld.ne F_SUSPENDED_ordinal F_ABORTED_ordinal (by simp))), (Fld.ne F_SUSPENDED_ordinal F_ARCHIVED_ordinal (by simp)), (Ne.symm (Fld.ne F_SUSPENDED_ordinal F_ARCHIVED_ordinal (by simp))), (Fld.ne F_SUSPENDED_ordinal F_UNKNOWN_ordinal (by simp)), (Ne.symm (Fld.ne F_SUSPENDED_ordinal F_UNKNOWN_ordinal (by simp))), (Fld.ne F_ABORTED_ordinal F_ARCHIVED_ordinal (by simp)), (Ne.symm (Fld.ne F_ABORTED_ordinal F_ARCHIVED_ordinal (by simp))), (Fld.ne F_ABORTED_ordinal F_UNKNOWN_ordinal (by simp)), (Ne.symm (Fld.ne F_ABORTED_ordinal F_UNKNOWN_ordinal (by simp))), (Fld.ne F_ARCHIVED_ordinal F_UNKNOWN_ordinal (by simp)), (Ne.symm (Fld.ne F_ARCHIVED_ordinal F_UNKNOWN_ordinal (by simp)))])) hZ (hw _ (List.mem_of_getElem? (i := 38) rfl)) (hw _ (List.mem_of_getElem? (i := 6) rfl)) (by decide) (by decide)) q28a q28c (g := (mkF m 62 #[.val (.int p1), .val (.int (9 : Int32)), .val (.ref a_ARCHIVED), .val (.int (1 : Int32)), .val (.int (1 : Int32))] [(.ref a_ARCHIVED)])) rfl (by rw [hml]; rfl) (Steps.refl _) (argsL := []) (rest := []) (lenOf pd_2 rfl) rfl (by show 2 * 0 + _ ≤ _; exact Nat.le_of_eq rfl) (hb hby at_62) (fun _ _ => ⟨rfl, e27, (by decide : 0 + 0 ≤ _), (by decide : 0 + 0 ≤ _)⟩)
    dsimp only [Pt.U, Pt.locs, Pt.cells, Pt.slots] at X28 l28 y28 z28 st28 hQ28
    subst l28 y28 z28
    obtain ⟨rfl, Nq28, e28⟩ := hQ28
    have N28 := Fr.app N27 Nq28
    refine Go.step (fun t_ k_ => st28.trans k_) ?_
    show Go p e below _ (T28.setTop (mkF m 65 #[.val (.int p1), .val (.int (9 : Int32)), .val (.ref a_ARCHIVED), .val (.int (1 : Int32)), .val (.int (1 : Int32))] [(.int (0 : Int32))]))
    have hc65 : (0 : Int32) = (0 : Int32) := by decide
    refine Go.step (fun t_ k_ => XS.ifYes X28.here hx rfl (pc0 := 65) (pc' := 70) rfl (hb hby at_65) rfl ((if0 _ _).trans (teq hc65).1) (by decide) (by decide) k_) ?_
    show Go p e below _ (T28.setTop (mkF m 70 #[.val (.int p1), .val (.int (9 : Int32)), .val (.ref a_ARCHIVED), .val (.int (1 : Int32)), .val (.int (1 : Int32))] []))
    refine Go.step (fun t_ k_ => XS.iconst X28.here hx rfl (hb hby at_70) k_) ?_
    show Go p e below _ (T28.setTop (mkF m 71 #[.val (.int p1), .val (.int (9 : Int32)), .val (.ref a_ARCHIVED), .val (.int (1 : Int32)), .val (.int (1 : Int32))] [(.int (1 : Int32))]))
    refine Go.retZ X28 hx (t := .boolean) Bd.returns (by simp) Bd.notSynchronized (hb hby at_71) (by rw [e28]; exact ⟨rfl, N28⟩) (by decide) (by decide)
set_option maxRecDepth 65536 in
set_option maxHeartbeats 40000000 in
theorem comes_1 {Post : Tables → Env → Array Value → State → Outcome → State → Prop} (hpost : ∀ tb e args s v u, (limb_1_1.after args s (.returned v) u = true ∧ limb_1_2.after args s (.returned v) u = true ∧ True) → FrameEnd s (.returned v) u (Jvm.fieldLocs frame_1_writes args s ++ Jvm.arrayLocs frame_1_arrays args s ++ Jvm.staticLocs frame_1_statics s) 0 0 → Post tb e args s (.returned v) u) :
    ArmFor flags0 classFile x code maxLocals ret World_1 tables_1 room_1 Calls_1 rest_1 Pre_1 Post := by
  intro l hfl _ _ p e ha hc hk s m args below hf hA hF happ hP
  obtain ⟨hcalls, hrest, hpre⟩ := hP
  obtain ⟨-, -, -, hnamed, -, -, -, hat⟩ := (Spec.applies_iff hf).mp happ
  obtain ⟨hg, hn⟩ := and_e (Cond.before_iff.mp (show (Jvm.Cond.and given_1 narrow_1).before args s = true from hpre))
  obtain ⟨hgl, hgr⟩ := and_e hg
  obtain ⟨w0, rfl⟩ : ∃ w0 : Value, args = #[w0] := by
    have hs : args.size = 1 := by simpa [Cond.value, given_1] using hgl
    obtain ⟨L⟩ := args
    match L, hs with
    | [w0], _ => exact ⟨w0, rfl⟩
  have hw := fun d (hd : d ∈ tables_1) => atoms_spec (ws := Jvm.Cond.code x code maxLocals ret :: tables_1) hat d (List.mem_cons_of_mem _ hd)
  have hfit : Fit s := fun {y c} hc i hi => by
    obtain ⟨ha, rfl⟩ := Array.getElem?_eq_some_iff.mp hc
    have q := List.all_eq_true.mp ((Array.all_eq_true_iff_forall_mem.mp hF) _ (Array.getElem_mem ha)) i (List.mem_range.mpr hi)
    simpa [Array.getElem?_eq_getElem hi] using q
  obtain ⟨i0, ei0⟩ := is_v hgr
  obtain rfl : w0 = (.int i0) := Option.some.inj ei0
  obtain ⟨hnl, hnr⟩ := and_e hn
  obtain ⟨hnrl, hnrr⟩ := and_e hnr
  obtain ⟨hnrrl, hnrrr⟩ := and_e hnrr
  obtain ⟨hnrrrl, hnrrrr⟩ := and_e hnrrr
  obtain ⟨hnrrrrl, hnrrrrr⟩ := and_e hnrrrr
  obtain ⟨hnrrrrrl, hnrrrrrr⟩ := and_e hnrrrrr
  obtain ⟨hnrrrrrrl, hnrrrrrrr⟩ := and_e hnrrrrrr
  obtain ⟨hnrrrrrrrl, hnrrrrrrrr⟩ := and_e hnrrrrrrr
  obtain ⟨hnrrrrrrrrl, hnrrrrrrrrr⟩ := and_e hnrrrrrrrr
  obtain ⟨hnrrrrrrrrrl, hnrrrrrrrrrr⟩ := and_e hnrrrrrrrrr
  obtain ⟨hnrrrrrrrrrrl, hnrrrrrrrrrrr⟩ := and_e hnrrrrrrrrrr
  obtain ⟨hnrrrrrrrrrrrl, hnrrrrrrrrrrrr⟩ := and_e hnrrrrrrrrrrr
  obtain ⟨hnrrrrrrrrrrrrl, hnrrrrrrrrrrrrr⟩ := and_e hnrrrrrrrrrrrr
  obtain ⟨hnrrrrrrrrrrrrrl, hnrrrrrrrrrrrrrr⟩ := and_e hnrrrrrrrrrrrrr
  obtain ⟨hnrrrrrrrrrrrrrrl, hnrrrrrrrrrrrrrrr⟩ := and_e hnrrrrrrrrrrrrrr
  obtain ⟨hnrrrrrrrrrrrrrrrl, hnrrrrrrrrrrrrrrrr⟩ := and_e hnrrrrrrrrrrrrrrr
  obtain ⟨hnrrrrrrrrrrrrrrrrl, hnrrrrrrrrrrrrrrrrr⟩ := and_e hnrrrrrrrrrrrrrrrr
  obtain ⟨hnrrrrrrrrrrrrrrrrrl, hnrrrrrrrrrrrrrrrrrr⟩ := and_e hnrrrrrrrrrrrrrrrrr
  obtain ⟨hnrrrrrrrrrrrrrrrrrrl, hnrrrrrrrrrrrrrrrrrrr⟩ := and_e hnrrrrrrrrrrrrrrrrrr
  obtain ⟨a_PENDING, ev_PENDING⟩ := exa_v hnl
  obtain ⟨a_COMPLETED, ev_COMPLETED⟩ := exa_v hnrrl
  obtain ⟨a_QUEUED, ev_QUEUED⟩ := exa_v hnrrrrl
  obtain ⟨a_EXECUTING, ev_EXECUTING⟩ := exa_v hnrrrrrrl
  obtain ⟨a_HELD, ev_HELD⟩ := exa_v hnrrrrrrrrl
  obtain ⟨a_ERROR, ev_ERROR⟩ := exa_v hnrrrrrrrrrrl
  obtain ⟨a_SUSPENDED, ev_SUSPENDED⟩ := exa_v hnrrrrrrrrrrrrl
  obtain ⟨a_ABORTED, ev_ABORTED⟩ := exa_v hnrrrrrrrrrrrrrrl
  obtain ⟨a_ARCHIVED, ev_ARCHIVED⟩ := exa_v hnrrrrrrrrrrrrrrrrl
  obtain ⟨a_UNKNOWN, ev_UNKNOWN⟩ := exa_v hnrrrrrrrrrrrrrrrrrrl
  have HW : Wd s a_PENDING a_COMPLETED a_QUEUED a_EXECUTING a_HELD a_ERROR a_SUSPENDED a_ABORTED a_ARCHIVED a_UNKNOWN := ⟨Sta.start ev_PENDING (Or.inr ⟨(hw _ (List.mem_of_getElem? (i := 6) rfl)), (hw _ (List.mem_of_getElem? (i := 7) rfl))⟩), Exa.start ev_PENDING hnl, Sta.start ev_COMPLETED (Or.inr ⟨(hw _ (List.mem_of_getElem? (i := 6) rfl)), (hw _ (List.mem_of_getElem? (i := 23) rfl))⟩), Exa.start ev_COMPLETED hnrrl, Sta.start ev_QUEUED (Or.inr ⟨(hw _ (List.mem_of_getElem? (i := 6) rfl)), (hw _ (List.mem_of_getElem? (i := 31) rfl))⟩), Exa.start ev_QUEUED hnrrrrl, Sta.start ev_EXECUTING (Or.inr ⟨(hw _ (List.mem_of_getElem? (i := 6) rfl)), (hw _ (List.mem_of_getElem? (i := 33) rfl))⟩), Exa.start ev_EXECUTING hnrrrrrrl, Sta.start ev_HELD (Or.inr ⟨(hw _ (List.mem_of_getElem? (i := 6) rfl)), (hw _ (List.mem_of_getElem? (i := 40) rfl))⟩), Exa.start ev_HELD hnrrrrrrrrl, Sta.start ev_ERROR (Or.inr ⟨(hw _ (List.mem_of_getElem? (i := 6) rfl)), (hw _ (List.mem_of_getElem? (i := 43) rfl))⟩), Exa.start ev_ERROR hnrrrrrrrrrrl, Sta.start ev_SUSPENDED (Or.inr ⟨(hw _ (List.mem_of_getElem? (i := 6) rfl)), (hw _ (List.mem_of_getElem? (i := 45) rfl))⟩), Exa.start ev_SUSPENDED hnrrrrrrrrrrrrl, Sta.start ev_ABORTED (Or.inr ⟨(hw _ (List.mem_of_getElem? (i := 6) rfl)), (hw _ (List.mem_of_getElem? (i := 48) rfl))⟩), Exa.start ev_ABORTED hnrrrrrrrrrrrrrrl, Sta.start ev_ARCHIVED (Or.inr ⟨(hw _ (List.mem_of_getElem? (i := 6) rfl)), (hw _ (List.mem_of_getElem? (i := 50) rfl))⟩), Exa.start ev_ARCHIVED hnrrrrrrrrrrrrrrrrl, Sta.start ev_UNKNOWN (Or.inr ⟨(hw _ (List.mem_of_getElem? (i := 6) rfl)), (hw _ (List.mem_of_getElem? (i := 52) rfl))⟩), Exa.start ev_UNKNOWN hnrrrrrrrrrrrrrrrrrrl, Fld.start ((fld_at ev_PENDING).symm.trans (eq_int hnrl)), Fld.start ((fld_at ev_COMPLETED).symm.trans (eq_int hnrrrl)), Fld.start ((fld_at ev_QUEUED).symm.trans (eq_int hnrrrrrl)), Fld.start ((fld_at ev_EXECUTING).symm.trans (eq_int hnrrrrrrrl)), Fld.start ((fld_at ev_HELD).symm.trans (eq_int hnrrrrrrrrrl)), Fld.start ((fld_at ev_ERROR).symm.trans (eq_int hnrrrrrrrrrrrl)), Fld.start ((fld_at ev_SUSPENDED).symm.trans (eq_int hnrrrrrrrrrrrrrl)), Fld.start ((fld_at ev_ABORTED).symm.trans (eq_int hnrrrrrrrrrrrrrrrl)), Fld.start ((fld_at ev_ARCHIVED).symm.trans (eq_int hnrrrrrrrrrrrrrrrrrl)), Fld.start ((fld_at ev_UNKNOWN).symm.trans (eq_int hnrrrrrrrrrrrrrrrrrrr))⟩
  obtain ⟨n, o, h1, h2, h3, _, L, rfl, ⟨rfl, N⟩, hq⟩ := rm0 l s _ hw tables_1 a_PENDING a_COMPLETED a_QUEUED a_EXECUTING a_HELD a_ERROR a_SUSPENDED a_ABORTED a_ARCHIVED a_UNKNOWN HW i0 s.heap s.heap.size (Old.start s)  p e ha hc hk s m _ below hf ((Spec.applies_iff_loose hf).mp happ).1 ⟨rfl, State.Warmed39.refl s, rfl⟩ trivial
  refine ⟨n, _, h1, h2, h3, hpost _ _ _ _ _ _ ⟨Cond.after_iff.mpr rfl, Cond.after_iff.mpr (eq_i res_at (Term.int_eval (1)) rfl), trivial⟩ ⟨hq.1, hq.2.1, (hq.2.2.sift fun y hy => Or.inr (N y hy)).mono (by decide) (by decide)⟩⟩
theorem main_1_1 : Claimed_1_1 := comes_1 fun _ _ _ _ _ _ h hF => ⟨h.1, hF⟩
theorem main_1_2 : Claimed_1_2 := comes_1 fun _ _ _ _ _ _ h hF => ⟨h.2.1, hF⟩
end Jvm.Pilot.@@N@@
namespace Jvm.Pilot.@@N@@
open Jvm Jvm.ClassFile Sem Op Lib Jvm.Free Jvm.Stand Jvm.Pilot.@@N@@.Jvm.D
/-! MADE BY PROGRAM (witnessworld.py) out of the Statement's table words and the real class files: 12 classes; the members and pool entries that the words name. The judged class is class 1, her method 2. -/
namespace start1
open Jvm.ClassFile
def u (s : String) : CpInfo := .utf8 (stringToUtf16 s)
/-- a pool by its gaps: so many unusable entries, then the entry; so many at the end -/
def gap : Nat → List CpInfo → List CpInfo
  | 0, r => r
  | n + 1, r => .unusable :: gap n r
def poolList (es : List (Nat × CpInfo)) (last : Nat) : List CpInfo := es.foldr (fun e r => gap e.1 (e.2 :: r)) (gap last [])
def pool (es : List (Nat × CpInfo)) (last : Nat) : Array CpInfo := ⟨poolList es last⟩
def fileOf (pool : Array CpInfo) (this : Nat) (attrs : Array Attribute := #[]) (ms : Array MethodInfo := #[]) (fl : Nat := 33) (sup : Nat := 0) (ifs : Array Nat := #[]) (fds : Array FieldInfo := #[]) : ClassFile where
  minorVersion := 0
  majorVersion := 65
  constantPool := pool
  accessFlags := fl
  thisClass := this
  superClass := sup
  interfaces := ifs
  fields := fds
  methods := ms
  attributes := attrs
def plain (name : String) (sup : Option ClassId) : Class where
  name := name
  kind := .ordinary
  loader := none
  accessFlags := 33
  super := sup
  interfaces := #[]
  cf := none
  fields := #[]
  methods := #[]
  instanceTypes := #[]
  staticTypes := #[]
  resolved := #[]
  callSites := []
  init := .initialized
  statics := none
  mirror := none

def pool0 : Array CpInfo := pool [(5, u "<init>"), (0, u "()V"), (1, .class_ 10), (1, u "java/lang/Object")] 113

def k0m0 : Method := { name := "<init>", desc := "()V", sig := { parameters := [], returnType := none }, accessFlags := 1, code := none }
/-- java/lang/Object -/
def k0 : Class := { plain "java/lang/Object" none with
  accessFlags := 33
  interfaces := #[]
  cf := some (fileOf pool0 8 #[] #[{ accessFlags := 1, nameIndex := 5, descriptorIndex := 6, attributes := #[] }] 33 0 #[] #[])
  fields := #[]
  methods := #[k0m0]
  instanceTypes := #[]
  staticTypes := #[]
  resolved := Array.replicate 124 none
  statics := none }

def pool1 : Array CpInfo := pool [(2, .class_ 4), (1, u "java/lang/Object"), (0, u "<init>"), (0, u "()V"), (0, .fieldref 8 9), (0, .class_ 10), (0, .nameAndType 11 12), (0, u "com/example/exposure/exposure/ExecutionPhase"), (0, u "PENDING"), (0, u "Lcom/example/exposure/exposure/ExecutionPhase;"), (0, .fieldref 8 14), (0, .nameAndType 15 12), (0, u "QUEUED"), (0, .fieldref 8 17), (0, .nameAndType 18 12), (0, u "EXECUTING"), (0, .fieldref 8 20), (0, .nameAndType 21 12), (0, u "COMPLETED"), (0, .fieldref 8 23), (0, .nameAndType 24 12), (0, u "ERROR"), (0, .fieldref 8 26), (0, .nameAndType 27 12), (0, u "UNKNOWN"), (0, .fieldref 8 29), (0, .nameAndType 30 12), (0, u "HELD"), (0, .fieldref 8 32), (0, .nameAndType 33 12), (0, u "SUSPENDED"), (0, .fieldref 8 35), (0, .nameAndType 36 12), (0, u "ABORTED"), (0, .fieldref 8 38), (0, .nameAndType 39 12), (0, u "ARCHIVED"), (0, .integer 2147483647), (0, .methodref 42 43), (0, .class_ 44), (0, .nameAndType 45 46), (0, u "com/example/exposure/exposure/ExecutionPhaseIsFinalPinLaw"), (0, u "pick"), (0, u "(I)Lcom/example/exposure/exposure/ExecutionPhase;"), (0, .methodref 8 48), (0, .nameAndType 49 50), (0, u "isFinal"), (0, u "()Z"), (0, .methodref 8 52), (0, .nameAndType 53 50), (0, u "isActive"), (0, .methodref 8 55), (0, .nameAndType 56 50), (0, u "canStart"), (3, u "law"), (0, u "(I)Z")] 2

def k1m0 : Method := { name := "<init>", desc := "()V", sig := { parameters := [], returnType := none }, accessFlags := 1, code := none }
def k1c1 : Code := { maxStack := 2, maxLocals := 1, code := method_2_code, exceptionTable := #[], attributes := #[] }
def k1m1 : Method := { name := "pick", desc := "(I)Lcom/example/exposure/exposure/ExecutionPhase;", sig := { parameters := [.int], returnType := some (.object "com/example/exposure/exposure/ExecutionPhase") }, accessFlags := 10, code := some k1c1 }
def k1c2 : Code := { maxStack := 2, maxLocals := 5, code := code, exceptionTable := #[], attributes := #[] }
def k1m2 : Method := { name := "law", desc := "(I)Z", sig := { parameters := [.int], returnType := some .boolean }, accessFlags := 9, code := some k1c2 }
/-- com/example/exposure/exposure/ExecutionPhaseIsFinalPinLaw -/
def k1 : Class := { plain "com/example/exposure/exposure/ExecutionPhaseIsFinalPinLaw" (some 0) with
  accessFlags := 49
  interfaces := #[]
  cf := some (fileOf pool1 42 #[] #[{ accessFlags := 1, nameIndex := 5, descriptorIndex := 6, attributes := #[] }, { accessFlags := 10, nameIndex := 45, descriptorIndex := 46, attributes := #[] }, { accessFlags := 9, nameIndex := 60, descriptorIndex := 61, attributes := #[] }] 49 2 #[] #[])
  fields := #[]
  methods := #[k1m0, k1m1, k1m2]
  instanceTypes := #[]
  staticTypes := #[]
  resolved := Array.replicate 64 none
  statics := none }

def pool2 : Array CpInfo := pool [(1, .class_ 2), (0, u "java/lang/constant/Constable"), (0, .class_ 4), (0, u "java/lang/Object")] 6

/-- java/lang/constant/Constable -/
def k2 : Class := { plain "java/lang/constant/Constable" (some 0) with
  accessFlags := 1537
  interfaces := #[]
  cf := some (fileOf pool2 1 #[] #[] 1537 3 #[] #[])
  fields := #[]
  methods := #[]
  instanceTypes := #[]
  staticTypes := #[]
  resolved := Array.replicate 11 none
  statics := none }

def pool3 : Array CpInfo := pool [(1, .class_ 2), (0, u "java/lang/Comparable"), (0, .class_ 4), (0, u "java/lang/Object")] 7

/-- java/lang/Comparable -/
def k3 : Class := { plain "java/lang/Comparable" (some 0) with
  accessFlags := 1537
  interfaces := #[]
  cf := some (fileOf pool3 1 #[] #[] 1537 3 #[] #[])
  fields := #[]
  methods := #[]
  instanceTypes := #[]
  staticTypes := #[]
  resolved := Array.replicate 12 none
  statics := none }

def pool4 : Array CpInfo := pool [(1, .class_ 2), (0, u "java/io/Serializable"), (0, .class_ 4), (0, u "java/lang/Object")] 2

/-- java/io/Serializable -/
def k4 : Class := { plain "java/io/Serializable" (some 0) with
  accessFlags := 1537
  interfaces := #[]
  cf := some (fileOf pool4 1 #[] #[] 1537 3 #[] #[])
  fields := #[]
  methods := #[]
  instanceTypes := #[]
  staticTypes := #[]
  resolved := Array.replicate 7 none
  statics := none }

def pool5 : Array CpInfo := pool [(2, .class_ 4), (1, u "java/lang/Enum"), (0, u "name"), (0, u "Ljava/lang/String;"), (0, .fieldref 2 8), (0, .nameAndType 9 10), (0, u "ordinal"), (0, u "I"), (1, .class_ 14), (1, u "java/lang/Object"), (4, u "hash"), (86, .class_ 108), (1, u "java/lang/Enum$EnumDesc"), (2, .class_ 112), (0, u "java/lang/constant/Constable"), (0, .class_ 114), (0, u "java/lang/Comparable"), (0, .class_ 116), (0, u "java/io/Serializable"), (9, u "()I")] 77

def k5c0 : Code := { maxStack := 1, maxLocals := 1, code := jdk_37_method_2_code, exceptionTable := #[], attributes := #[] }
def k5m0 : Method := { name := "ordinal", desc := "()I", sig := { parameters := [], returnType := some .int }, accessFlags := 17, code := some k5c0 }
/-- java/lang/Enum -/
def k5 : Class := { plain "java/lang/Enum" (some 0) with
  accessFlags := 1057
  interfaces := #[2, 3, 4]
  cf := some (fileOf pool5 2 #[.nestMembers #[106]] #[{ accessFlags := 17, nameIndex := 9, descriptorIndex := 126, attributes := #[] }] 1057 12 #[111, 113, 115] #[{ accessFlags := 18, nameIndex := 5, descriptorIndex := 6, attributes := #[] }, { accessFlags := 18, nameIndex := 9, descriptorIndex := 10, attributes := #[] }, { accessFlags := 2, nameIndex := 19, descriptorIndex := 10, attributes := #[] }])
  fields := #[{ name := "name", type := (.object "java/lang/String"), accessFlags := 18, slot := 0, constantValue := 0 }, { name := "ordinal", type := .int, accessFlags := 18, slot := 1, constantValue := 0 }, { name := "hash", type := .int, accessFlags := 2, slot := 2, constantValue := 0 }]
  methods := #[k5m0]
  instanceTypes := #[(.object "java/lang/String"), .int, .int]
  staticTypes := #[]
  resolved := Array.replicate 204 none
  statics := none }

def pool6 : Array CpInfo := pool [(1, .class_ 2), (0, u "com/example/exposure/exposure/ExecutionPhase"), (0, .fieldref 1 4), (0, .nameAndType 5 6), (0, u "PENDING"), (0, u "Lcom/example/exposure/exposure/ExecutionPhase;"), (0, .fieldref 1 8), (0, .nameAndType 9 6), (0, u "QUEUED"), (0, .fieldref 1 11), (0, .nameAndType 12 6), (0, u "EXECUTING"), (2, u "COMPLETED"), (2, u "ERROR"), (2, u "UNKNOWN"), (0, .fieldref 1 23), (0, .nameAndType 24 6), (0, u "HELD"), (2, u "SUSPENDED"), (2, u "ABORTED"), (2, u "ARCHIVED"), (2, u "$VALUES"), (0, u "[Lcom/example/exposure/exposure/ExecutionPhase;"), (6, .class_ 46), (1, u "java/lang/Enum"), (6, .methodref 1 54), (0, .nameAndType 55 56), (0, u "ordinal"), (0, u "()I"), (27, u "canStart"), (0, u "()Z"), (1, u "isActive"), (0, u "isFinal")] 4

def k6c0 : Code := { maxStack := 2, maxLocals := 1, code := prog_11_method_4_code, exceptionTable := #[], attributes := #[] }
def k6m0 : Method := { name := "canStart", desc := "()Z", sig := { parameters := [], returnType := some .boolean }, accessFlags := 1, code := some k6c0 }
def k6c1 : Code := { maxStack := 2, maxLocals := 1, code := prog_11_method_5_code, exceptionTable := #[], attributes := #[] }
def k6m1 : Method := { name := "isActive", desc := "()Z", sig := { parameters := [], returnType := some .boolean }, accessFlags := 1, code := some k6c1 }
def k6c2 : Code := { maxStack := 4, maxLocals := 1, code := prog_11_method_6_code, exceptionTable := #[], attributes := #[] }
def k6m2 : Method := { name := "isFinal", desc := "()Z", sig := { parameters := [], returnType := some .boolean }, accessFlags := 1, code := some k6c2 }
/-- com/example/exposure/exposure/ExecutionPhase -/
def k6 : Class := { plain "com/example/exposure/exposure/ExecutionPhase" (some 5) with
  accessFlags := 16433
  interfaces := #[]
  cf := some (fileOf pool6 1 #[] #[{ accessFlags := 1, nameIndex := 84, descriptorIndex := 85, attributes := #[] }, { accessFlags := 1, nameIndex := 87, descriptorIndex := 85, attributes := #[] }, { accessFlags := 1, nameIndex := 88, descriptorIndex := 85, attributes := #[] }] 16433 44 #[] #[{ accessFlags := 16409, nameIndex := 5, descriptorIndex := 6, attributes := #[] }, { accessFlags := 16409, nameIndex := 9, descriptorIndex := 6, attributes := #[] }, { accessFlags := 16409, nameIndex := 12, descriptorIndex := 6, attributes := #[] }, { accessFlags := 16409, nameIndex := 15, descriptorIndex := 6, attributes := #[] }, { accessFlags := 16409, nameIndex := 18, descriptorIndex := 6, attributes := #[] }, { accessFlags := 16409, nameIndex := 21, descriptorIndex := 6, attributes := #[] }, { accessFlags := 16409, nameIndex := 24, descriptorIndex := 6, attributes := #[] }, { accessFlags := 16409, nameIndex := 27, descriptorIndex := 6, attributes := #[] }, { accessFlags := 16409, nameIndex := 30, descriptorIndex := 6, attributes := #[] }, { accessFlags := 16409, nameIndex := 33, descriptorIndex := 6, attributes := #[] }, { accessFlags := 4122, nameIndex := 36, descriptorIndex := 37, attributes := #[] }])
  fields := #[{ name := "PENDING", type := (.object "com/example/exposure/exposure/ExecutionPhase"), accessFlags := 16409, slot := 0, constantValue := 0 }, { name := "QUEUED", type := (.object "com/example/exposure/exposure/ExecutionPhase"), accessFlags := 16409, slot := 1, constantValue := 0 }, { name := "EXECUTING", type := (.object "com/example/exposure/exposure/ExecutionPhase"), accessFlags := 16409, slot := 2, constantValue := 0 }, { name := "COMPLETED", type := (.object "com/example/exposure/exposure/ExecutionPhase"), accessFlags := 16409, slot := 3, constantValue := 0 }, { name := "ERROR", type := (.object "com/example/exposure/exposure/ExecutionPhase"), accessFlags := 16409, slot := 4, constantValue := 0 }, { name := "UNKNOWN", type := (.object "com/example/exposure/exposure/ExecutionPhase"), accessFlags := 16409, slot := 5, constantValue := 0 }, { name := "HELD", type := (.object "com/example/exposure/exposure/ExecutionPhase"), accessFlags := 16409, slot := 6, constantValue := 0 }, { name := "SUSPENDED", type := (.object "com/example/exposure/exposure/ExecutionPhase"), accessFlags := 16409, slot := 7, constantValue := 0 }, { name := "ABORTED", type := (.object "com/example/exposure/exposure/ExecutionPhase"), accessFlags := 16409, slot := 8, constantValue := 0 }, { name := "ARCHIVED", type := (.object "com/example/exposure/exposure/ExecutionPhase"), accessFlags := 16409, slot := 9, constantValue := 0 }, { name := "$VALUES", type := (.array (.object "com/example/exposure/exposure/ExecutionPhase")), accessFlags := 4122, slot := 10, constantValue := 0 }]
  methods := #[k6m0, k6m1, k6m2]
  instanceTypes := #[(.object "java/lang/String"), .int, .int]
  staticTypes := #[(.object "com/example/exposure/exposure/ExecutionPhase"), (.object "com/example/exposure/exposure/ExecutionPhase"), (.object "com/example/exposure/exposure/ExecutionPhase"), (.object "com/example/exposure/exposure/ExecutionPhase"), (.object "com/example/exposure/exposure/ExecutionPhase"), (.object "com/example/exposure/exposure/ExecutionPhase"), (.object "com/example/exposure/exposure/ExecutionPhase"), (.object "com/example/exposure/exposure/ExecutionPhase"), (.object "com/example/exposure/exposure/ExecutionPhase"), (.object "com/example/exposure/exposure/ExecutionPhase"), (.array (.object "com/example/exposure/exposure/ExecutionPhase"))]
  resolved := Array.replicate 93 none
  statics := some 0 }

def pool7 : Array CpInfo := pool [(1, u "java/lang/Cloneable"), (0, .class_ 1), (0, u "java/lang/Object"), (0, .class_ 3)] 3

/-- java/lang/Cloneable -/
def k7 : Class := { plain "java/lang/Cloneable" (some 0) with
  accessFlags := 1537
  interfaces := #[]
  cf := some (fileOf pool7 2 #[] #[] 1537 4 #[] #[])
  fields := #[]
  methods := #[]
  instanceTypes := #[]
  staticTypes := #[]
  resolved := Array.replicate 8 none
  statics := none }

/-- the primitive byte -/
def k8 : Class := { plain "byte" none with kind := .primitive 'B', accessFlags := 0x411 }
/-- [B -/
def k9 : Class := { plain "[B" (some 0) with kind := .array 8 .byte, interfaces := #[7, 4], accessFlags := 1041 }

/-- the primitive int -/
def k10 : Class := { plain "int" none with kind := .primitive 'I', accessFlags := 0x411 }
/-- [I -/
def k11 : Class := { plain "[I" (some 0) with kind := .array 10 .int, interfaces := #[7, 4], accessFlags := 1041 }

def heap : Heap := #[{ cls := 6, slots := #[.ref 1, .ref 3, .ref 4, .ref 2, .ref 6, .ref 10, .ref 5, .ref 7, .ref 8, .ref 9, .null], vm := .statics 6 },
  { cls := 6, slots := #[.null, .int 0, .int 0], vm := .none },
  { cls := 6, slots := #[.null, .int 3, .int 0], vm := .none },
  { cls := 6, slots := #[.null, .int 1, .int 0], vm := .none },
  { cls := 6, slots := #[.null, .int 2, .int 0], vm := .none },
  { cls := 6, slots := #[.null, .int 6, .int 0], vm := .none },
  { cls := 6, slots := #[.null, .int 4, .int 0], vm := .none },
  { cls := 6, slots := #[.null, .int 7, .int 0], vm := .none },
  { cls := 6, slots := #[.null, .int 8, .int 0], vm := .none },
  { cls := 6, slots := #[.null, .int 9, .int 0], vm := .none },
  { cls := 6, slots := #[.null, .int 5, .int 0], vm := .none }]
def classes : Array Class := #[k0, k1, k2, k3, k4, k5, k6, k7, k8, k9, k10, k11]
def interned : List (Array UInt16 × Addr) := []
def slotsUsed : Nat := 41
def theMethod : MethodId := ⟨1, 2⟩
def args0 : Array Value := #[.int 5]
def aboutOver (below : List Frame) : State where
  vm := { classes := classes, interned := interned.toArray }
  heap := heap
  slotsUsed := slotsUsed
  threads := #[{ frames := .invoking theMethod args0 :: below }]
def below0 : List Frame := [.native { method := ⟨0, 0⟩, args := #[] }]
def about1 : State := aboutOver below0
def p0 : Program := .bare "" "" ""
def e0 : Env := launch0.env 0 0 0
theorem w_frames : about1.frames = Frame.invoking theMethod args0 :: below0 := rfl
set_option maxRecDepth 65536 in
theorem w_args : argsFit about1.vm theMethod args0 = true := by decide +kernel
set_option maxRecDepth 65536 in
theorem w_heap : heapFits about1 = true := by decide +kernel
set_option maxRecDepth 65536 in
theorem w_runnable : about1.curStatus? = some .runnable := by decide +kernel
set_option maxRecDepth 65536 in
theorem w_alone : about1.alone = true := by decide +kernel
set_option maxRecDepth 65536 in
theorem w_named : about1.methodNamed? x = some theMethod := by decide +kernel
set_option maxRecDepth 65536 in
theorem w_hears : about1.hears theMethod below0 = true := by decide +kernel
set_option maxRecDepth 65536 in
theorem w_ripe : about1.ripe theMethod args0 below0 = true := by decide +kernel
theorem w_running : about1.status = .running := rfl
set_option maxRecDepth 65536 in
theorem w_room : about1.hasRoom e0.platform room_1 = true :=
  launch0.hasRoom_least _ room_1 (by decide +kernel) (by decide +kernel) (by decide +kernel) (by decide +kernel) (by decide +kernel) (by decide +kernel)
theorem allAtoms_all (ts : List Jvm.Cond) (a : Array Jvm.Value) (st : Jvm.State) : (allAtoms ts).before a st = ts.all (fun c => c.before a st) := by
  induction ts with
  | nil => rfl
  | cons c t ih =>
    show (Jvm.Cond.and c (allAtoms t)).before a st = _
    rw [Jvm.Cond.before_and, ih, List.all_cons]
def words1 : List Jvm.Cond := Jvm.Cond.code x code maxLocals ret :: tables_1
/-- a 'code' word, met by the world's own term for the bytes: nothing is compared byte by byte -/
theorem code_word {y : MethodName} {bytes : ByteArray} {mx : Nat} {rt : Option FieldType} {a : Array Value} {s : State} {m : MethodId} {meth : Method} {c : Code} (h1 : s.methodNamed? y = some m) (h2 : s.vm.method? m = some meth) (h3 : meth.code = some c) (h4 : c.code = bytes)
    (h5 : (c.maxLocals == mx && c.exceptionTable.isEmpty && decide (c.maxStack ≤ mostOperands) && decide (meth.sig.returnType = rt) && !meth.locks && decide (parseMethodDescriptor y.desc = some meth.sig)) = true) : (Jvm.Cond.code y bytes mx rt).before a s = true := by
  simp only [Bool.and_eq_true, beq_iff_eq, Bool.not_eq_true', decide_eq_true_eq] at h5
  obtain ⟨⟨⟨⟨⟨g1, g2⟩, g3⟩, g4⟩, g5⟩, g6⟩ := h5
  simp [Cond.before, Cond.holds, Cond.value, h1, h2, h3, h4, g1, g2, g3, g4, g5, g6]
def isCode : Jvm.Cond → Bool
  | .code _ _ _ _ => true
  | _ => false
theorem all_split {L : List Jvm.Cond} {P : Jvm.Cond → Bool} (h1 : L.all (fun c => isCode c || P c) = true) (h2 : ∀ c ∈ L.filter isCode, P c = true) : L.all P = true := by
  refine List.all_eq_true.mpr fun c hc => ?_
  have h := List.all_eq_true.mp h1 c hc
  rcases Bool.eq_false_or_eq_true (isCode c) with hi | hi
  · exact h2 c (List.mem_filter.mpr ⟨hc, hi⟩)
  · simpa [hi] using h
set_option maxRecDepth 65536 in
theorem w_c0 : (Jvm.Cond.code x code maxLocals ret).before args0 about1 = true := code_word (m := ⟨1, 2⟩) (meth := k1m2) (c := k1c2) (by decide +kernel) rfl rfl rfl (by decide +kernel)
set_option maxRecDepth 65536 in
theorem w_c1 : (Jvm.Cond.code ({ cls := "com/example/exposure/exposure/ExecutionPhaseIsFinalPinLaw", name := "pick", desc := "(I)Lcom/example/exposure/exposure/ExecutionPhase;" } : Jvm.MethodName) method_2_code (1 : Nat) (Option.some (Jvm.ClassFile.FieldType.object "com/example/exposure/exposure/ExecutionPhase"))).before args0 about1 = true := code_word (m := ⟨1, 1⟩) (meth := k1m1) (c := k1c1) (by decide +kernel) rfl rfl rfl (by decide +kernel)
set_option maxRecDepth 65536 in
theorem w_c2 : (Jvm.Cond.code ({ cls := "com/example/exposure/exposure/ExecutionPhase", name := "isFinal", desc := "()Z" } : Jvm.MethodName) prog_11_method_6_code (1 : Nat) (Option.some Jvm.ClassFile.FieldType.boolean)).before args0 about1 = true := code_word (m := ⟨6, 2⟩) (meth := k6m2) (c := k6c2) (by decide +kernel) rfl rfl rfl (by decide +kernel)
set_option maxRecDepth 65536 in
theorem w_c3 : (Jvm.Cond.code ({ cls := "java/lang/Enum", name := "ordinal", desc := "()I" } : Jvm.MethodName) jdk_37_method_2_code (1 : Nat) (Option.some Jvm.ClassFile.FieldType.int)).before args0 about1 = true := code_word (m := ⟨5, 0⟩) (meth := k5m0) (c := k5c0) (by decide +kernel) rfl rfl rfl (by decide +kernel)
set_option maxRecDepth 65536 in
theorem w_c4 : (Jvm.Cond.code ({ cls := "com/example/exposure/exposure/ExecutionPhase", name := "isActive", desc := "()Z" } : Jvm.MethodName) prog_11_method_5_code (1 : Nat) (Option.some Jvm.ClassFile.FieldType.boolean)).before args0 about1 = true := code_word (m := ⟨6, 1⟩) (meth := k6m1) (c := k6c1) (by decide +kernel) rfl rfl rfl (by decide +kernel)
set_option maxRecDepth 65536 in
theorem w_c5 : (Jvm.Cond.code ({ cls := "com/example/exposure/exposure/ExecutionPhase", name := "canStart", desc := "()Z" } : Jvm.MethodName) prog_11_method_4_code (1 : Nat) (Option.some Jvm.ClassFile.FieldType.boolean)).before args0 about1 = true := code_word (m := ⟨6, 0⟩) (meth := k6m0) (c := k6c0) (by decide +kernel) rfl rfl rfl (by decide +kernel)
def codes1 : List Jvm.Cond := [Jvm.Cond.code x code maxLocals ret, Jvm.Cond.code ({ cls := "com/example/exposure/exposure/ExecutionPhaseIsFinalPinLaw", name := "pick", desc := "(I)Lcom/example/exposure/exposure/ExecutionPhase;" } : Jvm.MethodName) method_2_code (1 : Nat) (Option.some (Jvm.ClassFile.FieldType.object "com/example/exposure/exposure/ExecutionPhase")), Jvm.Cond.code ({ cls := "com/example/exposure/exposure/ExecutionPhase", name := "isFinal", desc := "()Z" } : Jvm.MethodName) prog_11_method_6_code (1 : Nat) (Option.some Jvm.ClassFile.FieldType.boolean), Jvm.Cond.code ({ cls := "java/lang/Enum", name := "ordinal", desc := "()I" } : Jvm.MethodName) jdk_37_method_2_code (1 : Nat) (Option.some Jvm.ClassFile.FieldType.int), Jvm.Cond.code ({ cls := "com/example/exposure/exposure/ExecutionPhase", name := "isActive", desc := "()Z" } : Jvm.MethodName) prog_11_method_5_code (1 : Nat) (Option.some Jvm.ClassFile.FieldType.boolean), Jvm.Cond.code ({ cls := "com/example/exposure/exposure/ExecutionPhase", name := "canStart", desc := "()Z" } : Jvm.MethodName) prog_11_method_4_code (1 : Nat) (Option.some Jvm.ClassFile.FieldType.boolean)]
set_option maxRecDepth 65536 in
theorem codes_eq : words1.filter isCode = codes1 := rfl
theorem w_codes : ∀ c ∈ words1.filter isCode, c.before args0 about1 = true := by
  rw [codes_eq]
  intro c hc
  simp only [codes1, List.mem_cons, List.not_mem_nil, or_false] at hc
  rcases hc with rfl | rfl | rfl | rfl | rfl | rfl
  · exact w_c0
  · exact w_c1
  · exact w_c2
  · exact w_c3
  · exact w_c4
  · exact w_c5
set_option maxRecDepth 65536 in
theorem w_t1 : (words1.take 24).all (fun c => isCode c || c.before args0 about1) = true := by decide +kernel
set_option maxRecDepth 65536 in
theorem w_t2 : ((words1.drop 24).take 24).all (fun c => isCode c || c.before args0 about1) = true := by decide +kernel
set_option maxRecDepth 65536 in
theorem w_t3 : ((words1.drop 24).drop 24).all (fun c => isCode c || c.before args0 about1) = true := by decide +kernel
theorem w_tables : (allAtoms (Jvm.Cond.code x code maxLocals ret :: tables_1)).before args0 about1 = true := by
  rw [allAtoms_all]
  show words1.all (fun c => c.before args0 about1) = true
  refine all_split ?_ w_codes
  rw [← List.take_append_drop 24 words1, List.all_append, w_t1, ← List.take_append_drop 24 (words1.drop 24), List.all_append, w_t2, w_t3]
  rfl
set_option maxRecDepth 65536 in
theorem w_case : (Jvm.Cond.and given_1 narrow_1).before args0 about1 = true := by decide +kernel
theorem w_applies : (headSpec (Jvm.Cond.code x code maxLocals ret :: tables_1) room_1).applies x e0.platform about1 = true :=
  (Spec.applies_iff w_frames).mpr ⟨w_running, w_runnable, w_alone, w_named, w_hears, w_ripe, w_room, w_tables⟩
theorem atStart : AtStart classFile x code maxLocals ret World_1 tables_1 room_1 Calls_1 rest_1 Pre_1 launch0 p0 e0 about1 theMethod args0 below0 :=
  ⟨lists_1, trivial, launch0.admits_env _ _ _, launch0.least_env, fairChoices_fair.cas, fairChoices_fair.clock, w_frames, w_args, w_heap, w_applies, trivial, trivial, w_case⟩
end start1
theorem witness_1 : WitnessClaimed_1 := ⟨start1.p0, start1.e0, start1.about1, start1.theMethod, start1.args0, start1.below0, start1.atStart⟩
end Jvm.Pilot.@@N@@
