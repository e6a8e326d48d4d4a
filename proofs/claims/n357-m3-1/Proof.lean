import JvmDerived
import JvmDerived.Pilot.@@N@@Statement
import JvmDerived.Pilot.@@N@@Code
set_option linter.unusedVariables false
set_option linter.unusedSimpArgs false
@@BLOCK:NumsL.lean.txt@@
namespace Jvm.RoadKit
open Sem ClassFile Op Lib Jvm.Stand Jvm.Free Jvm.LawKit
section New
variable {p : Program} {l : Launch} {e : Env} {R : Room} {s : State} {m : MethodId} {args : Array Value} {below : List Frame} {meth : Method} {c : Code} {T : State} {locs : List Loc} {cells slots : Nat}
theorem retI (X : Stand p l e R s m args below meth c T locs cells slots) (hx : p.tables.exec = Jvm.exec) {pc : Nat} {Ls : Array Slot} {z : Int32} {rest : List Value} (hret : meth.sig.returnType = some .int) (hd : decode c.code pc = .ok (.ireturn, 1)) {fs : List Frame}
    (hl : ∀ (f : JFrame) (acts : List Action), f.method = m → f.locked = none → f.entered = [] → (doReturn e (T.setTop f) acts (some (.int z))).1 = T.setFrames fs) : Steps p.tables e below (T.setTop (mkF m pc Ls (.int z :: rest))) (T.setFrames fs) := by
  have hm' : T.vm.method? m = some meth := X.method'
  have hn : narrow .int (.int z) = .int z := rfl
  show Steps p.tables e below (T.setTop { method := m, pc := pc, locals := Ls, stack := _ :: rest, locked := none }) _
  jvm_step X.here [X.here.top, hx, hd, hm', hret, hn]
  first | (intro acts; rw [hl _ acts rfl rfl rfl]) | rw [hl _ _ rfl rfl rfl]
  exact Steps.refl _
end New
end Jvm.RoadKit
namespace Jvm.Pilot.@@N@@
open Jvm Jvm.ClassFile Sem Op Lib Jvm.Free Jvm.Stand Jvm.LawKit Jvm.RoadKit Bundle Jvm.Pilot.@@N@@.Jvm.D
/-- what a walk comes to, said forward -/
def Go (p : Program) (e : Env) (below : List Frame) (R : State → Outcome → Prop) (A : State) : Prop := ∃ t o, Steps p.tables e below A t ∧ R t o
def Fin1 (s : State) (below : List Frame) (Q : Option Value → Heap → List Loc → Prop) (K N : Nat) (t : State) (o : Outcome) : Prop := t.status = .running ∧ Ended t below o ∧ ∃ v L, o = .returned v ∧ Q v t.heap L ∧ FrameEnd s o t L K N
theorem Go.step {p : Program} {e : Env} {below : List Frame} {R : State → Outcome → Prop} {A B : State} (k : ∀ t, Steps p.tables e below A t → Steps p.tables e below B t) (h : Go p e below R A) : Go p e below R B := by
  obtain ⟨t, o, h1, h2⟩ := h
  exact ⟨t, o, k t h1, h2⟩
section GoRet
variable {p : Program} {l : Launch} {e : Env} {R : Room} {s : State} {m : MethodId} {args : Array Value} {below : List Frame} {meth : Method} {c : Code} {T : State} {locs : List Loc} {cells slots : Nat} {Q : Option Value → Heap → List Loc → Prop} {K N pc : Nat} {Ls : Array Slot} {rest : List Value}
theorem Go.retZ (X : Stand p l e R s m args below meth c T locs cells slots) (hx : p.tables.exec = Jvm.exec) {z : Int32} {t : FieldType} (hret : meth.sig.returnType = some t) (ht : t = .boolean ∨ t = .byte ∨ t = .char ∨ t = .short) (hlk : meth.locks = false) (hd : decode c.code pc = .ok (.ireturn, 1)) (hq : Q (some (.int (nar t z))) T.heap locs) (hc : cells ≤ K) (hn : slots ≤ N) : Go p e below (Fin1 s below Q K N) (T.setTop (mkF m pc Ls (.int z :: rest))) := by
  obtain ⟨fs, hr, hrun, hended, hW, hsame⟩ := X.leave (v := some (.int (nar t z))) (fun h => by rw [hret] at h; cases h) hlk
  exact ⟨_, _, retN X hx hret ht hd hr, hrun, hended, _, _, rfl, hq, ⟨_, rfl⟩, hW, hsame.mono hc hn⟩
theorem Go.retI (X : Stand p l e R s m args below meth c T locs cells slots) (hx : p.tables.exec = Jvm.exec) {z : Int32} (hret : meth.sig.returnType = some .int) (hlk : meth.locks = false) (hd : decode c.code pc = .ok (.ireturn, 1)) (hq : Q (some (.int z)) T.heap locs) (hc : cells ≤ K) (hn : slots ≤ N) : Go p e below (Fin1 s below Q K N) (T.setTop (mkF m pc Ls (.int z :: rest))) := by
  obtain ⟨fs, hr, hrun, hended, hW, hsame⟩ := X.leave (v := some (.int z)) (fun h => by rw [hret] at h; cases h) hlk
  exact ⟨_, _, Jvm.RoadKit.retI X hx hret hd hr, hrun, hended, _, _, rfl, hq, ⟨_, rfl⟩, hW, hsame.mono hc hn⟩
theorem Go.retJ (X : Stand p l e R s m args below meth c T locs cells slots) (hx : p.tables.exec = Jvm.exec) {z : Int64} (hret : meth.sig.returnType = some .long) (hlk : meth.locks = false) (hd : decode c.code pc = .ok (.lreturn, 1)) (hq : Q (some (.long z)) T.heap locs) (hc : cells ≤ K) (hn : slots ≤ N) : Go p e below (Fin1 s below Q K N) (T.setTop (mkF m pc Ls (.long z :: rest))) := by
  obtain ⟨fs, hr, hrun, hended, hW, hsame⟩ := X.leave (v := some (.long z)) (fun h => by rw [hret] at h; cases h) hlk
  exact ⟨_, _, retOut X hx hret rfl (Or.inr (Or.inl ⟨rfl, rfl, _, rfl⟩)) hd hr, hrun, hended, _, _, rfl, hq, ⟨_, rfl⟩, hW, hsame.mono hc hn⟩
theorem Go.retR (X : Stand p l e R s m args below meth c T locs cells slots) (hx : p.tables.exec = Jvm.exec) {w : Value} {t : FieldType} (hret : meth.sig.returnType = some t) (ht : t.isReference = true) (hw : w.isRef = true) (hlk : meth.locks = false) (hd : decode c.code pc = .ok (.areturn, 1)) (hq : Q (some w) T.heap locs) (hc : cells ≤ K) (hn : slots ≤ N) : Go p e below (Fin1 s below Q K N) (T.setTop (mkF m pc Ls (w :: rest))) := by
  obtain ⟨fs, hr, hrun, hended, hW, hsame⟩ := X.leave (v := some w) (fun h => by rw [hret] at h; cases h) hlk
  have hnw : narrow t w = w := by rcases ref_cases hw with rfl | ⟨a, rfl⟩ <;> cases t <;> first | rfl | (cases ht)
  exact ⟨_, _, retOut X hx hret hnw (Or.inr (Or.inr (Or.inr (Or.inr ⟨rfl, ht, hw⟩)))) hd hr, hrun, hended, _, _, rfl, hq, ⟨_, rfl⟩, hW, hsame.mono hc hn⟩
theorem Go.retV (X : Stand p l e R s m args below meth c T locs cells slots) (hx : p.tables.exec = Jvm.exec) (hret : meth.sig.returnType = none) (hlk : meth.locks = false) (hd : decode c.code pc = .ok (.return_, 1)) (hq : Q none T.heap locs) (hc : cells ≤ K) (hn : slots ≤ N) : Go p e below (Fin1 s below Q K N) (T.setTop (mkF m pc Ls [])) := by
  obtain ⟨fs, hr, hrun, hended, hW, hsame⟩ := X.leave (v := none) (fun _ => rfl) hlk
  exact ⟨_, _, X.returnOut hx hret hd hr, hrun, hended, _, _, rfl, hq, ⟨_, rfl⟩, hW, hsame.mono hc hn⟩
end GoRet
def Fin2 (s : State) (below : List Frame) (Q : Option Value → Heap → List Loc → Prop) (K N : Nat) (t : State) (o : Outcome) : Prop := t.status = .running ∧ Ended t below o ∧ ∃ v L, o = .returned v ∧ Q v t.heap L ∧ ReturnedEndW s o t L K N
theorem wmono {s t : State} {o : Outcome} {L : List Loc} {k n k' n' : Nat} (h : ReturnedEndW s o t L k n) (h1 : k ≤ k') (h2 : n ≤ n') : ReturnedEndW s o t L k' n' := ⟨h.1, h.2.1, h.2.2.1, h.2.2.2.mono h1 h2⟩
section GoRetW
variable {p : Program} {l : Launch} {e : Env} {R : Room} {s : State} {vm0 : Vm} {m : MethodId} {args : Array Value} {below : List Frame} {meth : Method} {c : Code} {T : State} {locs : List Loc} {cells slots : Nat} {Q : Option Value → Heap → List Loc → Prop} {K N pc k0 : Nat} {Ls : Array Slot} {rest : List Value}
theorem GoW.retZ (X : Stand p l e R (s.setVm vm0) m args below meth c T locs cells slots) (hS : s.Since vm0 k0) (hk : k0 ≤ T.heap.size) (hx : p.tables.exec = Jvm.exec) {z : Int32} {t : FieldType} (hret : meth.sig.returnType = some t) (ht : t = .boolean ∨ t = .byte ∨ t = .char ∨ t = .short) (hlk : meth.locks = false) (hd : decode c.code pc = .ok (.ireturn, 1)) (hq : Q (some (.int (nar t z))) T.heap locs) (hc : cells ≤ K) (hn : slots ≤ N) : Go p e below (Fin2 s below Q K N) (T.setTop (mkF m pc Ls (.int z :: rest))) := by
  obtain ⟨fs, hr, hrun, hended, hW⟩ := X.leaveW hS hk (v := some (.int (nar t z))) (fun h => by rw [hret] at h; cases h) hlk
  exact ⟨_, _, retN X hx hret ht hd hr, hrun, hended, _, _, rfl, hq, wmono hW hc hn⟩
theorem GoW.retI (X : Stand p l e R (s.setVm vm0) m args below meth c T locs cells slots) (hS : s.Since vm0 k0) (hk : k0 ≤ T.heap.size) (hx : p.tables.exec = Jvm.exec) {z : Int32} (hret : meth.sig.returnType = some .int) (hlk : meth.locks = false) (hd : decode c.code pc = .ok (.ireturn, 1)) (hq : Q (some (.int z)) T.heap locs) (hc : cells ≤ K) (hn : slots ≤ N) : Go p e below (Fin2 s below Q K N) (T.setTop (mkF m pc Ls (.int z :: rest))) := by
  obtain ⟨fs, hr, hrun, hended, hW⟩ := X.leaveW hS hk (v := some (.int z)) (fun h => by rw [hret] at h; cases h) hlk
  exact ⟨_, _, Jvm.RoadKit.retI X hx hret hd hr, hrun, hended, _, _, rfl, hq, wmono hW hc hn⟩
theorem GoW.retR (X : Stand p l e R (s.setVm vm0) m args below meth c T locs cells slots) (hS : s.Since vm0 k0) (hk : k0 ≤ T.heap.size) (hx : p.tables.exec = Jvm.exec) {w : Value} {t : FieldType} (hret : meth.sig.returnType = some t) (ht : t.isReference = true) (hw : w.isRef = true) (hlk : meth.locks = false) (hd : decode c.code pc = .ok (.areturn, 1)) (hq : Q (some w) T.heap locs) (hc : cells ≤ K) (hn : slots ≤ N) : Go p e below (Fin2 s below Q K N) (T.setTop (mkF m pc Ls (w :: rest))) := by
  obtain ⟨fs, hr, hrun, hended, hW⟩ := X.leaveW hS hk (v := some w) (fun h => by rw [hret] at h; cases h) hlk
  have hnw : narrow t w = w := by rcases ref_cases hw with rfl | ⟨a, rfl⟩ <;> cases t <;> first | rfl | (cases ht)
  exact ⟨_, _, retOut X hx hret hnw (Or.inr (Or.inr (Or.inr (Or.inr ⟨rfl, ht, hw⟩)))) hd hr, hrun, hended, _, _, rfl, hq, wmono hW hc hn⟩
theorem GoW.retV (X : Stand p l e R (s.setVm vm0) m args below meth c T locs cells slots) (hS : s.Since vm0 k0) (hk : k0 ≤ T.heap.size) (hx : p.tables.exec = Jvm.exec) (hret : meth.sig.returnType = none) (hlk : meth.locks = false) (hd : decode c.code pc = .ok (.return_, 1)) (hq : Q none T.heap locs) (hc : cells ≤ K) (hn : slots ≤ N) : Go p e below (Fin2 s below Q K N) (T.setTop (mkF m pc Ls [])) := by
  obtain ⟨fs, hr, hrun, hended, hW⟩ := X.leaveW hS hk (v := none) (fun _ => rfl) hlk
  exact ⟨_, _, X.returnOut hx hret hd hr, hrun, hended, _, _, rfl, hq, wmono hW hc hn⟩
end GoRetW
theorem old_z0 {Z : State} {n0 : Nat} {h : Heap} (O : Old Z n0 h) : n0 ≤ h.size := O.1 ▸ O.2.1
theorem eq_long {args : Array Value} {s : State} {t : Term} {z : Int64} (h : (Jvm.Cond.eq t (.long z)).value args s none s [] = some true) : t.eval args s none [] s = some (.long z) := by
  simp only [Cond.value, Term.eval] at h
  cases e : t.eval args s none [] s with
  | none => simp [e] at h
  | some v => cases v <;> simp_all
theorem eq_int {args : Array Value} {s : State} {t : Term} {z : Int32} (h : (Jvm.Cond.eq t (.int z)).value args s none s [] = some true) : t.eval args s none [] s = some (.int z) := by
  simp only [Cond.value, Term.eval] at h
  cases e : t.eval args s none [] s with
  | none => simp [e] at h
  | some v => cases v <;> simp_all
def Wd (Z : State) (a_EQUAL : Addr) (a_LESS_OR_EQUAL : Addr) (a_NOT_EQUAL : Addr) (a_LESS : Addr) (a_GREATER_OR_EQUAL : Addr) (a_GREATER : Addr) : Prop := (Sta Z Z.heap "com/example/wacl/wacl/core/Operator" "EQUAL" "Lcom/example/wacl/wacl/core/Operator;" (.ref a_EQUAL)) ∧ (Exa Z Z.heap a_EQUAL "com/example/wacl/wacl/core/Operator") ∧ (Sta Z Z.heap "com/example/wacl/wacl/core/Operator" "LESS_OR_EQUAL" "Lcom/example/wacl/wacl/core/Operator;" (.ref a_LESS_OR_EQUAL)) ∧ (Exa Z Z.heap a_LESS_OR_EQUAL "com/example/wacl/wacl/core/Operator") ∧ (Sta Z Z.heap "com/example/wacl/wacl/core/Operator" "NOT_EQUAL" "Lcom/example/wacl/wacl/core/Operator;" (.ref a_NOT_EQUAL)) ∧ (Exa Z Z.heap a_NOT_EQUAL "com/example/wacl/wacl/core/Operator") ∧ (Sta Z Z.heap "com/example/wacl/wacl/core/Operator" "LESS" "Lcom/example/wacl/wacl/core/Operator;" (.ref a_LESS)) ∧ (Exa Z Z.heap a_LESS "com/example/wacl/wacl/core/Operator") ∧ (Sta Z Z.heap "com/example/wacl/wacl/core/Operator" "GREATER_OR_EQUAL" "Lcom/example/wacl/wacl/core/Operator;" (.ref a_GREATER_OR_EQUAL)) ∧ (Exa Z Z.heap a_GREATER_OR_EQUAL "com/example/wacl/wacl/core/Operator") ∧ (Sta Z Z.heap "com/example/wacl/wacl/core/Operator" "GREATER" "Lcom/example/wacl/wacl/core/Operator;" (.ref a_GREATER)) ∧ (Exa Z Z.heap a_GREATER "com/example/wacl/wacl/core/Operator") ∧ (Fld Z Z.heap a_LESS_OR_EQUAL "java/lang/Enum" "ordinal" "I" (.int (3 : Int32))) ∧ (Fld Z Z.heap a_EQUAL "java/lang/Enum" "ordinal" "I" (.int (0 : Int32))) ∧ (Fld Z Z.heap a_NOT_EQUAL "java/lang/Enum" "ordinal" "I" (.int (1 : Int32))) ∧ (Fld Z Z.heap a_LESS "java/lang/Enum" "ordinal" "I" (.int (2 : Int32))) ∧ (Fld Z Z.heap a_GREATER_OR_EQUAL "java/lang/Enum" "ordinal" "I" (.int (5 : Int32))) ∧ (Fld Z Z.heap a_GREATER "java/lang/Enum" "ordinal" "I" (.int (4 : Int32)))
theorem i32_is {k : Int32} (z : Int32) (h : k.toInt = z.toInt) : k = z := Int32.toInt_inj.mp h
theorem rem_bd (x m : Int32) (hm : 0 < m.toInt) : 0 ≤ ((x &&& (2147483647 : Int32)) % m).toInt ∧ ((x &&& (2147483647 : Int32)) % m).toInt < m.toInt := by
  have e1 : (x &&& (2147483647 : Int32)).toInt = x.toInt % 2 ^ 31 := Jvm.Kit.i32_mask x 2147483647 (k := 31) (by decide) (by decide)
  have h0 : 0 ≤ (x &&& (2147483647 : Int32)).toInt := by rw [e1]; exact Int.emod_nonneg _ (by decide)
  rw [Jvm.Kit.i32_rem_nonneg h0]
  exact ⟨Int.emod_nonneg _ (by omega), Int.emod_lt_of_pos _ hm⟩
theorem cs6 {k : Int32} (h : 0 ≤ k.toInt ∧ k.toInt < 6) : k = (0 : Int32) ∨ k = (1 : Int32) ∨ k = (2 : Int32) ∨ k = (3 : Int32) ∨ k = (4 : Int32) ∨ k = (5 : Int32) := by
  have q : k.toInt = 0 ∨ k.toInt = 1 ∨ k.toInt = 2 ∨ k.toInt = 3 ∨ k.toInt = 4 ∨ k.toInt = 5 := by omega
  rcases q with q | q | q | q | q | q
  · exact Or.inl (i32_is 0 q)
  · exact Or.inr (Or.inl (i32_is 1 q))
  · exact Or.inr (Or.inr (Or.inl (i32_is 2 q)))
  · exact Or.inr (Or.inr (Or.inr (Or.inl (i32_is 3 q))))
  · exact Or.inr (Or.inr (Or.inr (Or.inr (Or.inl (i32_is 4 q)))))
  · exact Or.inr (Or.inr (Or.inr (Or.inr (Or.inr ((i32_is 5 q))))))
theorem d1_0 : decode method_2_code 0 = .ok (.iload_n 0, 1) := by decide +kernel
theorem d1_1 : decode method_2_code 1 = .ok (.ifCond .ne 7, 3) := by decide +kernel
theorem d1_4 : decode method_2_code 4 = .ok (.getstatic 7, 3) := by decide +kernel
theorem d1_7 : decode method_2_code 7 = .ok (.areturn, 1) := by decide +kernel
theorem d1_8 : decode method_2_code 8 = .ok (.iload_n 0, 1) := by decide +kernel
theorem d1_9 : decode method_2_code 9 = .ok (.iconst 1, 1) := by decide +kernel
theorem d1_10 : decode method_2_code 10 = .ok (.if_icmp .ne 7, 3) := by decide +kernel
theorem d1_13 : decode method_2_code 13 = .ok (.getstatic 13, 3) := by decide +kernel
theorem d1_16 : decode method_2_code 16 = .ok (.areturn, 1) := by decide +kernel
theorem d1_17 : decode method_2_code 17 = .ok (.iload_n 0, 1) := by decide +kernel
theorem d1_18 : decode method_2_code 18 = .ok (.iconst 2, 1) := by decide +kernel
theorem d1_19 : decode method_2_code 19 = .ok (.if_icmp .ne 7, 3) := by decide +kernel
theorem d1_22 : decode method_2_code 22 = .ok (.getstatic 16, 3) := by decide +kernel
theorem d1_25 : decode method_2_code 25 = .ok (.areturn, 1) := by decide +kernel
theorem d1_26 : decode method_2_code 26 = .ok (.iload_n 0, 1) := by decide +kernel
theorem d1_27 : decode method_2_code 27 = .ok (.iconst 3, 1) := by decide +kernel
theorem d1_28 : decode method_2_code 28 = .ok (.if_icmp .ne 7, 3) := by decide +kernel
theorem d1_31 : decode method_2_code 31 = .ok (.getstatic 19, 3) := by decide +kernel
theorem d1_34 : decode method_2_code 34 = .ok (.areturn, 1) := by decide +kernel
theorem d1_35 : decode method_2_code 35 = .ok (.iload_n 0, 1) := by decide +kernel
theorem d1_36 : decode method_2_code 36 = .ok (.iconst 4, 1) := by decide +kernel
theorem d1_37 : decode method_2_code 37 = .ok (.if_icmp .ne 7, 3) := by decide +kernel
theorem d1_40 : decode method_2_code 40 = .ok (.getstatic 22, 3) := by decide +kernel
theorem d1_43 : decode method_2_code 43 = .ok (.areturn, 1) := by decide +kernel
theorem d1_44 : decode method_2_code 44 = .ok (.getstatic 25, 3) := by decide +kernel
theorem d1_47 : decode method_2_code 47 = .ok (.areturn, 1) := by decide +kernel
theorem pn_0 : plainName "com/example/wacl/wacl/core/OperatorOrdersPinLaw" = true := by first | (simp [plainName, overriddenIn]; done) | decide +kernel
theorem ef_rm1 (m : MethodId) (x0 : Int32)  : entryFrame m #[(.int x0)] 1 = mkF m 0 #[.val (.int x0)] [] := by first | (simp [entryFrame, mkF, argsToLocals, Value.category]; done) | rfl
def Q_rm1 (Z : State) (a_EQUAL : Addr) (a_LESS_OR_EQUAL : Addr) (a_NOT_EQUAL : Addr) (a_LESS : Addr) (a_GREATER_OR_EQUAL : Addr) (a_GREATER : Addr) (k : Int32) (res : Addr) (h0 : Heap) (n0 : Nat) (v : Option Value) (h : Heap) (L : List Loc) : Prop := v = some (.ref res) ∧ Fr n0 L ∧ h = h0
set_option maxRecDepth 65536 in
set_option maxHeartbeats 40000000 in
theorem rm1 (l : Launch) (Z : State) (a0 : Array Value) (hw : ∀ d ∈ tables_1, d.before a0 Z = true) (ws : List Jvm.Cond) (a_EQUAL : Addr) (a_LESS_OR_EQUAL : Addr) (a_NOT_EQUAL : Addr) (a_LESS : Addr) (a_GREATER_OR_EQUAL : Addr) (a_GREATER : Addr) (HW : Wd Z a_EQUAL a_LESS_OR_EQUAL a_NOT_EQUAL a_LESS a_GREATER_OR_EQUAL a_GREATER) (k : Int32) (res : Addr) (h0 : Heap) (n0 : Nat) (Ol : Old Z n0 h0)  (hres : (if k = (0 : Int32) then a_EQUAL else if k = (1 : Int32) then a_NOT_EQUAL else if k = (2 : Int32) then a_LESS else if k = (3 : Int32) then a_LESS_OR_EQUAL else if k = (4 : Int32) then a_GREATER else a_GREATER_OR_EQUAL) = res) :
    MetFree l (⟨"com/example/wacl/wacl/core/OperatorOrdersPinLaw", "pick", "(I)Lcom/example/wacl/wacl/core/Operator;"⟩ : MethodName) (head1 (Jvm.Cond.code (⟨"com/example/wacl/wacl/core/OperatorOrdersPinLaw", "pick", "(I)Lcom/example/wacl/wacl/core/Operator;"⟩ : MethodName) method_2_code 1 (some (.object "com/example/wacl/wacl/core/Operator")) :: ws) ({ frames := 0, cells := 0, slots := 0, locals := 0 } : Room)) (fun a U => a = #[(.int k)] ∧ Z.Warmed39 U.vm ∧ U.heap = h0) (fun _ _ _ _ _ => True) (fun _ U o U' => ∃ v L, o = .returned v ∧ Q_rm1 Z a_EQUAL a_LESS_OR_EQUAL a_NOT_EQUAL a_LESS a_GREATER_OR_EQUAL a_GREATER k res h0 n0 v U'.heap L ∧ FrameEnd U o U' L ({ frames := 0, cells := 0, slots := 0, locals := 0 } : Room).cells ({ frames := 0, cells := 0, slots := 0, locals := 0 } : Room).slots) := by
  refine MetFree.of_bodySF (plainFor_of_name pn_0) hisR ?_
  intro p e s m args below meth c s₁ Bd hml0 hP hK
  obtain ⟨rfl, hZ, hh⟩ := hP
  have hx := Bd.exec
  have hby := Bd.bytes
  have hml : c.maxLocals = 1 := hml0
  have hown : s.vm.findClass "com/example/wacl/wacl/core/OperatorOrdersPinLaw" = some m.cls := findClass_of_methodNamed Bd.named
  have hnm := (name_of_methodNamed Bd.named Bd.method).1
  have X0 : Stand p l e ({ frames := 0, cells := 0, slots := 0, locals := 0 } : Room) s m #[(.int k)] below meth c s₁ [] 0 0 := Stand.of_body Bd
  have e0 : s₁.heap = h0 := by rw [← hh, Bd.state]; rfl
  have N0 := Fr.nil n0
  have kp0 := Keep.refl h0 []
  show Go p e below (Fin1 s below (Q_rm1 Z a_EQUAL a_LESS_OR_EQUAL a_NOT_EQUAL a_LESS a_GREATER_OR_EQUAL a_GREATER k res h0 n0) ({ frames := 0, cells := 0, slots := 0, locals := 0 } : Room).cells ({ frames := 0, cells := 0, slots := 0, locals := 0 } : Room).slots) _
  refine Go.step (fun t_ k_ => castTop (ef_rm1 m k) k_) ?_
  obtain ⟨S_EQUAL, E_EQUAL, S_LESS_OR_EQUAL, E_LESS_OR_EQUAL, S_NOT_EQUAL, E_NOT_EQUAL, S_LESS, E_LESS, S_GREATER_OR_EQUAL, E_GREATER_OR_EQUAL, S_GREATER, E_GREATER, F_LESS_OR_EQUAL_ordinal, F_EQUAL_ordinal, F_NOT_EQUAL_ordinal, F_LESS_ordinal, F_GREATER_OR_EQUAL_ordinal, F_GREATER_ordinal⟩ := id HW
  show Go p e below _ (s₁.setTop (mkF m 0 #[.val (.int k)] []))
  refine Go.step (fun t_ k_ => XS.iloadN X0.here hx rfl (hb hby d1_0) rfl k_) ?_
  show Go p e below _ (s₁.setTop (mkF m 1 #[.val (.int k)] [(.int k)]))
  by_cases hc1 : k = (0 : Int32)
  case pos =>
    refine Go.step (fun t_ k_ => XS.ifNo X0.here hx rfl (hb hby d1_1) rfl ((if0 _ _).trans (teq hc1).2) k_) ?_
    show Go p e below _ (s₁.setTop (mkF m 4 #[.val (.int k)] []))
    obtain ⟨T1, X1, e1, st1⟩ := getS2 X0 hx hZ hown (host := "") (Or.inl (hw _ (List.mem_of_getElem? (i := 5) rfl))) Via.refl e0 (S_EQUAL.ext Ol.2) (g := (mkF m 4 #[.val (.int k)] [])) rfl (hb hby d1_4)
    refine Go.step st1 ?_
    show Go p e below _ (T1.setTop (mkF m 7 #[.val (.int k)] [(.ref a_EQUAL)]))
    refine Go.retR X1 hx Bd.returns rfl rfl Bd.notSynchronized (hb hby d1_7) (by rw [e1]; exact ⟨by rw [← hres]; first | (simp [if_pos hc1]; done) | (simp [hc1]; done) | (simp_all; done), N0, rfl⟩) (by decide) (by decide)
  case neg =>
    refine Go.step (fun t_ k_ => XS.ifYes X0.here hx rfl (pc0 := 1) (pc' := 8) rfl (hb hby d1_1) rfl ((if0 _ _).trans (feq hc1).2) (by decide) (by decide) k_) ?_
    show Go p e below _ (s₁.setTop (mkF m 8 #[.val (.int k)] []))
    refine Go.step (fun t_ k_ => XS.iloadN X0.here hx rfl (hb hby d1_8) rfl k_) ?_
    show Go p e below _ (s₁.setTop (mkF m 9 #[.val (.int k)] [(.int k)]))
    refine Go.step (fun t_ k_ => XS.iconst X0.here hx rfl (hb hby d1_9) k_) ?_
    show Go p e below _ (s₁.setTop (mkF m 10 #[.val (.int k)] [(.int (1 : Int32)), (.int k)]))
    by_cases hc10 : k = (1 : Int32)
    case pos =>
      refine Go.step (fun t_ k_ => XS.icmpNo X0.here hx rfl (hb hby d1_10) rfl (teq hc10).2 k_) ?_
      show Go p e below _ (s₁.setTop (mkF m 13 #[.val (.int k)] []))
      obtain ⟨T2, X2, e2, st2⟩ := getS2 X0 hx hZ hown (host := "") (Or.inl (hw _ (List.mem_of_getElem? (i := 20) rfl))) Via.refl e0 (S_NOT_EQUAL.ext Ol.2) (g := (mkF m 13 #[.val (.int k)] [])) rfl (hb hby d1_13)
      refine Go.step st2 ?_
      show Go p e below _ (T2.setTop (mkF m 16 #[.val (.int k)] [(.ref a_NOT_EQUAL)]))
      refine Go.retR X2 hx Bd.returns rfl rfl Bd.notSynchronized (hb hby d1_16) (by rw [e2]; exact ⟨by rw [← hres]; first | (simp [if_neg hc1, if_pos hc10]; done) | (simp [hc1, hc10]; done) | (simp_all; done), N0, rfl⟩) (by decide) (by decide)
    case neg =>
      refine Go.step (fun t_ k_ => XS.icmpYes X0.here hx rfl (pc0 := 10) (pc' := 17) rfl (hb hby d1_10) rfl (feq hc10).2 (by decide) (by decide) k_) ?_
      show Go p e below _ (s₁.setTop (mkF m 17 #[.val (.int k)] []))
      refine Go.step (fun t_ k_ => XS.iloadN X0.here hx rfl (hb hby d1_17) rfl k_) ?_
      show Go p e below _ (s₁.setTop (mkF m 18 #[.val (.int k)] [(.int k)]))
      refine Go.step (fun t_ k_ => XS.iconst X0.here hx rfl (hb hby d1_18) k_) ?_
      show Go p e below _ (s₁.setTop (mkF m 19 #[.val (.int k)] [(.int (2 : Int32)), (.int k)]))
      by_cases hc19 : k = (2 : Int32)
      case pos =>
        refine Go.step (fun t_ k_ => XS.icmpNo X0.here hx rfl (hb hby d1_19) rfl (teq hc19).2 k_) ?_
        show Go p e below _ (s₁.setTop (mkF m 22 #[.val (.int k)] []))
        obtain ⟨T3, X3, e3, st3⟩ := getS2 X0 hx hZ hown (host := "") (Or.inl (hw _ (List.mem_of_getElem? (i := 18) rfl))) Via.refl e0 (S_LESS.ext Ol.2) (g := (mkF m 22 #[.val (.int k)] [])) rfl (hb hby d1_22)
        refine Go.step st3 ?_
        show Go p e below _ (T3.setTop (mkF m 25 #[.val (.int k)] [(.ref a_LESS)]))
        refine Go.retR X3 hx Bd.returns rfl rfl Bd.notSynchronized (hb hby d1_25) (by rw [e3]; exact ⟨by rw [← hres]; first | (simp [if_neg hc1, if_neg hc10, if_pos hc19]; done) | (simp [hc1, hc10, hc19]; done) | (simp_all; done), N0, rfl⟩) (by decide) (by decide)
      case neg =>
        refine Go.step (fun t_ k_ => XS.icmpYes X0.here hx rfl (pc0 := 19) (pc' := 26) rfl (hb hby d1_19) rfl (feq hc19).2 (by decide) (by decide) k_) ?_
        show Go p e below _ (s₁.setTop (mkF m 26 #[.val (.int k)] []))
        refine Go.step (fun t_ k_ => XS.iloadN X0.here hx rfl (hb hby d1_26) rfl k_) ?_
        show Go p e below _ (s₁.setTop (mkF m 27 #[.val (.int k)] [(.int k)]))
        refine Go.step (fun t_ k_ => XS.iconst X0.here hx rfl (hb hby d1_27) k_) ?_
        show Go p e below _ (s₁.setTop (mkF m 28 #[.val (.int k)] [(.int (3 : Int32)), (.int k)]))
        by_cases hc28 : k = (3 : Int32)
        case pos =>
          refine Go.step (fun t_ k_ => XS.icmpNo X0.here hx rfl (hb hby d1_28) rfl (teq hc28).2 k_) ?_
          show Go p e below _ (s₁.setTop (mkF m 31 #[.val (.int k)] []))
          obtain ⟨T4, X4, e4, st4⟩ := getS2 X0 hx hZ hown (host := "") (Or.inl (hw _ (List.mem_of_getElem? (i := 14) rfl))) Via.refl e0 (S_LESS_OR_EQUAL.ext Ol.2) (g := (mkF m 31 #[.val (.int k)] [])) rfl (hb hby d1_31)
          refine Go.step st4 ?_
          show Go p e below _ (T4.setTop (mkF m 34 #[.val (.int k)] [(.ref a_LESS_OR_EQUAL)]))
          refine Go.retR X4 hx Bd.returns rfl rfl Bd.notSynchronized (hb hby d1_34) (by rw [e4]; exact ⟨by rw [← hres]; first | (simp [if_neg hc1, if_neg hc10, if_neg hc19, if_pos hc28]; done) | (simp [hc1, hc10, hc19, hc28]; done) | (simp_all; done), N0, rfl⟩) (by decide) (by decide)
        case neg =>
          refine Go.step (fun t_ k_ => XS.icmpYes X0.here hx rfl (pc0 := 28) (pc' := 35) rfl (hb hby d1_28) rfl (feq hc28).2 (by decide) (by decide) k_) ?_
          show Go p e below _ (s₁.setTop (mkF m 35 #[.val (.int k)] []))
          refine Go.step (fun t_ k_ => XS.iloadN X0.here hx rfl (hb hby d1_35) rfl k_) ?_
          show Go p e below _ (s₁.setTop (mkF m 36 #[.val (.int k)] [(.int k)]))
          refine Go.step (fun t_ k_ => XS.iconst X0.here hx rfl (hb hby d1_36) k_) ?_
          show Go p e below _ (s₁.setTop (mkF m 37 #[.val (.int k)] [(.int (4 : Int32)), (.int k)]))
          by_cases hc37 : k = (4 : Int32)
          case pos =>
            refine Go.step (fun t_ k_ => XS.icmpNo X0.here hx rfl (hb hby d1_37) rfl (teq hc37).2 k_) ?_
            show Go p e below _ (s₁.setTop (mkF m 40 #[.val (.int k)] []))
            obtain ⟨T5, X5, e5, st5⟩ := getS2 X0 hx hZ hown (host := "") (Or.inl (hw _ (List.mem_of_getElem? (i := 23) rfl))) Via.refl e0 (S_GREATER.ext Ol.2) (g := (mkF m 40 #[.val (.int k)] [])) rfl (hb hby d1_40)
            refine Go.step st5 ?_
            show Go p e below _ (T5.setTop (mkF m 43 #[.val (.int k)] [(.ref a_GREATER)]))
            refine Go.retR X5 hx Bd.returns rfl rfl Bd.notSynchronized (hb hby d1_43) (by rw [e5]; exact ⟨by rw [← hres]; first | (simp [if_neg hc1, if_neg hc10, if_neg hc19, if_neg hc28, if_pos hc37]; done) | (simp [hc1, hc10, hc19, hc28, hc37]; done) | (simp_all; done), N0, rfl⟩) (by decide) (by decide)
          case neg =>
            refine Go.step (fun t_ k_ => XS.icmpYes X0.here hx rfl (pc0 := 37) (pc' := 44) rfl (hb hby d1_37) rfl (feq hc37).2 (by decide) (by decide) k_) ?_
            show Go p e below _ (s₁.setTop (mkF m 44 #[.val (.int k)] []))
            obtain ⟨T6, X6, e6, st6⟩ := getS2 X0 hx hZ hown (host := "") (Or.inl (hw _ (List.mem_of_getElem? (i := 21) rfl))) Via.refl e0 (S_GREATER_OR_EQUAL.ext Ol.2) (g := (mkF m 44 #[.val (.int k)] [])) rfl (hb hby d1_44)
            refine Go.step st6 ?_
            show Go p e below _ (T6.setTop (mkF m 47 #[.val (.int k)] [(.ref a_GREATER_OR_EQUAL)]))
            refine Go.retR X6 hx Bd.returns rfl rfl Bd.notSynchronized (hb hby d1_47) (by rw [e6]; exact ⟨by rw [← hres]; first | (simp [if_neg hc1, if_neg hc10, if_neg hc19, if_neg hc28, if_neg hc37]; done) | (simp [hc1, hc10, hc19, hc28, hc37]; done) | (simp_all; done), N0, rfl⟩) (by decide) (by decide)
theorem d2_0 : decode prog_36_method_6_code 0 = .ok (.aload_n 0, 1) := by decide +kernel
theorem d2_1 : decode prog_36_method_6_code 1 = .ok (.getstatic 3, 3) := by decide +kernel
theorem d2_4 : decode prog_36_method_6_code 4 = .ok (.if_acmp .eq 14, 3) := by decide +kernel
theorem d2_18 : decode prog_36_method_6_code 18 = .ok (.iconst 0, 1) := by decide +kernel
theorem d2_19 : decode prog_36_method_6_code 19 = .ok (.ireturn, 1) := by decide +kernel
theorem d2_7 : decode prog_36_method_6_code 7 = .ok (.aload_n 0, 1) := by decide +kernel
theorem d2_8 : decode prog_36_method_6_code 8 = .ok (.getstatic 7, 3) := by decide +kernel
theorem d2_11 : decode prog_36_method_6_code 11 = .ok (.if_acmp .eq 7, 3) := by decide +kernel
theorem d2_14 : decode prog_36_method_6_code 14 = .ok (.iconst 1, 1) := by decide +kernel
theorem d2_15 : decode prog_36_method_6_code 15 = .ok (.goto 4, 3) := by decide +kernel
theorem pn_1 : plainName "com/example/wacl/wacl/core/Operator" = true := by first | (simp [plainName, overriddenIn]; done) | decide +kernel
theorem ef_rm2 (m : MethodId) (x0 : Addr)  : entryFrame m #[(.ref x0)] 1 = mkF m 0 #[.val (.ref x0)] [] := by first | (simp [entryFrame, mkF, argsToLocals, Value.category]; done) | rfl
def Q_rm2 (Z : State) (a_EQUAL : Addr) (a_LESS_OR_EQUAL : Addr) (a_NOT_EQUAL : Addr) (a_LESS : Addr) (a_GREATER_OR_EQUAL : Addr) (a_GREATER : Addr) (r : Addr) (res : Int32) (h0 : Heap) (n0 : Nat) (v : Option Value) (h : Heap) (L : List Loc) : Prop := v = some (.int res) ∧ Fr n0 L ∧ h = h0
set_option maxRecDepth 65536 in
set_option maxHeartbeats 40000000 in
theorem rm2 (l : Launch) (Z : State) (a0 : Array Value) (hw : ∀ d ∈ tables_1, d.before a0 Z = true) (ws : List Jvm.Cond) (a_EQUAL : Addr) (a_LESS_OR_EQUAL : Addr) (a_NOT_EQUAL : Addr) (a_LESS : Addr) (a_GREATER_OR_EQUAL : Addr) (a_GREATER : Addr) (HW : Wd Z a_EQUAL a_LESS_OR_EQUAL a_NOT_EQUAL a_LESS a_GREATER_OR_EQUAL a_GREATER) (r : Addr) (res : Int32) (h0 : Heap) (n0 : Nat) (Ol : Old Z n0 h0)  (hres : ((if r = a_EQUAL then 0 else if r = a_NOT_EQUAL then 0 else 1 : Int32)) = res) :
    MetFree l (⟨"com/example/wacl/wacl/core/Operator", "orders", "()Z"⟩ : MethodName) (head1 (Jvm.Cond.code (⟨"com/example/wacl/wacl/core/Operator", "orders", "()Z"⟩ : MethodName) prog_36_method_6_code 1 (some .boolean) :: ws) ({ frames := 0, cells := 0, slots := 0, locals := 0 } : Room)) (fun a U => a = #[(.ref r)] ∧ Z.Warmed39 U.vm ∧ U.heap = h0) (fun _ _ _ _ _ => True) (fun _ U o U' => ∃ v L, o = .returned v ∧ Q_rm2 Z a_EQUAL a_LESS_OR_EQUAL a_NOT_EQUAL a_LESS a_GREATER_OR_EQUAL a_GREATER r res h0 n0 v U'.heap L ∧ FrameEnd U o U' L ({ frames := 0, cells := 0, slots := 0, locals := 0 } : Room).cells ({ frames := 0, cells := 0, slots := 0, locals := 0 } : Room).slots) := by
  refine MetFree.of_bodySF (plainFor_of_name pn_1) hisR ?_
  intro p e s m args below meth c s₁ Bd hml0 hP hK
  obtain ⟨rfl, hZ, hh⟩ := hP
  have hx := Bd.exec
  have hby := Bd.bytes
  have hml : c.maxLocals = 1 := hml0
  have hown : s.vm.findClass "com/example/wacl/wacl/core/Operator" = some m.cls := findClass_of_methodNamed Bd.named
  have hnm := (name_of_methodNamed Bd.named Bd.method).1
  have X0 : Stand p l e ({ frames := 0, cells := 0, slots := 0, locals := 0 } : Room) s m #[(.ref r)] below meth c s₁ [] 0 0 := Stand.of_body Bd
  have e0 : s₁.heap = h0 := by rw [← hh, Bd.state]; rfl
  have N0 := Fr.nil n0
  have kp0 := Keep.refl h0 []
  show Go p e below (Fin1 s below (Q_rm2 Z a_EQUAL a_LESS_OR_EQUAL a_NOT_EQUAL a_LESS a_GREATER_OR_EQUAL a_GREATER r res h0 n0) ({ frames := 0, cells := 0, slots := 0, locals := 0 } : Room).cells ({ frames := 0, cells := 0, slots := 0, locals := 0 } : Room).slots) _
  refine Go.step (fun t_ k_ => castTop (ef_rm2 m r) k_) ?_
  obtain ⟨S_EQUAL, E_EQUAL, S_LESS_OR_EQUAL, E_LESS_OR_EQUAL, S_NOT_EQUAL, E_NOT_EQUAL, S_LESS, E_LESS, S_GREATER_OR_EQUAL, E_GREATER_OR_EQUAL, S_GREATER, E_GREATER, F_LESS_OR_EQUAL_ordinal, F_EQUAL_ordinal, F_NOT_EQUAL_ordinal, F_LESS_ordinal, F_GREATER_OR_EQUAL_ordinal, F_GREATER_ordinal⟩ := id HW
  show Go p e below _ (s₁.setTop (mkF m 0 #[.val (.ref r)] []))
  refine Go.step (fun t_ k_ => XS.aloadN X0.here hx rfl (hb hby d2_0) rfl rfl k_) ?_
  show Go p e below _ (s₁.setTop (mkF m 1 #[.val (.ref r)] [(.ref r)]))
  obtain ⟨T1, X1, e1, st1⟩ := getS2 X0 hx hZ hown (host := "") (Or.inl (hw _ (List.mem_of_getElem? (i := 13) rfl))) Via.refl e0 (S_EQUAL.ext Ol.2) (g := (mkF m 1 #[.val (.ref r)] [(.ref r)])) rfl (hb hby d2_1)
  refine Go.step st1 ?_
  show Go p e below _ (T1.setTop (mkF m 4 #[.val (.ref r)] [(.ref a_EQUAL), (.ref r)]))
  by_cases ha4 : r = a_EQUAL
  case pos =>
    refine Go.step (fun t_ k_ => Jvm.RoadKit.acmp (g := (mkF m 4 #[.val (.ref r)] [(.ref a_EQUAL), (.ref r)])) X1 hx rfl rfl rfl (pc0 := 4) (pc' := 18) (same := true) rfl (hb hby d2_4) rfl (decide_eq_true (congrArg Value.ref ha4)) (by decide) (by decide) k_) ?_
    show Go p e below _ (T1.setTop (mkF m 18 #[.val (.ref r)] []))
    refine Go.step (fun t_ k_ => XS.iconst X1.here hx rfl (hb hby d2_18) k_) ?_
    show Go p e below _ (T1.setTop (mkF m 19 #[.val (.ref r)] [(.int (0 : Int32))]))
    refine Go.retZ X1 hx (t := .boolean) Bd.returns (by simp) Bd.notSynchronized (hb hby d2_19) (by rw [e1]; exact ⟨by rw [← hres]; first | (simp [if_pos ha4, nar]; done) | (simp [ha4, nar]; done) | (simp_all; done), N0, rfl⟩) (by decide) (by decide)
  case neg =>
    refine Go.step (fun t_ k_ => Jvm.RoadKit.acmp (g := (mkF m 4 #[.val (.ref r)] [(.ref a_EQUAL), (.ref r)])) X1 hx rfl rfl rfl (pc0 := 4) (pc' := 7) (same := false) rfl (hb hby d2_4) rfl (decide_eq_false fun q => ha4 (Value.ref.inj q)) (by decide) (by decide) k_) ?_
    show Go p e below _ (T1.setTop (mkF m 7 #[.val (.ref r)] []))
    refine Go.step (fun t_ k_ => XS.aloadN X1.here hx rfl (hb hby d2_7) rfl rfl k_) ?_
    show Go p e below _ (T1.setTop (mkF m 8 #[.val (.ref r)] [(.ref r)]))
    obtain ⟨T2, X2, e2, st2⟩ := getS2 X1 hx hZ hown (host := "") (Or.inl (hw _ (List.mem_of_getElem? (i := 16) rfl))) Via.refl e1 (S_NOT_EQUAL.ext Ol.2) (g := (mkF m 8 #[.val (.ref r)] [(.ref r)])) rfl (hb hby d2_8)
    refine Go.step st2 ?_
    show Go p e below _ (T2.setTop (mkF m 11 #[.val (.ref r)] [(.ref a_NOT_EQUAL), (.ref r)]))
    by_cases ha11 : r = a_NOT_EQUAL
    case pos =>
      refine Go.step (fun t_ k_ => Jvm.RoadKit.acmp (g := (mkF m 11 #[.val (.ref r)] [(.ref a_NOT_EQUAL), (.ref r)])) X2 hx rfl rfl rfl (pc0 := 11) (pc' := 18) (same := true) rfl (hb hby d2_11) rfl (decide_eq_true (congrArg Value.ref ha11)) (by decide) (by decide) k_) ?_
      show Go p e below _ (T2.setTop (mkF m 18 #[.val (.ref r)] []))
      refine Go.step (fun t_ k_ => XS.iconst X2.here hx rfl (hb hby d2_18) k_) ?_
      show Go p e below _ (T2.setTop (mkF m 19 #[.val (.ref r)] [(.int (0 : Int32))]))
      refine Go.retZ X2 hx (t := .boolean) Bd.returns (by simp) Bd.notSynchronized (hb hby d2_19) (by rw [e2]; exact ⟨by rw [← hres]; first | (simp [if_neg ha4, if_pos ha11, nar]; done) | (simp [ha4, ha11, nar]; done) | (simp_all; done), N0, rfl⟩) (by decide) (by decide)
    case neg =>
      refine Go.step (fun t_ k_ => Jvm.RoadKit.acmp (g := (mkF m 11 #[.val (.ref r)] [(.ref a_NOT_EQUAL), (.ref r)])) X2 hx rfl rfl rfl (pc0 := 11) (pc' := 14) (same := false) rfl (hb hby d2_11) rfl (decide_eq_false fun q => ha11 (Value.ref.inj q)) (by decide) (by decide) k_) ?_
      show Go p e below _ (T2.setTop (mkF m 14 #[.val (.ref r)] []))
      refine Go.step (fun t_ k_ => XS.iconst X2.here hx rfl (hb hby d2_14) k_) ?_
      show Go p e below _ (T2.setTop (mkF m 15 #[.val (.ref r)] [(.int (1 : Int32))]))
      refine Go.step (fun t_ k_ => XS.goto X2.here hx rfl (pc0 := 15) (pc' := 19) rfl (hb hby d2_15) (by decide) (by decide) k_) ?_
      show Go p e below _ (T2.setTop (mkF m 19 #[.val (.ref r)] [(.int (1 : Int32))]))
      refine Go.retZ X2 hx (t := .boolean) Bd.returns (by simp) Bd.notSynchronized (hb hby d2_19) (by rw [e2]; exact ⟨by rw [← hres]; first | (simp [if_neg ha4, if_neg ha11, nar]; done) | (simp [ha4, ha11, nar]; done) | (simp_all; done), N0, rfl⟩) (by decide) (by decide)
theorem pd_0 : parseMethodDescriptor "(I)Lcom/example/wacl/wacl/core/Operator;" = some ⟨[.int], some (.object "com/example/wacl/wacl/core/Operator")⟩ := by decide +kernel
theorem pd_1 : parseMethodDescriptor "()Z" = some ⟨[], some .boolean⟩ := by decide +kernel
theorem ef_rm0 (m : MethodId) (x0 : Int32)  : entryFrame m #[(.int x0)] maxLocals = mkF m 0 #[.val (.int x0), .unset, .unset, .unset] [] := by first | (simp [entryFrame, mkF, argsToLocals, Value.category, maxLocals]; done) | rfl
def Q_rm0 (Z : State) (a_EQUAL : Addr) (a_LESS_OR_EQUAL : Addr) (a_NOT_EQUAL : Addr) (a_LESS : Addr) (a_GREATER_OR_EQUAL : Addr) (a_GREATER : Addr) (p1 : Int32) (h0 : Heap) (n0 : Nat) (v : Option Value) (h : Heap) (L : List Loc) : Prop := v = some (.int 1) ∧ Fr n0 L
set_option maxRecDepth 65536 in
set_option maxHeartbeats 40000000 in
theorem rm0 (l : Launch) (Z : State) (a0 : Array Value) (hw : ∀ d ∈ tables_1, d.before a0 Z = true) (ws : List Jvm.Cond) (a_EQUAL : Addr) (a_LESS_OR_EQUAL : Addr) (a_NOT_EQUAL : Addr) (a_LESS : Addr) (a_GREATER_OR_EQUAL : Addr) (a_GREATER : Addr) (HW : Wd Z a_EQUAL a_LESS_OR_EQUAL a_NOT_EQUAL a_LESS a_GREATER_OR_EQUAL a_GREATER) (p1 : Int32) (h0 : Heap) (n0 : Nat) (Ol : Old Z n0 h0)  :
    MetFree l x (head1 (Jvm.Cond.code x code maxLocals ret :: ws) room_1) (fun a U => a = #[(.int p1)] ∧ Z.Warmed39 U.vm ∧ U.heap = h0) (fun _ _ _ _ _ => True) (fun _ U o U' => ∃ v L, o = .returned v ∧ Q_rm0 Z a_EQUAL a_LESS_OR_EQUAL a_NOT_EQUAL a_LESS a_GREATER_OR_EQUAL a_GREATER p1 h0 n0 v U'.heap L ∧ FrameEnd U o U' L room_1.cells room_1.slots) := by
  refine MetFree.of_bodySF (plainFor_of_name pn_0) hisR ?_
  intro p e s m args below meth c s₁ Bd hml0 hP hK
  obtain ⟨rfl, hZ, hh⟩ := hP
  have hx := Bd.exec
  have hby := Bd.bytes
  have hml : c.maxLocals = 4 := hml0
  have hown : s.vm.findClass "com/example/wacl/wacl/core/OperatorOrdersPinLaw" = some m.cls := findClass_of_methodNamed Bd.named
  have hnm := (name_of_methodNamed Bd.named Bd.method).1
  have X0 : Stand p l e room_1 s m #[(.int p1)] below meth c s₁ [] 0 0 := Stand.of_body Bd
  have e0 : s₁.heap = h0 := by rw [← hh, Bd.state]; rfl
  have N0 := Fr.nil n0
  have kp0 := Keep.refl h0 []
  show Go p e below (Fin1 s below (Q_rm0 Z a_EQUAL a_LESS_OR_EQUAL a_NOT_EQUAL a_LESS a_GREATER_OR_EQUAL a_GREATER p1 h0 n0) room_1.cells room_1.slots) _
  refine Go.step (fun t_ k_ => castTop (ef_rm0 m p1) k_) ?_
  obtain ⟨S_EQUAL, E_EQUAL, S_LESS_OR_EQUAL, E_LESS_OR_EQUAL, S_NOT_EQUAL, E_NOT_EQUAL, S_LESS, E_LESS, S_GREATER_OR_EQUAL, E_GREATER_OR_EQUAL, S_GREATER, E_GREATER, F_LESS_OR_EQUAL_ordinal, F_EQUAL_ordinal, F_NOT_EQUAL_ordinal, F_LESS_ordinal, F_GREATER_OR_EQUAL_ordinal, F_GREATER_ordinal⟩ := id HW
  show Go p e below _ (s₁.setTop (mkF m 0 #[.val (.int p1), .unset, .unset, .unset] []))
  refine Go.step (fun t_ k_ => XS.iloadN X0.here hx rfl (hb hby at_0) rfl k_) ?_
  show Go p e below _ (s₁.setTop (mkF m 1 #[.val (.int p1), .unset, .unset, .unset] [(.int p1)]))
  refine Go.step (fun t_ k_ => X0.ldcInt hx hown (mvT hZ (hw _ (List.mem_of_getElem? (i := 0) rfl))) (g := (mkF m 1 #[.val (.int p1), .unset, .unset, .unset] [(.int p1)])) rfl (hb hby at_1) _ k_) ?_
  show Go p e below _ (s₁.setTop (mkF m 3 #[.val (.int p1), .unset, .unset, .unset] [(.int (2147483647 : Int32)), (.int p1)]))
  refine Go.step (fun t_ k_ => XS.iand X0.here hx rfl (hb hby at_3) rfl k_) ?_
  show Go p e below _ (s₁.setTop (mkF m 4 #[.val (.int p1), .unset, .unset, .unset] [(.int (p1 &&& (2147483647 : Int32)))]))
  refine Go.step (fun t_ k_ => XS.bipush X0.here hx rfl (hb hby at_4) k_) ?_
  show Go p e below _ (s₁.setTop (mkF m 6 #[.val (.int p1), .unset, .unset, .unset] [(.int (6 : Int32)), (.int (p1 &&& (2147483647 : Int32)))]))
  refine Go.step (fun t_ k_ => iremM X0 hx rfl (hb hby at_6) rfl (by decide) k_) ?_
  show Go p e below _ (s₁.setTop (mkF m 7 #[.val (.int p1), .unset, .unset, .unset] [(.int ((p1 &&& (2147483647 : Int32)) % (6 : Int32)))]))
  refine Go.step (fun t_ k_ => XS.istoreN X0.here hx rfl (hb hby at_7) rfl (l' := #[.val (.int p1), .val (.int ((p1 &&& (2147483647 : Int32)) % (6 : Int32))), .unset, .unset]) rfl k_) ?_
  show Go p e below _ (s₁.setTop (mkF m 8 #[.val (.int p1), .val (.int ((p1 &&& (2147483647 : Int32)) % (6 : Int32))), .unset, .unset] []))
  generalize hk_k : ((p1 &&& (2147483647 : Int32)) % (6 : Int32)) = k
  show Go p e below _ (s₁.setTop (mkF m 8 #[.val (.int p1), .val (.int k), .unset, .unset] []))
  have hb_k := rem_bd p1 (6 : Int32) (by decide)
  rw [hk_k] at hb_k
  rcases cs6 hb_k with rfl | rfl | rfl | rfl | rfl | rfl
  next =>
    show Go p e below _ (s₁.setTop (mkF m 8 #[.val (.int p1), .val (.int (0 : Int32)), .unset, .unset] []))
    refine Go.step (fun t_ k_ => XS.iloadN X0.here hx rfl (hb hby at_8) rfl k_) ?_
    show Go p e below _ (s₁.setTop (mkF m 9 #[.val (.int p1), .val (.int (0 : Int32)), .unset, .unset] [(.int (0 : Int32))]))
    obtain ⟨_, _, ⟨T1, L1, k1, n1⟩, -, X1, ⟨Lc1, hQ1, l1, y1, z1⟩, st1⟩ := Jvm.LawKit.callS X0 hx (y := (⟨"com/example/wacl/wacl/core/OperatorOrdersPinLaw", "pick", "(I)Lcom/example/wacl/wacl/core/Operator;"⟩ : MethodName)) hown (mvT hZ (hw _ (List.mem_of_getElem? (i := 1) rfl))) (mvT hZ (hw _ (List.mem_of_getElem? (i := 2) rfl))) (mvT hZ (hw _ (List.mem_of_getElem? (i := 3) rfl))) (mvT hZ (hw _ (List.mem_of_getElem? (i := 4) rfl))) (by decide) (backOf (W := 0) (rm1 l Z a0 hw [] a_EQUAL a_LESS_OR_EQUAL a_NOT_EQUAL a_LESS a_GREATER_OR_EQUAL a_GREATER HW (0 : Int32) a_EQUAL h0 n0 Ol (by simp)) hZ (hw _ (List.mem_of_getElem? (i := 4) rfl)) (hw _ (List.mem_of_getElem? (i := 3) rfl)) (by decide) (by decide)) (g := (mkF m 9 #[.val (.int p1), .val (.int (0 : Int32)), .unset, .unset] [(.int (0 : Int32))])) rfl (by rw [hml]; rfl) (argsL := [(.int (0 : Int32))]) (rest := []) (lenOf pd_0 rfl) rfl (by show 2 * 0 + _ ≤ _; exact Nat.le_of_eq rfl) (hb hby at_9) (fun _ _ => ⟨rfl, e0, (by decide : 0 + 0 ≤ _), (by decide : 0 + 0 ≤ _)⟩)
    dsimp only [Pt.U, Pt.locs, Pt.cells, Pt.slots] at X1 l1 y1 z1 st1 hQ1
    subst l1 y1 z1
    obtain ⟨rfl, Nq1, e1⟩ := hQ1
    have N1 := Fr.app N0 Nq1
    refine Go.step st1 ?_
    show Go p e below _ (T1.setTop (mkF m 12 #[.val (.int p1), .val (.int (0 : Int32)), .unset, .unset] [(.ref a_EQUAL)]))
    refine Go.step (fun t_ k_ => XS.astoreN X1.here hx rfl (hb hby at_12) rfl rfl (l' := #[.val (.int p1), .val (.int (0 : Int32)), .val (.ref a_EQUAL), .unset]) rfl k_) ?_
    show Go p e below _ (T1.setTop (mkF m 13 #[.val (.int p1), .val (.int (0 : Int32)), .val (.ref a_EQUAL), .unset] []))
    refine Go.step (fun t_ k_ => XS.iloadN X1.here hx rfl (hb hby at_13) rfl k_) ?_
    show Go p e below _ (T1.setTop (mkF m 14 #[.val (.int p1), .val (.int (0 : Int32)), .val (.ref a_EQUAL), .unset] [(.int (0 : Int32))]))
    have hc14 : (0 : Int32) = (0 : Int32) := by decide
    refine Go.step (fun t_ k_ => XS.ifYes X1.here hx rfl (pc0 := 14) (pc' := 22) rfl (hb hby at_14) rfl ((if0 _ _).trans (teq hc14).1) (by decide) (by decide) k_) ?_
    show Go p e below _ (T1.setTop (mkF m 22 #[.val (.int p1), .val (.int (0 : Int32)), .val (.ref a_EQUAL), .unset] []))
    refine Go.step (fun t_ k_ => XS.iconst X1.here hx rfl (hb hby at_22) k_) ?_
    show Go p e below _ (T1.setTop (mkF m 23 #[.val (.int p1), .val (.int (0 : Int32)), .val (.ref a_EQUAL), .unset] [(.int (0 : Int32))]))
    refine Go.step (fun t_ k_ => XS.istoreN X1.here hx rfl (hb hby at_23) rfl (l' := #[.val (.int p1), .val (.int (0 : Int32)), .val (.ref a_EQUAL), .val (.int (0 : Int32))]) rfl k_) ?_
    show Go p e below _ (T1.setTop (mkF m 24 #[.val (.int p1), .val (.int (0 : Int32)), .val (.ref a_EQUAL), .val (.int (0 : Int32))] []))
    refine Go.step (fun t_ k_ => XS.goto X1.here hx rfl (pc0 := 24) (pc' := 29) rfl (hb hby at_24) (by decide) (by decide) k_) ?_
    show Go p e below _ (T1.setTop (mkF m 29 #[.val (.int p1), .val (.int (0 : Int32)), .val (.ref a_EQUAL), .val (.int (0 : Int32))] []))
    refine Go.step (fun t_ k_ => XS.aloadN X1.here hx rfl (hb hby at_29) rfl rfl k_) ?_
    show Go p e below _ (T1.setTop (mkF m 30 #[.val (.int p1), .val (.int (0 : Int32)), .val (.ref a_EQUAL), .val (.int (0 : Int32))] [(.ref a_EQUAL)]))
    obtain ⟨cq2, kq2, q2a, q2b, q2c⟩ := isOf hZ e1 (E_EQUAL.ext Ol.2)
    obtain ⟨_, _, ⟨T2, L2, k2, n2⟩, -, X2, ⟨Lc2, hQ2, l2, y2, z2⟩, st2⟩ := X1.virtualBack hx (y := (⟨"com/example/wacl/wacl/core/Operator", "orders", "()Z"⟩ : MethodName)) (z := (⟨"com/example/wacl/wacl/core/Operator", "orders", "()Z"⟩ : MethodName)) hown (mvT hZ (hw _ (List.mem_of_getElem? (i := 8) rfl))) (mvT hZ (hw _ (List.mem_of_getElem? (i := 9) rfl))) (notFace_of_selects (args := #[]) (mvT hZ (hw _ (List.mem_of_getElem? (i := 11) rfl)))) (mvT hZ (hw _ (List.mem_of_getElem? (i := 11) rfl))) (mvT hZ (hw _ (List.mem_of_getElem? (i := 10) rfl))) (by decide) (backOf (W := 0) (rm2 l Z a0 hw [] a_EQUAL a_LESS_OR_EQUAL a_NOT_EQUAL a_LESS a_GREATER_OR_EQUAL a_GREATER HW a_EQUAL (0 : Int32) h0 n0 Ol (by simp [(Fld.ne F_EQUAL_ordinal F_LESS_OR_EQUAL_ordinal (by simp)), (Ne.symm (Fld.ne F_EQUAL_ordinal F_LESS_OR_EQUAL_ordinal (by simp))), (Fld.ne F_EQUAL_ordinal F_NOT_EQUAL_ordinal (by simp)), (Ne.symm (Fld.ne F_EQUAL_ordinal F_NOT_EQUAL_ordinal (by simp))), (Fld.ne F_EQUAL_ordinal F_LESS_ordinal (by simp)), (Ne.symm (Fld.ne F_EQUAL_ordinal F_LESS_ordinal (by simp))), (Fld.ne F_EQUAL_ordinal F_GREATER_OR_EQUAL_ordinal (by simp)), (Ne.symm (Fld.ne F_EQUAL_ordinal F_GREATER_OR_EQUAL_ordinal (by simp))), (Fld.ne F_EQUAL_ordinal F_GREATER_ordinal (by simp)), (Ne.symm (Fld.ne F_EQUAL_ordinal F_GREATER_ordinal (by simp))), (Fld.ne F_LESS_OR_EQUAL_ordinal F_NOT_EQUAL_ordinal (by simp)), (Ne.symm (Fld.ne F_LESS_OR_EQUAL_ordinal F_NOT_EQUAL_ordinal (by simp))), (Fld.ne F_LESS_OR_EQUAL_ordinal F_LESS_ordinal (by simp)), (Ne.symm (Fld.ne F_LESS_OR_EQUAL_ordinal F_LESS_ordinal (by simp))), (Fld.ne F_LESS_OR_EQUAL_ordinal F_GREATER_OR_EQUAL_ordinal (by simp)), (Ne.symm (Fld.ne F_LESS_OR_EQUAL_ordinal F_GREATER_OR_EQUAL_ordinal (by simp))), (Fld.ne F_LESS_OR_EQUAL_ordinal F_GREATER_ordinal (by simp)), (Ne.symm (Fld.ne F_LESS_OR_EQUAL_ordinal F_GREATER_ordinal (by simp))), (Fld.ne F_NOT_EQUAL_ordinal F_LESS_ordinal (by simp)), (Ne.symm (Fld.ne F_NOT_EQUAL_ordinal F_LESS_ordinal (by simp))), (Fld.ne F_NOT_EQUAL_ordinal F_GREATER_OR_EQUAL_ordinal (by simp)), (Ne.symm (Fld.ne F_NOT_EQUAL_ordinal F_GREATER_OR_EQUAL_ordinal (by simp))), (Fld.ne F_NOT_EQUAL_ordinal F_GREATER_ordinal (by simp)), (Ne.symm (Fld.ne F_NOT_EQUAL_ordinal F_GREATER_ordinal (by simp))), (Fld.ne F_LESS_ordinal F_GREATER_OR_EQUAL_ordinal (by simp)), (Ne.symm (Fld.ne F_LESS_ordinal F_GREATER_OR_EQUAL_ordinal (by simp))), (Fld.ne F_LESS_ordinal F_GREATER_ordinal (by simp)), (Ne.symm (Fld.ne F_LESS_ordinal F_GREATER_ordinal (by simp))), (Fld.ne F_GREATER_OR_EQUAL_ordinal F_GREATER_ordinal (by simp)), (Ne.symm (Fld.ne F_GREATER_OR_EQUAL_ordinal F_GREATER_ordinal (by simp)))])) hZ (hw _ (List.mem_of_getElem? (i := 12) rfl)) (hw _ (List.mem_of_getElem? (i := 6) rfl)) (by decide) (by decide)) q2a q2c (g := (mkF m 30 #[.val (.int p1), .val (.int (0 : Int32)), .val (.ref a_EQUAL), .val (.int (0 : Int32))] [(.ref a_EQUAL)])) rfl (by rw [hml]; rfl) (Steps.refl _) (argsL := []) (rest := []) (lenOf pd_1 rfl) rfl (by show 2 * 0 + _ ≤ _; exact Nat.le_of_eq rfl) (hb hby at_30) (fun _ _ => ⟨rfl, e1, (by decide : 0 + 0 ≤ _), (by decide : 0 + 0 ≤ _)⟩)
    dsimp only [Pt.U, Pt.locs, Pt.cells, Pt.slots] at X2 l2 y2 z2 st2 hQ2
    subst l2 y2 z2
    obtain ⟨rfl, Nq2, e2⟩ := hQ2
    have N2 := Fr.app N1 Nq2
    refine Go.step (fun t_ k_ => st2.trans k_) ?_
    show Go p e below _ (T2.setTop (mkF m 33 #[.val (.int p1), .val (.int (0 : Int32)), .val (.ref a_EQUAL), .val (.int (0 : Int32))] [(.int (0 : Int32))]))
    refine Go.step (fun t_ k_ => XS.iloadN X2.here hx rfl (hb hby at_33) rfl k_) ?_
    show Go p e below _ (T2.setTop (mkF m 34 #[.val (.int p1), .val (.int (0 : Int32)), .val (.ref a_EQUAL), .val (.int (0 : Int32))] [(.int (0 : Int32)), (.int (0 : Int32))]))
    have hc34 : (0 : Int32) = (0 : Int32) := by decide
    refine Go.step (fun t_ k_ => XS.icmpNo X2.here hx rfl (hb hby at_34) rfl (teq hc34).2 k_) ?_
    show Go p e below _ (T2.setTop (mkF m 37 #[.val (.int p1), .val (.int (0 : Int32)), .val (.ref a_EQUAL), .val (.int (0 : Int32))] []))
    refine Go.step (fun t_ k_ => XS.iconst X2.here hx rfl (hb hby at_37) k_) ?_
    show Go p e below _ (T2.setTop (mkF m 38 #[.val (.int p1), .val (.int (0 : Int32)), .val (.ref a_EQUAL), .val (.int (0 : Int32))] [(.int (1 : Int32))]))
    refine Go.step (fun t_ k_ => XS.goto X2.here hx rfl (pc0 := 38) (pc' := 42) rfl (hb hby at_38) (by decide) (by decide) k_) ?_
    show Go p e below _ (T2.setTop (mkF m 42 #[.val (.int p1), .val (.int (0 : Int32)), .val (.ref a_EQUAL), .val (.int (0 : Int32))] [(.int (1 : Int32))]))
    refine Go.retZ X2 hx (t := .boolean) Bd.returns (by simp) Bd.notSynchronized (hb hby at_42) (by rw [e2]; exact ⟨rfl, N2⟩) (by decide) (by decide)
  next =>
    show Go p e below _ (s₁.setTop (mkF m 8 #[.val (.int p1), .val (.int (1 : Int32)), .unset, .unset] []))
    refine Go.step (fun t_ k_ => XS.iloadN X0.here hx rfl (hb hby at_8) rfl k_) ?_
    show Go p e below _ (s₁.setTop (mkF m 9 #[.val (.int p1), .val (.int (1 : Int32)), .unset, .unset] [(.int (1 : Int32))]))
    obtain ⟨_, _, ⟨T3, L3, k3, n3⟩, -, X3, ⟨Lc3, hQ3, l3, y3, z3⟩, st3⟩ := Jvm.LawKit.callS X0 hx (y := (⟨"com/example/wacl/wacl/core/OperatorOrdersPinLaw", "pick", "(I)Lcom/example/wacl/wacl/core/Operator;"⟩ : MethodName)) hown (mvT hZ (hw _ (List.mem_of_getElem? (i := 1) rfl))) (mvT hZ (hw _ (List.mem_of_getElem? (i := 2) rfl))) (mvT hZ (hw _ (List.mem_of_getElem? (i := 3) rfl))) (mvT hZ (hw _ (List.mem_of_getElem? (i := 4) rfl))) (by decide) (backOf (W := 0) (rm1 l Z a0 hw [] a_EQUAL a_LESS_OR_EQUAL a_NOT_EQUAL a_LESS a_GREATER_OR_EQUAL a_GREATER HW (1 : Int32) a_NOT_EQUAL h0 n0 Ol (by simp)) hZ (hw _ (List.mem_of_getElem? (i := 4) rfl)) (hw _ (List.mem_of_getElem? (i := 3) rfl)) (by decide) (by decide)) (g := (mkF m 9 #[.val (.int p1), .val (.int (1 : Int32)), .unset, .unset] [(.int (1 : Int32))])) rfl (by rw [hml]; rfl) (argsL := [(.int (1 : Int32))]) (rest := []) (lenOf pd_0 rfl) rfl (by show 2 * 0 + _ ≤ _; exact Nat.le_of_eq rfl) (hb hby at_9) (fun _ _ => ⟨rfl, e0, (by decide : 0 + 0 ≤ _), (by decide : 0 + 0 ≤ _)⟩)
    dsimp only [Pt.U, Pt.locs, Pt.cells, Pt.slots] at X3 l3 y3 z3 st3 hQ3
    subst l3 y3 z3
    obtain ⟨rfl, Nq3, e3⟩ := hQ3
    have N3 := Fr.app N0 Nq3
    refine Go.step st3 ?_
    show Go p e below _ (T3.setTop (mkF m 12 #[.val (.int p1), .val (.int (1 : Int32)), .unset, .unset] [(.ref a_NOT_EQUAL)]))
    refine Go.step (fun t_ k_ => XS.astoreN X3.here hx rfl (hb hby at_12) rfl rfl (l' := #[.val (.int p1), .val (.int (1 : Int32)), .val (.ref a_NOT_EQUAL), .unset]) rfl k_) ?_
    show Go p e below _ (T3.setTop (mkF m 13 #[.val (.int p1), .val (.int (1 : Int32)), .val (.ref a_NOT_EQUAL), .unset] []))
    refine Go.step (fun t_ k_ => XS.iloadN X3.here hx rfl (hb hby at_13) rfl k_) ?_
    show Go p e below _ (T3.setTop (mkF m 14 #[.val (.int p1), .val (.int (1 : Int32)), .val (.ref a_NOT_EQUAL), .unset] [(.int (1 : Int32))]))
    have hc14 : ¬ ((1 : Int32) = (0 : Int32)) := by decide
    refine Go.step (fun t_ k_ => XS.ifNo X3.here hx rfl (hb hby at_14) rfl ((if0 _ _).trans (feq hc14).1) k_) ?_
    show Go p e below _ (T3.setTop (mkF m 17 #[.val (.int p1), .val (.int (1 : Int32)), .val (.ref a_NOT_EQUAL), .unset] []))
    refine Go.step (fun t_ k_ => XS.iloadN X3.here hx rfl (hb hby at_17) rfl k_) ?_
    show Go p e below _ (T3.setTop (mkF m 18 #[.val (.int p1), .val (.int (1 : Int32)), .val (.ref a_NOT_EQUAL), .unset] [(.int (1 : Int32))]))
    refine Go.step (fun t_ k_ => XS.iconst X3.here hx rfl (hb hby at_18) k_) ?_
    show Go p e below _ (T3.setTop (mkF m 19 #[.val (.int p1), .val (.int (1 : Int32)), .val (.ref a_NOT_EQUAL), .unset] [(.int (1 : Int32)), (.int (1 : Int32))]))
    have hc19 : (1 : Int32) = (1 : Int32) := by decide
    refine Go.step (fun t_ k_ => XS.icmpNo X3.here hx rfl (hb hby at_19) rfl (teq hc19).2 k_) ?_
    show Go p e below _ (T3.setTop (mkF m 22 #[.val (.int p1), .val (.int (1 : Int32)), .val (.ref a_NOT_EQUAL), .unset] []))
    refine Go.step (fun t_ k_ => XS.iconst X3.here hx rfl (hb hby at_22) k_) ?_
    show Go p e below _ (T3.setTop (mkF m 23 #[.val (.int p1), .val (.int (1 : Int32)), .val (.ref a_NOT_EQUAL), .unset] [(.int (0 : Int32))]))
    refine Go.step (fun t_ k_ => XS.istoreN X3.here hx rfl (hb hby at_23) rfl (l' := #[.val (.int p1), .val (.int (1 : Int32)), .val (.ref a_NOT_EQUAL), .val (.int (0 : Int32))]) rfl k_) ?_
    show Go p e below _ (T3.setTop (mkF m 24 #[.val (.int p1), .val (.int (1 : Int32)), .val (.ref a_NOT_EQUAL), .val (.int (0 : Int32))] []))
    refine Go.step (fun t_ k_ => XS.goto X3.here hx rfl (pc0 := 24) (pc' := 29) rfl (hb hby at_24) (by decide) (by decide) k_) ?_
    show Go p e below _ (T3.setTop (mkF m 29 #[.val (.int p1), .val (.int (1 : Int32)), .val (.ref a_NOT_EQUAL), .val (.int (0 : Int32))] []))
    refine Go.step (fun t_ k_ => XS.aloadN X3.here hx rfl (hb hby at_29) rfl rfl k_) ?_
    show Go p e below _ (T3.setTop (mkF m 30 #[.val (.int p1), .val (.int (1 : Int32)), .val (.ref a_NOT_EQUAL), .val (.int (0 : Int32))] [(.ref a_NOT_EQUAL)]))
    obtain ⟨cq4, kq4, q4a, q4b, q4c⟩ := isOf hZ e3 (E_NOT_EQUAL.ext Ol.2)
    obtain ⟨_, _, ⟨T4, L4, k4, n4⟩, -, X4, ⟨Lc4, hQ4, l4, y4, z4⟩, st4⟩ := X3.virtualBack hx (y := (⟨"com/example/wacl/wacl/core/Operator", "orders", "()Z"⟩ : MethodName)) (z := (⟨"com/example/wacl/wacl/core/Operator", "orders", "()Z"⟩ : MethodName)) hown (mvT hZ (hw _ (List.mem_of_getElem? (i := 8) rfl))) (mvT hZ (hw _ (List.mem_of_getElem? (i := 9) rfl))) (notFace_of_selects (args := #[]) (mvT hZ (hw _ (List.mem_of_getElem? (i := 11) rfl)))) (mvT hZ (hw _ (List.mem_of_getElem? (i := 11) rfl))) (mvT hZ (hw _ (List.mem_of_getElem? (i := 10) rfl))) (by decide) (backOf (W := 0) (rm2 l Z a0 hw [] a_EQUAL a_LESS_OR_EQUAL a_NOT_EQUAL a_LESS a_GREATER_OR_EQUAL a_GREATER HW a_NOT_EQUAL (0 : Int32) h0 n0 Ol (by simp [(Fld.ne F_EQUAL_ordinal F_LESS_OR_EQUAL_ordinal (by simp)), (Ne.symm (Fld.ne F_EQUAL_ordinal F_LESS_OR_EQUAL_ordinal (by simp))), (Fld.ne F_EQUAL_ordinal F_NOT_EQUAL_ordinal (by simp)), (Ne.symm (Fld.ne F_EQUAL_ordinal F_NOT_EQUAL_ordinal (by simp))), (Fld.ne F_EQUAL_ordinal F_LESS_ordinal (by simp)), (Ne.symm (Fld.ne F_EQUAL_ordinal F_LESS_ordinal (by simp))), (Fld.ne F_EQUAL_ordinal F_GREATER_OR_EQUAL_ordinal (by simp)), (Ne.symm (Fld.ne F_EQUAL_ordinal F_GREATER_OR_EQUAL_ordinal (by simp))), (Fld.ne F_EQUAL_ordinal F_GREATER_ordinal (by simp)), (Ne.symm (Fld.ne F_EQUAL_ordinal F_GREATER_ordinal (by simp))), (Fld.ne F_LESS_OR_EQUAL_ordinal F_NOT_EQUAL_ordinal (by simp)), (Ne.symm (Fld.ne F_LESS_OR_EQUAL_ordinal F_NOT_EQUAL_ordinal (by simp))), (Fld.ne F_LESS_OR_EQUAL_ordinal F_LESS_ordinal (by simp)), (Ne.symm (Fld.ne F_LESS_OR_EQUAL_ordinal F_LESS_ordinal (by simp))), (Fld.ne F_LESS_OR_EQUAL_ordinal F_GREATER_OR_EQUAL_ordinal (by simp)), (Ne.symm (Fld.ne F_LESS_OR_EQUAL_ordinal F_GREATER_OR_EQUAL_ordinal (by simp))), (Fld.ne F_LESS_OR_EQUAL_ordinal F_GREATER_ordinal (by simp)), (Ne.symm (Fld.ne F_LESS_OR_EQUAL_ordinal F_GREATER_ordinal (by simp))), (Fld.ne F_NOT_EQUAL_ordinal F_LESS_ordinal (by simp)), (Ne.symm (Fld.ne F_NOT_EQUAL_ordinal F_LESS_ordinal (by simp))), (Fld.ne F_NOT_EQUAL_ordinal F_GREATER_OR_EQUAL_ordinal (by simp)), (Ne.symm (Fld.ne F_NOT_EQUAL_ordinal F_GREATER_OR_EQUAL_ordinal (by simp))), (Fld.ne F_NOT_EQUAL_ordinal F_GREATER_ordinal (by simp)), (Ne.symm (Fld.ne F_NOT_EQUAL_ordinal F_GREATER_ordinal (by simp))), (Fld.ne F_LESS_ordinal F_GREATER_OR_EQUAL_ordinal (by simp)), (Ne.symm (Fld.ne F_LESS_ordinal F_GREATER_OR_EQUAL_ordinal (by simp))), (Fld.ne F_LESS_ordinal F_GREATER_ordinal (by simp)), (Ne.symm (Fld.ne F_LESS_ordinal F_GREATER_ordinal (by simp))), (Fld.ne F_GREATER_OR_EQUAL_ordinal F_GREATER_ordinal (by simp)), (Ne.symm (Fld.ne F_GREATER_OR_EQUAL_ordinal F_GREATER_ordinal (by simp)))])) hZ (hw _ (List.mem_of_getElem? (i := 12) rfl)) (hw _ (List.mem_of_getElem? (i := 6) rfl)) (by decide) (by decide)) q4a q4c (g := (mkF m 30 #[.val (.int p1), .val (.int (1 : Int32)), .val (.ref a_NOT_EQUAL), .val (.int (0 : Int32))] [(.ref a_NOT_EQUAL)])) rfl (by rw [hml]; rfl) (Steps.refl _) (argsL := []) (rest := []) (lenOf pd_1 rfl) rfl (by show 2 * 0 + _ ≤ _; exact Nat.le_of_eq rfl) (hb hby at_30) (fun _ _ => ⟨rfl, e3, (by decide : 0 + 0 ≤ _), (by decide : 0 + 0 ≤ _)⟩)
    dsimp only [Pt.U, Pt.locs, Pt.cells, Pt.slots] at X4 l4 y4 z4 st4 hQ4
    subst l4 y4 z4
    obtain ⟨rfl, Nq4, e4⟩ := hQ4
    have N4 := Fr.app N3 Nq4
    refine Go.step (fun t_ k_ => st4.trans k_) ?_
    show Go p e below _ (T4.setTop (mkF m 33 #[.val (.int p1), .val (.int (1 : Int32)), .val (.ref a_NOT_EQUAL), .val (.int (0 : Int32))] [(.int (0 : Int32))]))
    refine Go.step (fun t_ k_ => XS.iloadN X4.here hx rfl (hb hby at_33) rfl k_) ?_
    show Go p e below _ (T4.setTop (mkF m 34 #[.val (.int p1), .val (.int (1 : Int32)), .val (.ref a_NOT_EQUAL), .val (.int (0 : Int32))] [(.int (0 : Int32)), (.int (0 : Int32))]))
    have hc34 : (0 : Int32) = (0 : Int32) := by decide
    refine Go.step (fun t_ k_ => XS.icmpNo X4.here hx rfl (hb hby at_34) rfl (teq hc34).2 k_) ?_
    show Go p e below _ (T4.setTop (mkF m 37 #[.val (.int p1), .val (.int (1 : Int32)), .val (.ref a_NOT_EQUAL), .val (.int (0 : Int32))] []))
    refine Go.step (fun t_ k_ => XS.iconst X4.here hx rfl (hb hby at_37) k_) ?_
    show Go p e below _ (T4.setTop (mkF m 38 #[.val (.int p1), .val (.int (1 : Int32)), .val (.ref a_NOT_EQUAL), .val (.int (0 : Int32))] [(.int (1 : Int32))]))
    refine Go.step (fun t_ k_ => XS.goto X4.here hx rfl (pc0 := 38) (pc' := 42) rfl (hb hby at_38) (by decide) (by decide) k_) ?_
    show Go p e below _ (T4.setTop (mkF m 42 #[.val (.int p1), .val (.int (1 : Int32)), .val (.ref a_NOT_EQUAL), .val (.int (0 : Int32))] [(.int (1 : Int32))]))
    refine Go.retZ X4 hx (t := .boolean) Bd.returns (by simp) Bd.notSynchronized (hb hby at_42) (by rw [e4]; exact ⟨rfl, N4⟩) (by decide) (by decide)
  next =>
    show Go p e below _ (s₁.setTop (mkF m 8 #[.val (.int p1), .val (.int (2 : Int32)), .unset, .unset] []))
    refine Go.step (fun t_ k_ => XS.iloadN X0.here hx rfl (hb hby at_8) rfl k_) ?_
    show Go p e below _ (s₁.setTop (mkF m 9 #[.val (.int p1), .val (.int (2 : Int32)), .unset, .unset] [(.int (2 : Int32))]))
    obtain ⟨_, _, ⟨T5, L5, k5, n5⟩, -, X5, ⟨Lc5, hQ5, l5, y5, z5⟩, st5⟩ := Jvm.LawKit.callS X0 hx (y := (⟨"com/example/wacl/wacl/core/OperatorOrdersPinLaw", "pick", "(I)Lcom/example/wacl/wacl/core/Operator;"⟩ : MethodName)) hown (mvT hZ (hw _ (List.mem_of_getElem? (i := 1) rfl))) (mvT hZ (hw _ (List.mem_of_getElem? (i := 2) rfl))) (mvT hZ (hw _ (List.mem_of_getElem? (i := 3) rfl))) (mvT hZ (hw _ (List.mem_of_getElem? (i := 4) rfl))) (by decide) (backOf (W := 0) (rm1 l Z a0 hw [] a_EQUAL a_LESS_OR_EQUAL a_NOT_EQUAL a_LESS a_GREATER_OR_EQUAL a_GREATER HW (2 : Int32) a_LESS h0 n0 Ol (by simp)) hZ (hw _ (List.mem_of_getElem? (i := 4) rfl)) (hw _ (List.mem_of_getElem? (i := 3) rfl)) (by decide) (by decide)) (g := (mkF m 9 #[.val (.int p1), .val (.int (2 : Int32)), .unset, .unset] [(.int (2 : Int32))])) rfl (by rw [hml]; rfl) (argsL := [(.int (2 : Int32))]) (rest := []) (lenOf pd_0 rfl) rfl (by show 2 * 0 + _ ≤ _; exact Nat.le_of_eq rfl) (hb hby at_9) (fun _ _ => ⟨rfl, e0, (by decide : 0 + 0 ≤ _), (by decide : 0 + 0 ≤ _)⟩)
    dsimp only [Pt.U, Pt.locs, Pt.cells, Pt.slots] at X5 l5 y5 z5 st5 hQ5
    subst l5 y5 z5
    obtain ⟨rfl, Nq5, e5⟩ := hQ5
    have N5 := Fr.app N0 Nq5
    refine Go.step st5 ?_
    show Go p e below _ (T5.setTop (mkF m 12 #[.val (.int p1), .val (.int (2 : Int32)), .unset, .unset] [(.ref a_LESS)]))
    refine Go.step (fun t_ k_ => XS.astoreN X5.here hx rfl (hb hby at_12) rfl rfl (l' := #[.val (.int p1), .val (.int (2 : Int32)), .val (.ref a_LESS), .unset]) rfl k_) ?_
    show Go p e below _ (T5.setTop (mkF m 13 #[.val (.int p1), .val (.int (2 : Int32)), .val (.ref a_LESS), .unset] []))
    refine Go.step (fun t_ k_ => XS.iloadN X5.here hx rfl (hb hby at_13) rfl k_) ?_
    show Go p e below _ (T5.setTop (mkF m 14 #[.val (.int p1), .val (.int (2 : Int32)), .val (.ref a_LESS), .unset] [(.int (2 : Int32))]))
    have hc14 : ¬ ((2 : Int32) = (0 : Int32)) := by decide
    refine Go.step (fun t_ k_ => XS.ifNo X5.here hx rfl (hb hby at_14) rfl ((if0 _ _).trans (feq hc14).1) k_) ?_
    show Go p e below _ (T5.setTop (mkF m 17 #[.val (.int p1), .val (.int (2 : Int32)), .val (.ref a_LESS), .unset] []))
    refine Go.step (fun t_ k_ => XS.iloadN X5.here hx rfl (hb hby at_17) rfl k_) ?_
    show Go p e below _ (T5.setTop (mkF m 18 #[.val (.int p1), .val (.int (2 : Int32)), .val (.ref a_LESS), .unset] [(.int (2 : Int32))]))
    refine Go.step (fun t_ k_ => XS.iconst X5.here hx rfl (hb hby at_18) k_) ?_
    show Go p e below _ (T5.setTop (mkF m 19 #[.val (.int p1), .val (.int (2 : Int32)), .val (.ref a_LESS), .unset] [(.int (1 : Int32)), (.int (2 : Int32))]))
    have hc19 : ¬ ((2 : Int32) = (1 : Int32)) := by decide
    refine Go.step (fun t_ k_ => XS.icmpYes X5.here hx rfl (pc0 := 19) (pc' := 27) rfl (hb hby at_19) rfl (feq hc19).2 (by decide) (by decide) k_) ?_
    show Go p e below _ (T5.setTop (mkF m 27 #[.val (.int p1), .val (.int (2 : Int32)), .val (.ref a_LESS), .unset] []))
    refine Go.step (fun t_ k_ => XS.iconst X5.here hx rfl (hb hby at_27) k_) ?_
    show Go p e below _ (T5.setTop (mkF m 28 #[.val (.int p1), .val (.int (2 : Int32)), .val (.ref a_LESS), .unset] [(.int (1 : Int32))]))
    refine Go.step (fun t_ k_ => XS.istoreN X5.here hx rfl (hb hby at_28) rfl (l' := #[.val (.int p1), .val (.int (2 : Int32)), .val (.ref a_LESS), .val (.int (1 : Int32))]) rfl k_) ?_
    show Go p e below _ (T5.setTop (mkF m 29 #[.val (.int p1), .val (.int (2 : Int32)), .val (.ref a_LESS), .val (.int (1 : Int32))] []))
    refine Go.step (fun t_ k_ => XS.aloadN X5.here hx rfl (hb hby at_29) rfl rfl k_) ?_
    show Go p e below _ (T5.setTop (mkF m 30 #[.val (.int p1), .val (.int (2 : Int32)), .val (.ref a_LESS), .val (.int (1 : Int32))] [(.ref a_LESS)]))
    obtain ⟨cq6, kq6, q6a, q6b, q6c⟩ := isOf hZ e5 (E_LESS.ext Ol.2)
    obtain ⟨_, _, ⟨T6, L6, k6, n6⟩, -, X6, ⟨Lc6, hQ6, l6, y6, z6⟩, st6⟩ := X5.virtualBack hx (y := (⟨"com/example/wacl/wacl/core/Operator", "orders", "()Z"⟩ : MethodName)) (z := (⟨"com/example/wacl/wacl/core/Operator", "orders", "()Z"⟩ : MethodName)) hown (mvT hZ (hw _ (List.mem_of_getElem? (i := 8) rfl))) (mvT hZ (hw _ (List.mem_of_getElem? (i := 9) rfl))) (notFace_of_selects (args := #[]) (mvT hZ (hw _ (List.mem_of_getElem? (i := 11) rfl)))) (mvT hZ (hw _ (List.mem_of_getElem? (i := 11) rfl))) (mvT hZ (hw _ (List.mem_of_getElem? (i := 10) rfl))) (by decide) (backOf (W := 0) (rm2 l Z a0 hw [] a_EQUAL a_LESS_OR_EQUAL a_NOT_EQUAL a_LESS a_GREATER_OR_EQUAL a_GREATER HW a_LESS (1 : Int32) h0 n0 Ol (by simp [(Fld.ne F_EQUAL_ordinal F_LESS_OR_EQUAL_ordinal (by simp)), (Ne.symm (Fld.ne F_EQUAL_ordinal F_LESS_OR_EQUAL_ordinal (by simp))), (Fld.ne F_EQUAL_ordinal F_NOT_EQUAL_ordinal (by simp)), (Ne.symm (Fld.ne F_EQUAL_ordinal F_NOT_EQUAL_ordinal (by simp))), (Fld.ne F_EQUAL_ordinal F_LESS_ordinal (by simp)), (Ne.symm (Fld.ne F_EQUAL_ordinal F_LESS_ordinal (by simp))), (Fld.ne F_EQUAL_ordinal F_GREATER_OR_EQUAL_ordinal (by simp)), (Ne.symm (Fld.ne F_EQUAL_ordinal F_GREATER_OR_EQUAL_ordinal (by simp))), (Fld.ne F_EQUAL_ordinal F_GREATER_ordinal (by simp)), (Ne.symm (Fld.ne F_EQUAL_ordinal F_GREATER_ordinal (by simp))), (Fld.ne F_LESS_OR_EQUAL_ordinal F_NOT_EQUAL_ordinal (by simp)), (Ne.symm (Fld.ne F_LESS_OR_EQUAL_ordinal F_NOT_EQUAL_ordinal (by simp))), (Fld.ne F_LESS_OR_EQUAL_ordinal F_LESS_ordinal (by simp)), (Ne.symm (Fld.ne F_LESS_OR_EQUAL_ordinal F_LESS_ordinal (by simp))), (Fld.ne F_LESS_OR_EQUAL_ordinal F_GREATER_OR_EQUAL_ordinal (by simp)), (Ne.symm (Fld.ne F_LESS_OR_EQUAL_ordinal F_GREATER_OR_EQUAL_ordinal (by simp))), (Fld.ne F_LESS_OR_EQUAL_ordinal F_GREATER_ordinal (by simp)), (Ne.symm (Fld.ne F_LESS_OR_EQUAL_ordinal F_GREATER_ordinal (by simp))), (Fld.ne F_NOT_EQUAL_ordinal F_LESS_ordinal (by simp)), (Ne.symm (Fld.ne F_NOT_EQUAL_ordinal F_LESS_ordinal (by simp))), (Fld.ne F_NOT_EQUAL_ordinal F_GREATER_OR_EQUAL_ordinal (by simp)), (Ne.symm (Fld.ne F_NOT_EQUAL_ordinal F_GREATER_OR_EQUAL_ordinal (by simp))), (Fld.ne F_NOT_EQUAL_ordinal F_GREATER_ordinal (by simp)), (Ne.symm (Fld.ne F_NOT_EQUAL_ordinal F_GREATER_ordinal (by simp))), (Fld.ne F_LESS_ordinal F_GREATER_OR_EQUAL_ordinal (by simp)), (Ne.symm (Fld.ne F_LESS_ordinal F_GREATER_OR_EQUAL_ordinal (by simp))), (Fld.ne F_LESS_ordinal F_GREATER_ordinal (by simp)), (Ne.symm (Fld.ne F_LESS_ordinal F_GREATER_ordinal (by simp))), (Fld.ne F_GREATER_OR_EQUAL_ordinal F_GREATER_ordinal (by simp)), (Ne.symm (Fld.ne F_GREATER_OR_EQUAL_ordinal F_GREATER_ordinal (by simp)))])) hZ (hw _ (List.mem_of_getElem? (i := 12) rfl)) (hw _ (List.mem_of_getElem? (i := 6) rfl)) (by decide) (by decide)) q6a q6c (g := (mkF m 30 #[.val (.int p1), .val (.int (2 : Int32)), .val (.ref a_LESS), .val (.int (1 : Int32))] [(.ref a_LESS)])) rfl (by rw [hml]; rfl) (Steps.refl _) (argsL := []) (rest := []) (lenOf pd_1 rfl) rfl (by show 2 * 0 + _ ≤ _; exact Nat.le_of_eq rfl) (hb hby at_30) (fun _ _ => ⟨rfl, e5, (by decide : 0 + 0 ≤ _), (by decide : 0 + 0 ≤ _)⟩)
    dsimp only [Pt.U, Pt.locs, Pt.cells, Pt.slots] at X6 l6 y6 z6 st6 hQ6
    subst l6 y6 z6
    obtain ⟨rfl, Nq6, e6⟩ := hQ6
    have N6 := Fr.app N5 Nq6
    refine Go.step (fun t_ k_ => st6.trans k_) ?_
    show Go p e below _ (T6.setTop (mkF m 33 #[.val (.int p1), .val (.int (2 : Int32)), .val (.ref a_LESS), .val (.int (1 : Int32))] [(.int (1 : Int32))]))
    refine Go.step (fun t_ k_ => XS.iloadN X6.here hx rfl (hb hby at_33) rfl k_) ?_
    show Go p e below _ (T6.setTop (mkF m 34 #[.val (.int p1), .val (.int (2 : Int32)), .val (.ref a_LESS), .val (.int (1 : Int32))] [(.int (1 : Int32)), (.int (1 : Int32))]))
    have hc34 : (1 : Int32) = (1 : Int32) := by decide
    refine Go.step (fun t_ k_ => XS.icmpNo X6.here hx rfl (hb hby at_34) rfl (teq hc34).2 k_) ?_
    show Go p e below _ (T6.setTop (mkF m 37 #[.val (.int p1), .val (.int (2 : Int32)), .val (.ref a_LESS), .val (.int (1 : Int32))] []))
    refine Go.step (fun t_ k_ => XS.iconst X6.here hx rfl (hb hby at_37) k_) ?_
    show Go p e below _ (T6.setTop (mkF m 38 #[.val (.int p1), .val (.int (2 : Int32)), .val (.ref a_LESS), .val (.int (1 : Int32))] [(.int (1 : Int32))]))
    refine Go.step (fun t_ k_ => XS.goto X6.here hx rfl (pc0 := 38) (pc' := 42) rfl (hb hby at_38) (by decide) (by decide) k_) ?_
    show Go p e below _ (T6.setTop (mkF m 42 #[.val (.int p1), .val (.int (2 : Int32)), .val (.ref a_LESS), .val (.int (1 : Int32))] [(.int (1 : Int32))]))
    refine Go.retZ X6 hx (t := .boolean) Bd.returns (by simp) Bd.notSynchronized (hb hby at_42) (by rw [e6]; exact ⟨rfl, N6⟩) (by decide) (by decide)
  next =>
    show Go p e below _ (s₁.setTop (mkF m 8 #[.val (.int p1), .val (.int (3 : Int32)), .unset, .unset] []))
    refine Go.step (fun t_ k_ => XS.iloadN X0.here hx rfl (hb hby at_8) rfl k_) ?_
    show Go p e below _ (s₁.setTop (mkF m 9 #[.val (.int p1), .val (.int (3 : Int32)), .unset, .unset] [(.int (3 : Int32))]))
    obtain ⟨_, _, ⟨T7, L7, k7, n7⟩, -, X7, ⟨Lc7, hQ7, l7, y7, z7⟩, st7⟩ := Jvm.LawKit.callS X0 hx (y := (⟨"com/example/wacl/wacl/core/OperatorOrdersPinLaw", "pick", "(I)Lcom/example/wacl/wacl/core/Operator;"⟩ : MethodName)) hown (mvT hZ (hw _ (List.mem_of_getElem? (i := 1) rfl))) (mvT hZ (hw _ (List.mem_of_getElem? (i := 2) rfl))) (mvT hZ (hw _ (List.mem_of_getElem? (i := 3) rfl))) (mvT hZ (hw _ (List.mem_of_getElem? (i := 4) rfl))) (by decide) (backOf (W := 0) (rm1 l Z a0 hw [] a_EQUAL a_LESS_OR_EQUAL a_NOT_EQUAL a_LESS a_GREATER_OR_EQUAL a_GREATER HW (3 : Int32) a_LESS_OR_EQUAL h0 n0 Ol (by simp)) hZ (hw _ (List.mem_of_getElem? (i := 4) rfl)) (hw _ (List.mem_of_getElem? (i := 3) rfl)) (by decide) (by decide)) (g := (mkF m 9 #[.val (.int p1), .val (.int (3 : Int32)), .unset, .unset] [(.int (3 : Int32))])) rfl (by rw [hml]; rfl) (argsL := [(.int (3 : Int32))]) (rest := []) (lenOf pd_0 rfl) rfl (by show 2 * 0 + _ ≤ _; exact Nat.le_of_eq rfl) (hb hby at_9) (fun _ _ => ⟨rfl, e0, (by decide : 0 + 0 ≤ _), (by decide : 0 + 0 ≤ _)⟩)
    dsimp only [Pt.U, Pt.locs, Pt.cells, Pt.slots] at X7 l7 y7 z7 st7 hQ7
    subst l7 y7 z7
    obtain ⟨rfl, Nq7, e7⟩ := hQ7
    have N7 := Fr.app N0 Nq7
    refine Go.step st7 ?_
    show Go p e below _ (T7.setTop (mkF m 12 #[.val (.int p1), .val (.int (3 : Int32)), .unset, .unset] [(.ref a_LESS_OR_EQUAL)]))
    refine Go.step (fun t_ k_ => XS.astoreN X7.here hx rfl (hb hby at_12) rfl rfl (l' := #[.val (.int p1), .val (.int (3 : Int32)), .val (.ref a_LESS_OR_EQUAL), .unset]) rfl k_) ?_
    show Go p e below _ (T7.setTop (mkF m 13 #[.val (.int p1), .val (.int (3 : Int32)), .val (.ref a_LESS_OR_EQUAL), .unset] []))
    refine Go.step (fun t_ k_ => XS.iloadN X7.here hx rfl (hb hby at_13) rfl k_) ?_
    show Go p e below _ (T7.setTop (mkF m 14 #[.val (.int p1), .val (.int (3 : Int32)), .val (.ref a_LESS_OR_EQUAL), .unset] [(.int (3 : Int32))]))
    have hc14 : ¬ ((3 : Int32) = (0 : Int32)) := by decide
    refine Go.step (fun t_ k_ => XS.ifNo X7.here hx rfl (hb hby at_14) rfl ((if0 _ _).trans (feq hc14).1) k_) ?_
    show Go p e below _ (T7.setTop (mkF m 17 #[.val (.int p1), .val (.int (3 : Int32)), .val (.ref a_LESS_OR_EQUAL), .unset] []))
    refine Go.step (fun t_ k_ => XS.iloadN X7.here hx rfl (hb hby at_17) rfl k_) ?_
    show Go p e below _ (T7.setTop (mkF m 18 #[.val (.int p1), .val (.int (3 : Int32)), .val (.ref a_LESS_OR_EQUAL), .unset] [(.int (3 : Int32))]))
    refine Go.step (fun t_ k_ => XS.iconst X7.here hx rfl (hb hby at_18) k_) ?_
    show Go p e below _ (T7.setTop (mkF m 19 #[.val (.int p1), .val (.int (3 : Int32)), .val (.ref a_LESS_OR_EQUAL), .unset] [(.int (1 : Int32)), (.int (3 : Int32))]))
    have hc19 : ¬ ((3 : Int32) = (1 : Int32)) := by decide
    refine Go.step (fun t_ k_ => XS.icmpYes X7.here hx rfl (pc0 := 19) (pc' := 27) rfl (hb hby at_19) rfl (feq hc19).2 (by decide) (by decide) k_) ?_
    show Go p e below _ (T7.setTop (mkF m 27 #[.val (.int p1), .val (.int (3 : Int32)), .val (.ref a_LESS_OR_EQUAL), .unset] []))
    refine Go.step (fun t_ k_ => XS.iconst X7.here hx rfl (hb hby at_27) k_) ?_
    show Go p e below _ (T7.setTop (mkF m 28 #[.val (.int p1), .val (.int (3 : Int32)), .val (.ref a_LESS_OR_EQUAL), .unset] [(.int (1 : Int32))]))
    refine Go.step (fun t_ k_ => XS.istoreN X7.here hx rfl (hb hby at_28) rfl (l' := #[.val (.int p1), .val (.int (3 : Int32)), .val (.ref a_LESS_OR_EQUAL), .val (.int (1 : Int32))]) rfl k_) ?_
    show Go p e below _ (T7.setTop (mkF m 29 #[.val (.int p1), .val (.int (3 : Int32)), .val (.ref a_LESS_OR_EQUAL), .val (.int (1 : Int32))] []))
    refine Go.step (fun t_ k_ => XS.aloadN X7.here hx rfl (hb hby at_29) rfl rfl k_) ?_
    show Go p e below _ (T7.setTop (mkF m 30 #[.val (.int p1), .val (.int (3 : Int32)), .val (.ref a_LESS_OR_EQUAL), .val (.int (1 : Int32))] [(.ref a_LESS_OR_EQUAL)]))
    obtain ⟨cq8, kq8, q8a, q8b, q8c⟩ := isOf hZ e7 (E_LESS_OR_EQUAL.ext Ol.2)
    obtain ⟨_, _, ⟨T8, L8, k8, n8⟩, -, X8, ⟨Lc8, hQ8, l8, y8, z8⟩, st8⟩ := X7.virtualBack hx (y := (⟨"com/example/wacl/wacl/core/Operator", "orders", "()Z"⟩ : MethodName)) (z := (⟨"com/example/wacl/wacl/core/Operator", "orders", "()Z"⟩ : MethodName)) hown (mvT hZ (hw _ (List.mem_of_getElem? (i := 8) rfl))) (mvT hZ (hw _ (List.mem_of_getElem? (i := 9) rfl))) (notFace_of_selects (args := #[]) (mvT hZ (hw _ (List.mem_of_getElem? (i := 11) rfl)))) (mvT hZ (hw _ (List.mem_of_getElem? (i := 11) rfl))) (mvT hZ (hw _ (List.mem_of_getElem? (i := 10) rfl))) (by decide) (backOf (W := 0) (rm2 l Z a0 hw [] a_EQUAL a_LESS_OR_EQUAL a_NOT_EQUAL a_LESS a_GREATER_OR_EQUAL a_GREATER HW a_LESS_OR_EQUAL (1 : Int32) h0 n0 Ol (by simp [(Fld.ne F_EQUAL_ordinal F_LESS_OR_EQUAL_ordinal (by simp)), (Ne.symm (Fld.ne F_EQUAL_ordinal F_LESS_OR_EQUAL_ordinal (by simp))), (Fld.ne F_EQUAL_ordinal F_NOT_EQUAL_ordinal (by simp)), (Ne.symm (Fld.ne F_EQUAL_ordinal F_NOT_EQUAL_ordinal (by simp))), (Fld.ne F_EQUAL_ordinal F_LESS_ordinal (by simp)), (Ne.symm (Fld.ne F_EQUAL_ordinal F_LESS_ordinal (by simp))), (Fld.ne F_EQUAL_ordinal F_GREATER_OR_EQUAL_ordinal (by simp)), (Ne.symm (Fld.ne F_EQUAL_ordinal F_GREATER_OR_EQUAL_ordinal (by simp))), (Fld.ne F_EQUAL_ordinal F_GREATER_ordinal (by simp)), (Ne.symm (Fld.ne F_EQUAL_ordinal F_GREATER_ordinal (by simp))), (Fld.ne F_LESS_OR_EQUAL_ordinal F_NOT_EQUAL_ordinal (by simp)), (Ne.symm (Fld.ne F_LESS_OR_EQUAL_ordinal F_NOT_EQUAL_ordinal (by simp))), (Fld.ne F_LESS_OR_EQUAL_ordinal F_LESS_ordinal (by simp)), (Ne.symm (Fld.ne F_LESS_OR_EQUAL_ordinal F_LESS_ordinal (by simp))), (Fld.ne F_LESS_OR_EQUAL_ordinal F_GREATER_OR_EQUAL_ordinal (by simp)), (Ne.symm (Fld.ne F_LESS_OR_EQUAL_ordinal F_GREATER_OR_EQUAL_ordinal (by simp))), (Fld.ne F_LESS_OR_EQUAL_ordinal F_GREATER_ordinal (by simp)), (Ne.symm (Fld.ne F_LESS_OR_EQUAL_ordinal F_GREATER_ordinal (by simp))), (Fld.ne F_NOT_EQUAL_ordinal F_LESS_ordinal (by simp)), (Ne.symm (Fld.ne F_NOT_EQUAL_ordinal F_LESS_ordinal (by simp))), (Fld.ne F_NOT_EQUAL_ordinal F_GREATER_OR_EQUAL_ordinal (by simp)), (Ne.symm (Fld.ne F_NOT_EQUAL_ordinal F_GREATER_OR_EQUAL_ordinal (by simp))), (Fld.ne F_NOT_EQUAL_ordinal F_GREATER_ordinal (by simp)), (Ne.symm (Fld.ne F_NOT_EQUAL_ordinal F_GREATER_ordinal (by simp))), (Fld.ne F_LESS_ordinal F_GREATER_OR_EQUAL_ordinal (by simp)), (Ne.symm (Fld.ne F_LESS_ordinal F_GREATER_OR_EQUAL_ordinal (by simp))), (Fld.ne F_LESS_ordinal F_GREATER_ordinal (by simp)), (Ne.symm (Fld.ne F_LESS_ordinal F_GREATER_ordinal (by simp))), (Fld.ne F_GREATER_OR_EQUAL_ordinal F_GREATER_ordinal (by simp)), (Ne.symm (Fld.ne F_GREATER_OR_EQUAL_ordinal F_GREATER_ordinal (by simp)))])) hZ (hw _ (List.mem_of_getElem? (i := 12) rfl)) (hw _ (List.mem_of_getElem? (i := 6) rfl)) (by decide) (by decide)) q8a q8c (g := (mkF m 30 #[.val (.int p1), .val (.int (3 : Int32)), .val (.ref a_LESS_OR_EQUAL), .val (.int (1 : Int32))] [(.ref a_LESS_OR_EQUAL)])) rfl (by rw [hml]; rfl) (Steps.refl _) (argsL := []) (rest := []) (lenOf pd_1 rfl) rfl (by show 2 * 0 + _ ≤ _; exact Nat.le_of_eq rfl) (hb hby at_30) (fun _ _ => ⟨rfl, e7, (by decide : 0 + 0 ≤ _), (by decide : 0 + 0 ≤ _)⟩)
    dsimp only [Pt.U, Pt.locs, Pt.cells, Pt.slots] at X8 l8 y8 z8 st8 hQ8
    subst l8 y8 z8
    obtain ⟨rfl, Nq8, e8⟩ := hQ8
    have N8 := Fr.app N7 Nq8
    refine Go.step (fun t_ k_ => st8.trans k_) ?_
    show Go p e below _ (T8.setTop (mkF m 33 #[.val (.int p1), .val (.int (3 : Int32)), .val (.ref a_LESS_OR_EQUAL), .val (.int (1 : Int32))] [(.int (1 : Int32))]))
    refine Go.step (fun t_ k_ => XS.iloadN X8.here hx rfl (hb hby at_33) rfl k_) ?_
    show Go p e below _ (T8.setTop (mkF m 34 #[.val (.int p1), .val (.int (3 : Int32)), .val (.ref a_LESS_OR_EQUAL), .val (.int (1 : Int32))] [(.int (1 : Int32)), (.int (1 : Int32))]))
    have hc34 : (1 : Int32) = (1 : Int32) := by decide
    refine Go.step (fun t_ k_ => XS.icmpNo X8.here hx rfl (hb hby at_34) rfl (teq hc34).2 k_) ?_
    show Go p e below _ (T8.setTop (mkF m 37 #[.val (.int p1), .val (.int (3 : Int32)), .val (.ref a_LESS_OR_EQUAL), .val (.int (1 : Int32))] []))
    refine Go.step (fun t_ k_ => XS.iconst X8.here hx rfl (hb hby at_37) k_) ?_
    show Go p e below _ (T8.setTop (mkF m 38 #[.val (.int p1), .val (.int (3 : Int32)), .val (.ref a_LESS_OR_EQUAL), .val (.int (1 : Int32))] [(.int (1 : Int32))]))
    refine Go.step (fun t_ k_ => XS.goto X8.here hx rfl (pc0 := 38) (pc' := 42) rfl (hb hby at_38) (by decide) (by decide) k_) ?_
    show Go p e below _ (T8.setTop (mkF m 42 #[.val (.int p1), .val (.int (3 : Int32)), .val (.ref a_LESS_OR_EQUAL), .val (.int (1 : Int32))] [(.int (1 : Int32))]))
    refine Go.retZ X8 hx (t := .boolean) Bd.returns (by simp) Bd.notSynchronized (hb hby at_42) (by rw [e8]; exact ⟨rfl, N8⟩) (by decide) (by decide)
  next =>
    show Go p e below _ (s₁.setTop (mkF m 8 #[.val (.int p1), .val (.int (4 : Int32)), .unset, .unset] []))
    refine Go.step (fun t_ k_ => XS.iloadN X0.here hx rfl (hb hby at_8) rfl k_) ?_
    show Go p e below _ (s₁.setTop (mkF m 9 #[.val (.int p1), .val (.int (4 : Int32)), .unset, .unset] [(.int (4 : Int32))]))
    obtain ⟨_, _, ⟨T9, L9, k9, n9⟩, -, X9, ⟨Lc9, hQ9, l9, y9, z9⟩, st9⟩ := Jvm.LawKit.callS X0 hx (y := (⟨"com/example/wacl/wacl/core/OperatorOrdersPinLaw", "pick", "(I)Lcom/example/wacl/wacl/core/Operator;"⟩ : MethodName)) hown (mvT hZ (hw _ (List.mem_of_getElem? (i := 1) rfl))) (mvT hZ (hw _ (List.mem_of_getElem? (i := 2) rfl))) (mvT hZ (hw _ (List.mem_of_getElem? (i := 3) rfl))) (mvT hZ (hw _ (List.mem_of_getElem? (i := 4) rfl))) (by decide) (backOf (W := 0) (rm1 l Z a0 hw [] a_EQUAL a_LESS_OR_EQUAL a_NOT_EQUAL a_LESS a_GREATER_OR_EQUAL a_GREATER HW (4 : Int32) a_GREATER h0 n0 Ol (by simp)) hZ (hw _ (List.mem_of_getElem? (i := 4) rfl)) (hw _ (List.mem_of_getElem? (i := 3) rfl)) (by decide) (by decide)) (g := (mkF m 9 #[.val (.int p1), .val (.int (4 : Int32)), .unset, .unset] [(.int (4 : Int32))])) rfl (by rw [hml]; rfl) (argsL := [(.int (4 : Int32))]) (rest := []) (lenOf pd_0 rfl) rfl (by show 2 * 0 + _ ≤ _; exact Nat.le_of_eq rfl) (hb hby at_9) (fun _ _ => ⟨rfl, e0, (by decide : 0 + 0 ≤ _), (by decide : 0 + 0 ≤ _)⟩)
    dsimp only [Pt.U, Pt.locs, Pt.cells, Pt.slots] at X9 l9 y9 z9 st9 hQ9
    subst l9 y9 z9
    obtain ⟨rfl, Nq9, e9⟩ := hQ9
    have N9 := Fr.app N0 Nq9
    refine Go.step st9 ?_
    show Go p e below _ (T9.setTop (mkF m 12 #[.val (.int p1), .val (.int (4 : Int32)), .unset, .unset] [(.ref a_GREATER)]))
    refine Go.step (fun t_ k_ => XS.astoreN X9.here hx rfl (hb hby at_12) rfl rfl (l' := #[.val (.int p1), .val (.int (4 : Int32)), .val (.ref a_GREATER), .unset]) rfl k_) ?_
    show Go p e below _ (T9.setTop (mkF m 13 #[.val (.int p1), .val (.int (4 : Int32)), .val (.ref a_GREATER), .unset] []))
    refine Go.step (fun t_ k_ => XS.iloadN X9.here hx rfl (hb hby at_13) rfl k_) ?_
    show Go p e below _ (T9.setTop (mkF m 14 #[.val (.int p1), .val (.int (4 : Int32)), .val (.ref a_GREATER), .unset] [(.int (4 : Int32))]))
    have hc14 : ¬ ((4 : Int32) = (0 : Int32)) := by decide
    refine Go.step (fun t_ k_ => XS.ifNo X9.here hx rfl (hb hby at_14) rfl ((if0 _ _).trans (feq hc14).1) k_) ?_
    show Go p e below _ (T9.setTop (mkF m 17 #[.val (.int p1), .val (.int (4 : Int32)), .val (.ref a_GREATER), .unset] []))
    refine Go.step (fun t_ k_ => XS.iloadN X9.here hx rfl (hb hby at_17) rfl k_) ?_
    show Go p e below _ (T9.setTop (mkF m 18 #[.val (.int p1), .val (.int (4 : Int32)), .val (.ref a_GREATER), .unset] [(.int (4 : Int32))]))
    refine Go.step (fun t_ k_ => XS.iconst X9.here hx rfl (hb hby at_18) k_) ?_
    show Go p e below _ (T9.setTop (mkF m 19 #[.val (.int p1), .val (.int (4 : Int32)), .val (.ref a_GREATER), .unset] [(.int (1 : Int32)), (.int (4 : Int32))]))
    have hc19 : ¬ ((4 : Int32) = (1 : Int32)) := by decide
    refine Go.step (fun t_ k_ => XS.icmpYes X9.here hx rfl (pc0 := 19) (pc' := 27) rfl (hb hby at_19) rfl (feq hc19).2 (by decide) (by decide) k_) ?_
    show Go p e below _ (T9.setTop (mkF m 27 #[.val (.int p1), .val (.int (4 : Int32)), .val (.ref a_GREATER), .unset] []))
    refine Go.step (fun t_ k_ => XS.iconst X9.here hx rfl (hb hby at_27) k_) ?_
    show Go p e below _ (T9.setTop (mkF m 28 #[.val (.int p1), .val (.int (4 : Int32)), .val (.ref a_GREATER), .unset] [(.int (1 : Int32))]))
    refine Go.step (fun t_ k_ => XS.istoreN X9.here hx rfl (hb hby at_28) rfl (l' := #[.val (.int p1), .val (.int (4 : Int32)), .val (.ref a_GREATER), .val (.int (1 : Int32))]) rfl k_) ?_
    show Go p e below _ (T9.setTop (mkF m 29 #[.val (.int p1), .val (.int (4 : Int32)), .val (.ref a_GREATER), .val (.int (1 : Int32))] []))
    refine Go.step (fun t_ k_ => XS.aloadN X9.here hx rfl (hb hby at_29) rfl rfl k_) ?_
    show Go p e below _ (T9.setTop (mkF m 30 #[.val (.int p1), .val (.int (4 : Int32)), .val (.ref a_GREATER), .val (.int (1 : Int32))] [(.ref a_GREATER)]))
    obtain ⟨cq10, kq10, q10a, q10b, q10c⟩ := isOf hZ e9 (E_GREATER.ext Ol.2)
    obtain ⟨_, _, ⟨T10, L10, k10, n10⟩, -, X10, ⟨Lc10, hQ10, l10, y10, z10⟩, st10⟩ := X9.virtualBack hx (y := (⟨"com/example/wacl/wacl/core/Operator", "orders", "()Z"⟩ : MethodName)) (z := (⟨"com/example/wacl/wacl/core/Operator", "orders", "()Z"⟩ : MethodName)) hown (mvT hZ (hw _ (List.mem_of_getElem? (i := 8) rfl))) (mvT hZ (hw _ (List.mem_of_getElem? (i := 9) rfl))) (notFace_of_selects (args := #[]) (mvT hZ (hw _ (List.mem_of_getElem? (i := 11) rfl)))) (mvT hZ (hw _ (List.mem_of_getElem? (i := 11) rfl))) (mvT hZ (hw _ (List.mem_of_getElem? (i := 10) rfl))) (by decide) (backOf (W := 0) (rm2 l Z a0 hw [] a_EQUAL a_LESS_OR_EQUAL a_NOT_EQUAL a_LESS a_GREATER_OR_EQUAL a_GREATER HW a_GREATER (1 : Int32) h0 n0 Ol (by simp [(Fld.ne F_EQUAL_ordinal F_LESS_OR_EQUAL_ordinal (by simp)), (Ne.symm (Fld.ne F_EQUAL_ordinal F_LESS_OR_EQUAL_ordinal (by simp))), (Fld.ne F_EQUAL_ordinal F_NOT_EQUAL_ordinal (by simp)), (Ne.symm (Fld.ne F_EQUAL_ordinal F_NOT_EQUAL_ordinal (by simp))), (Fld.ne F_EQUAL_ordinal F_LESS_ordinal (by simp)), (Ne.symm (Fld.ne F_EQUAL_ordinal F_LESS_ordinal (by simp))), (Fld.ne F_EQUAL_ordinal F_GREATER_OR_EQUAL_ordinal (by simp)), (Ne.symm (Fld.ne F_EQUAL_ordinal F_GREATER_OR_EQUAL_ordinal (by simp))), (Fld.ne F_EQUAL_ordinal F_GREATER_ordinal (by simp)), (Ne.symm (Fld.ne F_EQUAL_ordinal F_GREATER_ordinal (by simp))), (Fld.ne F_LESS_OR_EQUAL_ordinal F_NOT_EQUAL_ordinal (by simp)), (Ne.symm (Fld.ne F_LESS_OR_EQUAL_ordinal F_NOT_EQUAL_ordinal (by simp))), (Fld.ne F_LESS_OR_EQUAL_ordinal F_LESS_ordinal (by simp)), (Ne.symm (Fld.ne F_LESS_OR_EQUAL_ordinal F_LESS_ordinal (by simp))), (Fld.ne F_LESS_OR_EQUAL_ordinal F_GREATER_OR_EQUAL_ordinal (by simp)), (Ne.symm (Fld.ne F_LESS_OR_EQUAL_ordinal F_GREATER_OR_EQUAL_ordinal (by simp))), (Fld.ne F_LESS_OR_EQUAL_ordinal F_GREATER_ordinal (by simp)), (Ne.symm (Fld.ne F_LESS_OR_EQUAL_ordinal F_GREATER_ordinal (by simp))), (Fld.ne F_NOT_EQUAL_ordinal F_LESS_ordinal (by simp)), (Ne.symm (Fld.ne F_NOT_EQUAL_ordinal F_LESS_ordinal (by simp))), (Fld.ne F_NOT_EQUAL_ordinal F_GREATER_OR_EQUAL_ordinal (by simp)), (Ne.symm (Fld.ne F_NOT_EQUAL_ordinal F_GREATER_OR_EQUAL_ordinal (by simp))), (Fld.ne F_NOT_EQUAL_ordinal F_GREATER_ordinal (by simp)), (Ne.symm (Fld.ne F_NOT_EQUAL_ordinal F_GREATER_ordinal (by simp))), (Fld.ne F_LESS_ordinal F_GREATER_OR_EQUAL_ordinal (by simp)), (Ne.symm (Fld.ne F_LESS_ordinal F_GREATER_OR_EQUAL_ordinal (by simp))), (Fld.ne F_LESS_ordinal F_GREATER_ordinal (by simp)), (Ne.symm (Fld.ne F_LESS_ordinal F_GREATER_ordinal (by simp))), (Fld.ne F_GREATER_OR_EQUAL_ordinal F_GREATER_ordinal (by simp)), (Ne.symm (Fld.ne F_GREATER_OR_EQUAL_ordinal F_GREATER_ordinal (by simp)))])) hZ (hw _ (List.mem_of_getElem? (i := 12) rfl)) (hw _ (List.mem_of_getElem? (i := 6) rfl)) (by decide) (by decide)) q10a q10c (g := (mkF m 30 #[.val (.int p1), .val (.int (4 : Int32)), .val (.ref a_GREATER), .val (.int (1 : Int32))] [(.ref a_GREATER)])) rfl (by rw [hml]; rfl) (Steps.refl _) (argsL := []) (rest := []) (lenOf pd_1 rfl) rfl (by show 2 * 0 + _ ≤ _; exact Nat.le_of_eq rfl) (hb hby at_30) (fun _ _ => ⟨rfl, e9, (by decide : 0 + 0 ≤ _), (by decide : 0 + 0 ≤ _)⟩)
    dsimp only [Pt.U, Pt.locs, Pt.cells, Pt.slots] at X10 l10 y10 z10 st10 hQ10
    subst l10 y10 z10
    obtain ⟨rfl, Nq10, e10⟩ := hQ10
    have N10 := Fr.app N9 Nq10
    refine Go.step (fun t_ k_ => st10.trans k_) ?_
    show Go p e below _ (T10.setTop (mkF m 33 #[.val (.int p1), .val (.int (4 : Int32)), .val (.ref a_GREATER), .val (.int (1 : Int32))] [(.int (1 : Int32))]))
    refine Go.step (fun t_ k_ => XS.iloadN X10.here hx rfl (hb hby at_33) rfl k_) ?_
    show Go p e below _ (T10.setTop (mkF m 34 #[.val (.int p1), .val (.int (4 : Int32)), .val (.ref a_GREATER), .val (.int (1 : Int32))] [(.int (1 : Int32)), (.int (1 : Int32))]))
    have hc34 : (1 : Int32) = (1 : Int32) := by decide
    refine Go.step (fun t_ k_ => XS.icmpNo X10.here hx rfl (hb hby at_34) rfl (teq hc34).2 k_) ?_
    show Go p e below _ (T10.setTop (mkF m 37 #[.val (.int p1), .val (.int (4 : Int32)), .val (.ref a_GREATER), .val (.int (1 : Int32))] []))
    refine Go.step (fun t_ k_ => XS.iconst X10.here hx rfl (hb hby at_37) k_) ?_
    show Go p e below _ (T10.setTop (mkF m 38 #[.val (.int p1), .val (.int (4 : Int32)), .val (.ref a_GREATER), .val (.int (1 : Int32))] [(.int (1 : Int32))]))
    refine Go.step (fun t_ k_ => XS.goto X10.here hx rfl (pc0 := 38) (pc' := 42) rfl (hb hby at_38) (by decide) (by decide) k_) ?_
    show Go p e below _ (T10.setTop (mkF m 42 #[.val (.int p1), .val (.int (4 : Int32)), .val (.ref a_GREATER), .val (.int (1 : Int32))] [(.int (1 : Int32))]))
    refine Go.retZ X10 hx (t := .boolean) Bd.returns (by simp) Bd.notSynchronized (hb hby at_42) (by rw [e10]; exact ⟨rfl, N10⟩) (by decide) (by decide)
  next =>
    show Go p e below _ (s₁.setTop (mkF m 8 #[.val (.int p1), .val (.int (5 : Int32)), .unset, .unset] []))
    refine Go.step (fun t_ k_ => XS.iloadN X0.here hx rfl (hb hby at_8) rfl k_) ?_
    show Go p e below _ (s₁.setTop (mkF m 9 #[.val (.int p1), .val (.int (5 : Int32)), .unset, .unset] [(.int (5 : Int32))]))
    obtain ⟨_, _, ⟨T11, L11, k11, n11⟩, -, X11, ⟨Lc11, hQ11, l11, y11, z11⟩, st11⟩ := Jvm.LawKit.callS X0 hx (y := (⟨"com/example/wacl/wacl/core/OperatorOrdersPinLaw", "pick", "(I)Lcom/example/wacl/wacl/core/Operator;"⟩ : MethodName)) hown (mvT hZ (hw _ (List.mem_of_getElem? (i := 1) rfl))) (mvT hZ (hw _ (List.mem_of_getElem? (i := 2) rfl))) (mvT hZ (hw _ (List.mem_of_getElem? (i := 3) rfl))) (mvT hZ (hw _ (List.mem_of_getElem? (i := 4) rfl))) (by decide) (backOf (W := 0) (rm1 l Z a0 hw [] a_EQUAL a_LESS_OR_EQUAL a_NOT_EQUAL a_LESS a_GREATER_OR_EQUAL a_GREATER HW (5 : Int32) a_GREATER_OR_EQUAL h0 n0 Ol (by simp)) hZ (hw _ (List.mem_of_getElem? (i := 4) rfl)) (hw _ (List.mem_of_getElem? (i := 3) rfl)) (by decide) (by decide)) (g := (mkF m 9 #[.val (.int p1), .val (.int (5 : Int32)), .unset, .unset] [(.int (5 : Int32))])) rfl (by rw [hml]; rfl) (argsL := [(.int (5 : Int32))]) (rest := []) (lenOf pd_0 rfl) rfl (by show 2 * 0 + _ ≤ _; exact Nat.le_of_eq rfl) (hb hby at_9) (fun _ _ => ⟨rfl, e0, (by decide : 0 + 0 ≤ _), (by decide : 0 + 0 ≤ _)⟩)
    dsimp only [Pt.U, Pt.locs, Pt.cells, Pt.slots] at X11 l11 y11 z11 st11 hQ11
    subst l11 y11 z11
    obtain ⟨rfl, Nq11, e11⟩ := hQ11
    have N11 := Fr.app N0 Nq11
    refine Go.step st11 ?_
    show Go p e below _ (T11.setTop (mkF m 12 #[.val (.int p1), .val (.int (5 : Int32)), .unset, .unset] [(.ref a_GREATER_OR_EQUAL)]))
    refine Go.step (fun t_ k_ => XS.astoreN X11.here hx rfl (hb hby at_12) rfl rfl (l' := #[.val (.int p1), .val (.int (5 : Int32)), .val (.ref a_GREATER_OR_EQUAL), .unset]) rfl k_) ?_
    show Go p e below _ (T11.setTop (mkF m 13 #[.val (.int p1), .val (.int (5 : Int32)), .val (.ref a_GREATER_OR_EQUAL), .unset] []))
    refine Go.step (fun t_ k_ => XS.iloadN X11.here hx rfl (hb hby at_13) rfl k_) ?_
    show Go p e below _ (T11.setTop (mkF m 14 #[.val (.int p1), .val (.int (5 : Int32)), .val (.ref a_GREATER_OR_EQUAL), .unset] [(.int (5 : Int32))]))
    have hc14 : ¬ ((5 : Int32) = (0 : Int32)) := by decide
    refine Go.step (fun t_ k_ => XS.ifNo X11.here hx rfl (hb hby at_14) rfl ((if0 _ _).trans (feq hc14).1) k_) ?_
    show Go p e below _ (T11.setTop (mkF m 17 #[.val (.int p1), .val (.int (5 : Int32)), .val (.ref a_GREATER_OR_EQUAL), .unset] []))
    refine Go.step (fun t_ k_ => XS.iloadN X11.here hx rfl (hb hby at_17) rfl k_) ?_
    show Go p e below _ (T11.setTop (mkF m 18 #[.val (.int p1), .val (.int (5 : Int32)), .val (.ref a_GREATER_OR_EQUAL), .unset] [(.int (5 : Int32))]))
    refine Go.step (fun t_ k_ => XS.iconst X11.here hx rfl (hb hby at_18) k_) ?_
    show Go p e below _ (T11.setTop (mkF m 19 #[.val (.int p1), .val (.int (5 : Int32)), .val (.ref a_GREATER_OR_EQUAL), .unset] [(.int (1 : Int32)), (.int (5 : Int32))]))
    have hc19 : ¬ ((5 : Int32) = (1 : Int32)) := by decide
    refine Go.step (fun t_ k_ => XS.icmpYes X11.here hx rfl (pc0 := 19) (pc' := 27) rfl (hb hby at_19) rfl (feq hc19).2 (by decide) (by decide) k_) ?_
    show Go p e below _ (T11.setTop (mkF m 27 #[.val (.int p1), .val (.int (5 : Int32)), .val (.ref a_GREATER_OR_EQUAL), .unset] []))
    refine Go.step (fun t_ k_ => XS.iconst X11.here hx rfl (hb hby at_27) k_) ?_
    show Go p e below _ (T11.setTop (mkF m 28 #[.val (.int p1), .val (.int (5 : Int32)), .val (.ref a_GREATER_OR_EQUAL), .unset] [(.int (1 : Int32))]))
    refine Go.step (fun t_ k_ => XS.istoreN X11.here hx rfl (hb hby at_28) rfl (l' := #[.val (.int p1), .val (.int (5 : Int32)), .val (.ref a_GREATER_OR_EQUAL), .val (.int (1 : Int32))]) rfl k_) ?_
    show Go p e below _ (T11.setTop (mkF m 29 #[.val (.int p1), .val (.int (5 : Int32)), .val (.ref a_GREATER_OR_EQUAL), .val (.int (1 : Int32))] []))
    refine Go.step (fun t_ k_ => XS.aloadN X11.here hx rfl (hb hby at_29) rfl rfl k_) ?_
    show Go p e below _ (T11.setTop (mkF m 30 #[.val (.int p1), .val (.int (5 : Int32)), .val (.ref a_GREATER_OR_EQUAL), .val (.int (1 : Int32))] [(.ref a_GREATER_OR_EQUAL)]))
    obtain ⟨cq12, kq12, q12a, q12b, q12c⟩ := isOf hZ e11 (E_GREATER_OR_EQUAL.ext Ol.2)
    obtain ⟨_, _, ⟨T12, L12, k12, n12⟩, -, X12, ⟨Lc12, hQ12, l12, y12, z12⟩, st12⟩ := X11.virtualBack hx (y := (⟨"com/example/wacl/wacl/core/Operator", "orders", "()Z"⟩ : MethodName)) (z := (⟨"com/example/wacl/wacl/core/Operator", "orders", "()Z"⟩ : MethodName)) hown (mvT hZ (hw _ (List.mem_of_getElem? (i := 8) rfl))) (mvT hZ (hw _ (List.mem_of_getElem? (i := 9) rfl))) (notFace_of_selects (args := #[]) (mvT hZ (hw _ (List.mem_of_getElem? (i := 11) rfl)))) (mvT hZ (hw _ (List.mem_of_getElem? (i := 11) rfl))) (mvT hZ (hw _ (List.mem_of_getElem? (i := 10) rfl))) (by decide) (backOf (W := 0) (rm2 l Z a0 hw [] a_EQUAL a_LESS_OR_EQUAL a_NOT_EQUAL a_LESS a_GREATER_OR_EQUAL a_GREATER HW a_GREATER_OR_EQUAL (1 : Int32) h0 n0 Ol (by simp [(Fld.ne F_EQUAL_ordinal F_LESS_OR_EQUAL_ordinal (by simp)), (Ne.symm (Fld.ne F_EQUAL_ordinal F_LESS_OR_EQUAL_ordinal (by simp))), (Fld.ne F_EQUAL_ordinal F_NOT_EQUAL_ordinal (by simp)), (Ne.symm (Fld.ne F_EQUAL_ordinal F_NOT_EQUAL_ordinal (by simp))), (Fld.ne F_EQUAL_ordinal F_LESS_ordinal (by simp)), (Ne.symm (Fld.ne F_EQUAL_ordinal F_LESS_ordinal (by simp))), (Fld.ne F_EQUAL_ordinal F_GREATER_OR_EQUAL_ordinal (by simp)), (Ne.symm (Fld.ne F_EQUAL_ordinal F_GREATER_OR_EQUAL_ordinal (by simp))), (Fld.ne F_EQUAL_ordinal F_GREATER_ordinal (by simp)), (Ne.symm (Fld.ne F_EQUAL_ordinal F_GREATER_ordinal (by simp))), (Fld.ne F_LESS_OR_EQUAL_ordinal F_NOT_EQUAL_ordinal (by simp)), (Ne.symm (Fld.ne F_LESS_OR_EQUAL_ordinal F_NOT_EQUAL_ordinal (by simp))), (Fld.ne F_LESS_OR_EQUAL_ordinal F_LESS_ordinal (by simp)), (Ne.symm (Fld.ne F_LESS_OR_EQUAL_ordinal F_LESS_ordinal (by simp))), (Fld.ne F_LESS_OR_EQUAL_ordinal F_GREATER_OR_EQUAL_ordinal (by simp)), (Ne.symm (Fld.ne F_LESS_OR_EQUAL_ordinal F_GREATER_OR_EQUAL_ordinal (by simp))), (Fld.ne F_LESS_OR_EQUAL_ordinal F_GREATER_ordinal (by simp)), (Ne.symm (Fld.ne F_LESS_OR_EQUAL_ordinal F_GREATER_ordinal (by simp))), (Fld.ne F_NOT_EQUAL_ordinal F_LESS_ordinal (by simp)), (Ne.symm (Fld.ne F_NOT_EQUAL_ordinal F_LESS_ordinal (by simp))), (Fld.ne F_NOT_EQUAL_ordinal F_GREATER_OR_EQUAL_ordinal (by simp)), (Ne.symm (Fld.ne F_NOT_EQUAL_ordinal F_GREATER_OR_EQUAL_ordinal (by simp))), (Fld.ne F_NOT_EQUAL_ordinal F_GREATER_ordinal (by simp)), (Ne.symm (Fld.ne F_NOT_EQUAL_ordinal F_GREATER_ordinal (by simp))), (Fld.ne F_LESS_ordinal F_GREATER_OR_EQUAL_ordinal (by simp)), (Ne.symm (Fld.ne F_LESS_ordinal F_GREATER_OR_EQUAL_ordinal (by simp))), (Fld.ne F_LESS_ordinal F_GREATER_ordinal (by simp)), (Ne.symm (Fld.ne F_LESS_ordinal F_GREATER_ordinal (by simp))), (Fld.ne F_GREATER_OR_EQUAL_ordinal F_GREATER_ordinal (by simp)), (Ne.symm (Fld.ne F_GREATER_OR_EQUAL_ordinal F_GREATER_ordinal (by simp)))])) hZ (hw _ (List.mem_of_getElem? (i := 12) rfl)) (hw _ (List.mem_of_getElem? (i := 6) rfl)) (by decide) (by decide)) q12a q12c (g := (mkF m 30 #[.val (.int p1), .val (.int (5 : Int32)), .val (.ref a_GREATER_OR_EQUAL), .val (.int (1 : Int32))] [(.ref a_GREATER_OR_EQUAL)])) rfl (by rw [hml]; rfl) (Steps.refl _) (argsL := []) (rest := []) (lenOf pd_1 rfl) rfl (by show 2 * 0 + _ ≤ _; exact Nat.le_of_eq rfl) (hb hby at_30) (fun _ _ => ⟨rfl, e11, (by decide : 0 + 0 ≤ _), (by decide : 0 + 0 ≤ _)⟩)
    dsimp only [Pt.U, Pt.locs, Pt.cells, Pt.slots] at X12 l12 y12 z12 st12 hQ12
    subst l12 y12 z12
    obtain ⟨rfl, Nq12, e12⟩ := hQ12
    have N12 := Fr.app N11 Nq12
    refine Go.step (fun t_ k_ => st12.trans k_) ?_
    show Go p e below _ (T12.setTop (mkF m 33 #[.val (.int p1), .val (.int (5 : Int32)), .val (.ref a_GREATER_OR_EQUAL), .val (.int (1 : Int32))] [(.int (1 : Int32))]))
    refine Go.step (fun t_ k_ => XS.iloadN X12.here hx rfl (hb hby at_33) rfl k_) ?_
    show Go p e below _ (T12.setTop (mkF m 34 #[.val (.int p1), .val (.int (5 : Int32)), .val (.ref a_GREATER_OR_EQUAL), .val (.int (1 : Int32))] [(.int (1 : Int32)), (.int (1 : Int32))]))
    have hc34 : (1 : Int32) = (1 : Int32) := by decide
    refine Go.step (fun t_ k_ => XS.icmpNo X12.here hx rfl (hb hby at_34) rfl (teq hc34).2 k_) ?_
    show Go p e below _ (T12.setTop (mkF m 37 #[.val (.int p1), .val (.int (5 : Int32)), .val (.ref a_GREATER_OR_EQUAL), .val (.int (1 : Int32))] []))
    refine Go.step (fun t_ k_ => XS.iconst X12.here hx rfl (hb hby at_37) k_) ?_
    show Go p e below _ (T12.setTop (mkF m 38 #[.val (.int p1), .val (.int (5 : Int32)), .val (.ref a_GREATER_OR_EQUAL), .val (.int (1 : Int32))] [(.int (1 : Int32))]))
    refine Go.step (fun t_ k_ => XS.goto X12.here hx rfl (pc0 := 38) (pc' := 42) rfl (hb hby at_38) (by decide) (by decide) k_) ?_
    show Go p e below _ (T12.setTop (mkF m 42 #[.val (.int p1), .val (.int (5 : Int32)), .val (.ref a_GREATER_OR_EQUAL), .val (.int (1 : Int32))] [(.int (1 : Int32))]))
    refine Go.retZ X12 hx (t := .boolean) Bd.returns (by simp) Bd.notSynchronized (hb hby at_42) (by rw [e12]; exact ⟨rfl, N12⟩) (by decide) (by decide)
set_option maxRecDepth 65536 in
set_option maxHeartbeats 40000000 in
theorem comes_1 {Post : Tables → Env → Array Value → State → Outcome → State → Prop} (hpost : ∀ tb e args s v u, (limb_1_1.after args s (.returned v) u = true ∧ limb_1_2.after args s (.returned v) u = true ∧ True) → FrameEnd s (.returned v) u (Jvm.fieldLocs frame_1_writes args s ++ Jvm.arrayLocs frame_1_arrays args s ++ Jvm.staticLocs frame_1_statics s) 0 0 → Post tb e args s (.returned v) u) :
    ArmFor flags0 classFile x code maxLocals ret World_1 tables_1 room_1 Calls_1 rest_1 Pre_1 Post := by
  intro l hfl _ _ p e ha hc hk s m args below hf hA hF happ hP
  obtain ⟨hcalls, hrest, hpre⟩ := hP
  obtain ⟨-, -, -, hnamed, -, -, -, hat⟩ := (Spec.applies_iff hf).mp happ
  obtain ⟨hg, hn⟩ := and_e (Cond.before_iff.mp (show (Jvm.Cond.and given_1 narrow_1).before args s = true from hpre))
  obtain ⟨hgl, hgr⟩ := and_e hg
  obtain ⟨w0, rfl⟩ : ∃ w0 : Value, args = #[w0] := by
    have hs : args.size = 1 := by simpa [Cond.value, given_1] using hgl
    obtain ⟨L⟩ := args
    match L, hs with
    | [w0], _ => exact ⟨w0, rfl⟩
  have hw := fun d (hd : d ∈ tables_1) => atoms_spec (ws := Jvm.Cond.code x code maxLocals ret :: tables_1) hat d (List.mem_cons_of_mem _ hd)
  have hfit : Fit s := fun {y c} hc i hi => by
    obtain ⟨ha, rfl⟩ := Array.getElem?_eq_some_iff.mp hc
    have q := List.all_eq_true.mp ((Array.all_eq_true_iff_forall_mem.mp hF) _ (Array.getElem_mem ha)) i (List.mem_range.mpr hi)
    simpa [Array.getElem?_eq_getElem hi] using q
  obtain ⟨i0, ei0⟩ := is_v hgr
  obtain rfl : w0 = (.int i0) := Option.some.inj ei0
  obtain ⟨hnl, hnr⟩ := and_e hn
  obtain ⟨hnrl, hnrr⟩ := and_e hnr
  obtain ⟨hnrrl, hnrrr⟩ := and_e hnrr
  obtain ⟨hnrrrl, hnrrrr⟩ := and_e hnrrr
  obtain ⟨hnrrrrl, hnrrrrr⟩ := and_e hnrrrr
  obtain ⟨hnrrrrrl, hnrrrrrr⟩ := and_e hnrrrrr
  obtain ⟨hnrrrrrrl, hnrrrrrrr⟩ := and_e hnrrrrrr
  obtain ⟨hnrrrrrrrl, hnrrrrrrrr⟩ := and_e hnrrrrrrr
  obtain ⟨hnrrrrrrrrl, hnrrrrrrrrr⟩ := and_e hnrrrrrrrr
  obtain ⟨hnrrrrrrrrrl, hnrrrrrrrrrr⟩ := and_e hnrrrrrrrrr
  obtain ⟨hnrrrrrrrrrrl, hnrrrrrrrrrrr⟩ := and_e hnrrrrrrrrrr
  obtain ⟨a_EQUAL, ev_EQUAL⟩ := exa_v hnl
  obtain ⟨a_LESS_OR_EQUAL, ev_LESS_OR_EQUAL⟩ := exa_v hnrl
  obtain ⟨a_NOT_EQUAL, ev_NOT_EQUAL⟩ := exa_v hnrrrrl
  obtain ⟨a_LESS, ev_LESS⟩ := exa_v hnrrrrrrl
  obtain ⟨a_GREATER_OR_EQUAL, ev_GREATER_OR_EQUAL⟩ := exa_v hnrrrrrrrrl
  obtain ⟨a_GREATER, ev_GREATER⟩ := exa_v hnrrrrrrrrrrl
  have HW : Wd s a_EQUAL a_LESS_OR_EQUAL a_NOT_EQUAL a_LESS a_GREATER_OR_EQUAL a_GREATER := ⟨Sta.start ev_EQUAL (Or.inr ⟨(hw _ (List.mem_of_getElem? (i := 6) rfl)), (hw _ (List.mem_of_getElem? (i := 7) rfl))⟩), Exa.start ev_EQUAL hnl, Sta.start ev_LESS_OR_EQUAL (Or.inr ⟨(hw _ (List.mem_of_getElem? (i := 6) rfl)), (hw _ (List.mem_of_getElem? (i := 15) rfl))⟩), Exa.start ev_LESS_OR_EQUAL hnrl, Sta.start ev_NOT_EQUAL (Or.inr ⟨(hw _ (List.mem_of_getElem? (i := 6) rfl)), (hw _ (List.mem_of_getElem? (i := 17) rfl))⟩), Exa.start ev_NOT_EQUAL hnrrrrl, Sta.start ev_LESS (Or.inr ⟨(hw _ (List.mem_of_getElem? (i := 6) rfl)), (hw _ (List.mem_of_getElem? (i := 19) rfl))⟩), Exa.start ev_LESS hnrrrrrrl, Sta.start ev_GREATER_OR_EQUAL (Or.inr ⟨(hw _ (List.mem_of_getElem? (i := 6) rfl)), (hw _ (List.mem_of_getElem? (i := 22) rfl))⟩), Exa.start ev_GREATER_OR_EQUAL hnrrrrrrrrl, Sta.start ev_GREATER (Or.inr ⟨(hw _ (List.mem_of_getElem? (i := 6) rfl)), (hw _ (List.mem_of_getElem? (i := 24) rfl))⟩), Exa.start ev_GREATER hnrrrrrrrrrrl, Fld.start ((fld_at ev_LESS_OR_EQUAL).symm.trans (eq_int hnrrl)), Fld.start ((fld_at ev_EQUAL).symm.trans (eq_int hnrrrl)), Fld.start ((fld_at ev_NOT_EQUAL).symm.trans (eq_int hnrrrrrl)), Fld.start ((fld_at ev_LESS).symm.trans (eq_int hnrrrrrrrl)), Fld.start ((fld_at ev_GREATER_OR_EQUAL).symm.trans (eq_int hnrrrrrrrrrl)), Fld.start ((fld_at ev_GREATER).symm.trans (eq_int hnrrrrrrrrrrr))⟩
  obtain ⟨n, o, h1, h2, h3, _, L, rfl, ⟨rfl, N⟩, hq⟩ := rm0 l s _ hw tables_1 a_EQUAL a_LESS_OR_EQUAL a_NOT_EQUAL a_LESS a_GREATER_OR_EQUAL a_GREATER HW i0 s.heap s.heap.size (Old.start s)  p e ha hc hk s m _ below hf ((Spec.applies_iff_loose hf).mp happ).1 ⟨rfl, State.Warmed39.refl s, rfl⟩ trivial
  refine ⟨n, _, h1, h2, h3, hpost _ _ _ _ _ _ ⟨Cond.after_iff.mpr rfl, Cond.after_iff.mpr (eq_i res_at (Term.int_eval (1)) rfl), trivial⟩ ⟨hq.1, hq.2.1, (hq.2.2.sift fun y hy => Or.inr (N y hy)).mono (by decide) (by decide)⟩⟩
theorem main_1_1 : Claimed_1_1 := comes_1 fun _ _ _ _ _ _ h hF => ⟨h.1, hF⟩
theorem main_1_2 : Claimed_1_2 := comes_1 fun _ _ _ _ _ _ h hF => ⟨h.2.1, hF⟩
end Jvm.Pilot.@@N@@
namespace Jvm.Pilot.@@N@@
open Jvm Jvm.ClassFile Sem Op Lib Jvm.Free Jvm.Stand Jvm.Pilot.@@N@@.Jvm.D
/-! MADE BY PROGRAM (witnessworld.py) out of the Statement's table words and the real class files: 10 classes; the members and pool entries that the words name. The judged class is class 1, her method 2. -/
namespace start1
open Jvm.ClassFile
def u (s : String) : CpInfo := .utf8 (stringToUtf16 s)
/-- a pool by its gaps: so many unusable entries, then the entry; so many at the end -/
def gap : Nat → List CpInfo → List CpInfo
  | 0, r => r
  | n + 1, r => .unusable :: gap n r
def poolList (es : List (Nat × CpInfo)) (last : Nat) : List CpInfo := es.foldr (fun e r => gap e.1 (e.2 :: r)) (gap last [])
def pool (es : List (Nat × CpInfo)) (last : Nat) : Array CpInfo := ⟨poolList es last⟩
def fileOf (pool : Array CpInfo) (this : Nat) (attrs : Array Attribute := #[]) (ms : Array MethodInfo := #[]) (fl : Nat := 33) (sup : Nat := 0) (ifs : Array Nat := #[]) (fds : Array FieldInfo := #[]) : ClassFile where
  minorVersion := 0
  majorVersion := 65
  constantPool := pool
  accessFlags := fl
  thisClass := this
  superClass := sup
  interfaces := ifs
  fields := fds
  methods := ms
  attributes := attrs
def plain (name : String) (sup : Option ClassId) : Class where
  name := name
  kind := .ordinary
  loader := none
  accessFlags := 33
  super := sup
  interfaces := #[]
  cf := none
  fields := #[]
  methods := #[]
  instanceTypes := #[]
  staticTypes := #[]
  resolved := #[]
  callSites := []
  init := .initialized
  statics := none
  mirror := none

def pool0 : Array CpInfo := pool [(5, u "<init>"), (0, u "()V"), (1, .class_ 10), (1, u "java/lang/Object")] 113

def k0m0 : Method := { name := "<init>", desc := "()V", sig := { parameters := [], returnType := none }, accessFlags := 1, code := none }
/-- java/lang/Object -/
def k0 : Class := { plain "java/lang/Object" none with
  accessFlags := 33
  interfaces := #[]
  cf := some (fileOf pool0 8 #[] #[{ accessFlags := 1, nameIndex := 5, descriptorIndex := 6, attributes := #[] }] 33 0 #[] #[])
  fields := #[]
  methods := #[k0m0]
  instanceTypes := #[]
  staticTypes := #[]
  resolved := Array.replicate 124 none
  statics := none }

def pool1 : Array CpInfo := pool [(2, .class_ 4), (1, u "java/lang/Object"), (0, u "<init>"), (0, u "()V"), (0, .fieldref 8 9), (0, .class_ 10), (0, .nameAndType 11 12), (0, u "com/example/wacl/wacl/core/Operator"), (0, u "EQUAL"), (0, u "Lcom/example/wacl/wacl/core/Operator;"), (0, .fieldref 8 14), (0, .nameAndType 15 12), (0, u "NOT_EQUAL"), (0, .fieldref 8 17), (0, .nameAndType 18 12), (0, u "LESS"), (0, .fieldref 8 20), (0, .nameAndType 21 12), (0, u "LESS_OR_EQUAL"), (0, .fieldref 8 23), (0, .nameAndType 24 12), (0, u "GREATER"), (0, .fieldref 8 26), (0, .nameAndType 27 12), (0, u "GREATER_OR_EQUAL"), (0, .integer 2147483647), (0, .methodref 30 31), (0, .class_ 32), (0, .nameAndType 33 34), (0, u "com/example/wacl/wacl/core/OperatorOrdersPinLaw"), (0, u "pick"), (0, u "(I)Lcom/example/wacl/wacl/core/Operator;"), (0, .methodref 8 36), (0, .nameAndType 37 38), (0, u "orders"), (0, u "()Z"), (3, u "law"), (0, u "(I)Z")] 2

def k1m0 : Method := { name := "<init>", desc := "()V", sig := { parameters := [], returnType := none }, accessFlags := 2, code := none }
def k1c1 : Code := { maxStack := 2, maxLocals := 1, code := method_2_code, exceptionTable := #[], attributes := #[] }
def k1m1 : Method := { name := "pick", desc := "(I)Lcom/example/wacl/wacl/core/Operator;", sig := { parameters := [.int], returnType := some (.object "com/example/wacl/wacl/core/Operator") }, accessFlags := 10, code := some k1c1 }
def k1c2 : Code := { maxStack := 2, maxLocals := 4, code := code, exceptionTable := #[], attributes := #[] }
def k1m2 : Method := { name := "law", desc := "(I)Z", sig := { parameters := [.int], returnType := some .boolean }, accessFlags := 9, code := some k1c2 }
/-- com/example/wacl/wacl/core/OperatorOrdersPinLaw -/
def k1 : Class := { plain "com/example/wacl/wacl/core/OperatorOrdersPinLaw" (some 0) with
  accessFlags := 49
  interfaces := #[]
  cf := some (fileOf pool1 30 #[] #[{ accessFlags := 2, nameIndex := 5, descriptorIndex := 6, attributes := #[] }, { accessFlags := 10, nameIndex := 33, descriptorIndex := 34, attributes := #[] }, { accessFlags := 9, nameIndex := 42, descriptorIndex := 43, attributes := #[] }] 49 2 #[] #[])
  fields := #[]
  methods := #[k1m0, k1m1, k1m2]
  instanceTypes := #[]
  staticTypes := #[]
  resolved := Array.replicate 46 none
  statics := none }

def pool2 : Array CpInfo := pool [(1, .class_ 2), (0, u "java/lang/constant/Constable"), (0, .class_ 4), (0, u "java/lang/Object")] 6

/-- java/lang/constant/Constable -/
def k2 : Class := { plain "java/lang/constant/Constable" (some 0) with
  accessFlags := 1537
  interfaces := #[]
  cf := some (fileOf pool2 1 #[] #[] 1537 3 #[] #[])
  fields := #[]
  methods := #[]
  instanceTypes := #[]
  staticTypes := #[]
  resolved := Array.replicate 11 none
  statics := none }

def pool3 : Array CpInfo := pool [(1, .class_ 2), (0, u "java/lang/Comparable"), (0, .class_ 4), (0, u "java/lang/Object")] 7

/-- java/lang/Comparable -/
def k3 : Class := { plain "java/lang/Comparable" (some 0) with
  accessFlags := 1537
  interfaces := #[]
  cf := some (fileOf pool3 1 #[] #[] 1537 3 #[] #[])
  fields := #[]
  methods := #[]
  instanceTypes := #[]
  staticTypes := #[]
  resolved := Array.replicate 12 none
  statics := none }

def pool4 : Array CpInfo := pool [(1, .class_ 2), (0, u "java/io/Serializable"), (0, .class_ 4), (0, u "java/lang/Object")] 2

/-- java/io/Serializable -/
def k4 : Class := { plain "java/io/Serializable" (some 0) with
  accessFlags := 1537
  interfaces := #[]
  cf := some (fileOf pool4 1 #[] #[] 1537 3 #[] #[])
  fields := #[]
  methods := #[]
  instanceTypes := #[]
  staticTypes := #[]
  resolved := Array.replicate 7 none
  statics := none }

def pool5 : Array CpInfo := pool [(2, .class_ 4), (1, u "java/lang/Enum"), (0, u "name"), (0, u "Ljava/lang/String;"), (2, u "ordinal"), (0, u "I"), (1, .class_ 14), (1, u "java/lang/Object"), (4, u "hash"), (86, .class_ 108), (1, u "java/lang/Enum$EnumDesc"), (2, .class_ 112), (0, u "java/lang/constant/Constable"), (0, .class_ 114), (0, u "java/lang/Comparable"), (0, .class_ 116), (0, u "java/io/Serializable")] 87

/-- java/lang/Enum -/
def k5 : Class := { plain "java/lang/Enum" (some 0) with
  accessFlags := 1057
  interfaces := #[2, 3, 4]
  cf := some (fileOf pool5 2 #[.nestMembers #[106]] #[] 1057 12 #[111, 113, 115] #[{ accessFlags := 18, nameIndex := 5, descriptorIndex := 6, attributes := #[] }, { accessFlags := 18, nameIndex := 9, descriptorIndex := 10, attributes := #[] }, { accessFlags := 2, nameIndex := 19, descriptorIndex := 10, attributes := #[] }])
  fields := #[{ name := "name", type := (.object "java/lang/String"), accessFlags := 18, slot := 0, constantValue := 0 }, { name := "ordinal", type := .int, accessFlags := 18, slot := 1, constantValue := 0 }, { name := "hash", type := .int, accessFlags := 2, slot := 2, constantValue := 0 }]
  methods := #[]
  instanceTypes := #[(.object "java/lang/String"), .int, .int]
  staticTypes := #[]
  resolved := Array.replicate 204 none
  statics := none }

def pool6 : Array CpInfo := pool [(1, .class_ 2), (0, u "com/example/wacl/wacl/core/Operator"), (0, .fieldref 1 4), (0, .nameAndType 5 6), (0, u "EQUAL"), (0, u "Lcom/example/wacl/wacl/core/Operator;"), (0, .fieldref 1 8), (0, .nameAndType 9 6), (0, u "NOT_EQUAL"), (2, u "LESS"), (2, u "LESS_OR_EQUAL"), (2, u "GREATER"), (2, u "GREATER_OR_EQUAL"), (2, u "$VALUES"), (0, u "[Lcom/example/wacl/wacl/core/Operator;"), (6, .class_ 34), (1, u "java/lang/Enum"), (8, u "symbol"), (0, u "Ljava/lang/String;"), (65, u "orders"), (0, u "()Z")] 9

def k6c0 : Code := { maxStack := 2, maxLocals := 1, code := prog_36_method_6_code, exceptionTable := #[], attributes := #[] }
def k6m0 : Method := { name := "orders", desc := "()Z", sig := { parameters := [], returnType := some .boolean }, accessFlags := 1, code := some k6c0 }
/-- com/example/wacl/wacl/core/Operator -/
def k6 : Class := { plain "com/example/wacl/wacl/core/Operator" (some 5) with
  accessFlags := 16433
  interfaces := #[]
  cf := some (fileOf pool6 1 #[] #[{ accessFlags := 1, nameIndex := 110, descriptorIndex := 111, attributes := #[] }] 16433 32 #[] #[{ accessFlags := 16409, nameIndex := 5, descriptorIndex := 6, attributes := #[] }, { accessFlags := 16409, nameIndex := 9, descriptorIndex := 6, attributes := #[] }, { accessFlags := 16409, nameIndex := 12, descriptorIndex := 6, attributes := #[] }, { accessFlags := 16409, nameIndex := 15, descriptorIndex := 6, attributes := #[] }, { accessFlags := 16409, nameIndex := 18, descriptorIndex := 6, attributes := #[] }, { accessFlags := 16409, nameIndex := 21, descriptorIndex := 6, attributes := #[] }, { accessFlags := 18, nameIndex := 43, descriptorIndex := 44, attributes := #[] }, { accessFlags := 4122, nameIndex := 24, descriptorIndex := 25, attributes := #[] }])
  fields := #[{ name := "EQUAL", type := (.object "com/example/wacl/wacl/core/Operator"), accessFlags := 16409, slot := 0, constantValue := 0 }, { name := "NOT_EQUAL", type := (.object "com/example/wacl/wacl/core/Operator"), accessFlags := 16409, slot := 1, constantValue := 0 }, { name := "LESS", type := (.object "com/example/wacl/wacl/core/Operator"), accessFlags := 16409, slot := 2, constantValue := 0 }, { name := "LESS_OR_EQUAL", type := (.object "com/example/wacl/wacl/core/Operator"), accessFlags := 16409, slot := 3, constantValue := 0 }, { name := "GREATER", type := (.object "com/example/wacl/wacl/core/Operator"), accessFlags := 16409, slot := 4, constantValue := 0 }, { name := "GREATER_OR_EQUAL", type := (.object "com/example/wacl/wacl/core/Operator"), accessFlags := 16409, slot := 5, constantValue := 0 }, { name := "symbol", type := (.object "java/lang/String"), accessFlags := 18, slot := 3, constantValue := 0 }, { name := "$VALUES", type := (.array (.object "com/example/wacl/wacl/core/Operator")), accessFlags := 4122, slot := 6, constantValue := 0 }]
  methods := #[k6m0]
  instanceTypes := #[(.object "java/lang/String"), .int, .int, (.object "java/lang/String")]
  staticTypes := #[(.object "com/example/wacl/wacl/core/Operator"), (.object "com/example/wacl/wacl/core/Operator"), (.object "com/example/wacl/wacl/core/Operator"), (.object "com/example/wacl/wacl/core/Operator"), (.object "com/example/wacl/wacl/core/Operator"), (.object "com/example/wacl/wacl/core/Operator"), (.array (.object "com/example/wacl/wacl/core/Operator"))]
  resolved := Array.replicate 121 none
  statics := some 0 }

def pool7 : Array CpInfo := pool [(1, u "java/lang/Cloneable"), (0, .class_ 1), (0, u "java/lang/Object"), (0, .class_ 3)] 3

/-- java/lang/Cloneable -/
def k7 : Class := { plain "java/lang/Cloneable" (some 0) with
  accessFlags := 1537
  interfaces := #[]
  cf := some (fileOf pool7 2 #[] #[] 1537 4 #[] #[])
  fields := #[]
  methods := #[]
  instanceTypes := #[]
  staticTypes := #[]
  resolved := Array.replicate 8 none
  statics := none }

/-- the primitive byte -/
def k8 : Class := { plain "byte" none with kind := .primitive 'B', accessFlags := 0x411 }
/-- [B -/
def k9 : Class := { plain "[B" (some 0) with kind := .array 8 .byte, interfaces := #[7, 4], accessFlags := 1041 }

def heap : Heap := #[{ cls := 6, slots := #[.ref 1, .ref 3, .ref 4, .ref 2, .ref 6, .ref 5, .null], vm := .statics 6 },
  { cls := 6, slots := #[.null, .int 0, .int 0, .null], vm := .none },
  { cls := 6, slots := #[.null, .int 3, .int 0, .null], vm := .none },
  { cls := 6, slots := #[.null, .int 1, .int 0, .null], vm := .none },
  { cls := 6, slots := #[.null, .int 2, .int 0, .null], vm := .none },
  { cls := 6, slots := #[.null, .int 5, .int 0, .null], vm := .none },
  { cls := 6, slots := #[.null, .int 4, .int 0, .null], vm := .none }]
def classes : Array Class := #[k0, k1, k2, k3, k4, k5, k6, k7, k8, k9]
def interned : List (Array UInt16 × Addr) := []
def slotsUsed : Nat := 31
def theMethod : MethodId := ⟨1, 2⟩
def args0 : Array Value := #[.int 5]
def aboutOver (below : List Frame) : State where
  vm := { classes := classes, interned := interned.toArray }
  heap := heap
  slotsUsed := slotsUsed
  threads := #[{ frames := .invoking theMethod args0 :: below }]
def below0 : List Frame := [.native { method := ⟨0, 0⟩, args := #[] }]
def about1 : State := aboutOver below0
def p0 : Program := .bare "" "" ""
def e0 : Env := launch0.env 0 0 0
theorem w_frames : about1.frames = Frame.invoking theMethod args0 :: below0 := rfl
set_option maxRecDepth 65536 in
theorem w_args : argsFit about1.vm theMethod args0 = true := by decide +kernel
set_option maxRecDepth 65536 in
theorem w_heap : heapFits about1 = true := by decide +kernel
set_option maxRecDepth 65536 in
theorem w_runnable : about1.curStatus? = some .runnable := by decide +kernel
set_option maxRecDepth 65536 in
theorem w_alone : about1.alone = true := by decide +kernel
set_option maxRecDepth 65536 in
theorem w_named : about1.methodNamed? x = some theMethod := by decide +kernel
set_option maxRecDepth 65536 in
theorem w_hears : about1.hears theMethod below0 = true := by decide +kernel
set_option maxRecDepth 65536 in
theorem w_ripe : about1.ripe theMethod args0 below0 = true := by decide +kernel
theorem w_running : about1.status = .running := rfl
set_option maxRecDepth 65536 in
theorem w_room : about1.hasRoom e0.platform room_1 = true :=
  launch0.hasRoom_least _ room_1 (by decide +kernel) (by decide +kernel) (by decide +kernel) (by decide +kernel) (by decide +kernel) (by decide +kernel)
theorem allAtoms_all (ts : List Jvm.Cond) (a : Array Jvm.Value) (st : Jvm.State) : (allAtoms ts).before a st = ts.all (fun c => c.before a st) := by
  induction ts with
  | nil => rfl
  | cons c t ih =>
    show (Jvm.Cond.and c (allAtoms t)).before a st = _
    rw [Jvm.Cond.before_and, ih, List.all_cons]
def words1 : List Jvm.Cond := Jvm.Cond.code x code maxLocals ret :: tables_1
/-- a 'code' word, met by the world's own term for the bytes: nothing is compared byte by byte -/
theorem code_word {y : MethodName} {bytes : ByteArray} {mx : Nat} {rt : Option FieldType} {a : Array Value} {s : State} {m : MethodId} {meth : Method} {c : Code} (h1 : s.methodNamed? y = some m) (h2 : s.vm.method? m = some meth) (h3 : meth.code = some c) (h4 : c.code = bytes)
    (h5 : (c.maxLocals == mx && c.exceptionTable.isEmpty && decide (c.maxStack ≤ mostOperands) && decide (meth.sig.returnType = rt) && !meth.locks && decide (parseMethodDescriptor y.desc = some meth.sig)) = true) : (Jvm.Cond.code y bytes mx rt).before a s = true := by
  simp only [Bool.and_eq_true, beq_iff_eq, Bool.not_eq_true', decide_eq_true_eq] at h5
  obtain ⟨⟨⟨⟨⟨g1, g2⟩, g3⟩, g4⟩, g5⟩, g6⟩ := h5
  simp [Cond.before, Cond.holds, Cond.value, h1, h2, h3, h4, g1, g2, g3, g4, g5, g6]
def isCode : Jvm.Cond → Bool
  | .code _ _ _ _ => true
  | _ => false
theorem all_split {L : List Jvm.Cond} {P : Jvm.Cond → Bool} (h1 : L.all (fun c => isCode c || P c) = true) (h2 : ∀ c ∈ L.filter isCode, P c = true) : L.all P = true := by
  refine List.all_eq_true.mpr fun c hc => ?_
  have h := List.all_eq_true.mp h1 c hc
  rcases Bool.eq_false_or_eq_true (isCode c) with hi | hi
  · exact h2 c (List.mem_filter.mpr ⟨hc, hi⟩)
  · simpa [hi] using h
set_option maxRecDepth 65536 in
theorem w_c0 : (Jvm.Cond.code x code maxLocals ret).before args0 about1 = true := code_word (m := ⟨1, 2⟩) (meth := k1m2) (c := k1c2) (by decide +kernel) rfl rfl rfl (by decide +kernel)
set_option maxRecDepth 65536 in
theorem w_c1 : (Jvm.Cond.code ({ cls := "com/example/wacl/wacl/core/OperatorOrdersPinLaw", name := "pick", desc := "(I)Lcom/example/wacl/wacl/core/Operator;" } : Jvm.MethodName) method_2_code (1 : Nat) (Option.some (Jvm.ClassFile.FieldType.object "com/example/wacl/wacl/core/Operator"))).before args0 about1 = true := code_word (m := ⟨1, 1⟩) (meth := k1m1) (c := k1c1) (by decide +kernel) rfl rfl rfl (by decide +kernel)
set_option maxRecDepth 65536 in
theorem w_c2 : (Jvm.Cond.code ({ cls := "com/example/wacl/wacl/core/Operator", name := "orders", desc := "()Z" } : Jvm.MethodName) prog_36_method_6_code (1 : Nat) (Option.some Jvm.ClassFile.FieldType.boolean)).before args0 about1 = true := code_word (m := ⟨6, 0⟩) (meth := k6m0) (c := k6c0) (by decide +kernel) rfl rfl rfl (by decide +kernel)
def codes1 : List Jvm.Cond := [Jvm.Cond.code x code maxLocals ret, Jvm.Cond.code ({ cls := "com/example/wacl/wacl/core/OperatorOrdersPinLaw", name := "pick", desc := "(I)Lcom/example/wacl/wacl/core/Operator;" } : Jvm.MethodName) method_2_code (1 : Nat) (Option.some (Jvm.ClassFile.FieldType.object "com/example/wacl/wacl/core/Operator")), Jvm.Cond.code ({ cls := "com/example/wacl/wacl/core/Operator", name := "orders", desc := "()Z" } : Jvm.MethodName) prog_36_method_6_code (1 : Nat) (Option.some Jvm.ClassFile.FieldType.boolean)]
set_option maxRecDepth 65536 in
theorem codes_eq : words1.filter isCode = codes1 := rfl
theorem w_codes : ∀ c ∈ words1.filter isCode, c.before args0 about1 = true := by
  rw [codes_eq]
  intro c hc
  simp only [codes1, List.mem_cons, List.not_mem_nil, or_false] at hc
  rcases hc with rfl | rfl | rfl
  · exact w_c0
  · exact w_c1
  · exact w_c2
set_option maxRecDepth 65536 in
theorem w_t1 : (words1.take 24).all (fun c => isCode c || c.before args0 about1) = true := by decide +kernel
set_option maxRecDepth 65536 in
theorem w_t2 : (words1.drop 24).all (fun c => isCode c || c.before args0 about1) = true := by decide +kernel
theorem w_tables : (allAtoms (Jvm.Cond.code x code maxLocals ret :: tables_1)).before args0 about1 = true := by
  rw [allAtoms_all]
  show words1.all (fun c => c.before args0 about1) = true
  refine all_split ?_ w_codes
  rw [← List.take_append_drop 24 words1, List.all_append, w_t1, w_t2]
  rfl
set_option maxRecDepth 65536 in
theorem w_case : (Jvm.Cond.and given_1 narrow_1).before args0 about1 = true := by decide +kernel
theorem w_applies : (headSpec (Jvm.Cond.code x code maxLocals ret :: tables_1) room_1).applies x e0.platform about1 = true :=
  (Spec.applies_iff w_frames).mpr ⟨w_running, w_runnable, w_alone, w_named, w_hears, w_ripe, w_room, w_tables⟩
theorem atStart : AtStart classFile x code maxLocals ret World_1 tables_1 room_1 Calls_1 rest_1 Pre_1 launch0 p0 e0 about1 theMethod args0 below0 :=
  ⟨lists_1, trivial, launch0.admits_env _ _ _, launch0.least_env, fairChoices_fair.cas, fairChoices_fair.clock, w_frames, w_args, w_heap, w_applies, trivial, trivial, w_case⟩
end start1
theorem witness_1 : WitnessClaimed_1 := ⟨start1.p0, start1.e0, start1.about1, start1.theMethod, start1.args0, start1.below0, start1.atStart⟩
end Jvm.Pilot.@@N@@
