import JvmDerived
import JvmDerived.Pilot.@@N@@Statement
import JvmDerived.Pilot.@@N@@Code
set_option linter.unusedVariables false
set_option linter.unusedSimpArgs false
@@BLOCK:NumsL.lean.txt@@
namespace Jvm.RoadKit
open Sem ClassFile Op Lib Jvm.Stand Jvm.Free Jvm.LawKit
section New
variable {p : Program} {l : Launch} {e : Env} {R : Room} {s : State} {m : MethodId} {args : Array Value} {below : List Frame} {meth : Method} {c : Code} {T : State} {locs : List Loc} {cells slots : Nat}
theorem retI (X : Stand p l e R s m args below meth c T locs cells slots) (hx : p.tables.exec = Jvm.exec) {pc : Nat} {Ls : Array Slot} {z : Int32} {rest : List Value} (hret : meth.sig.returnType = some .int) (hd : decode c.code pc = .ok (.ireturn, 1)) {fs : List Frame}
    (hl : ∀ (f : JFrame) (acts : List Action), f.method = m → f.locked = none → f.entered = [] → (doReturn e (T.setTop f) acts (some (.int z))).1 = T.setFrames fs) : Steps p.tables e below (T.setTop (mkF m pc Ls (.int z :: rest))) (T.setFrames fs) := by
  have hm' : T.vm.method? m = some meth := X.method'
  have hn : narrow .int (.int z) = .int z := rfl
  show Steps p.tables e below (T.setTop { method := m, pc := pc, locals := Ls, stack := _ :: rest, locked := none }) _
  jvm_step X.here [X.here.top, hx, hd, hm', hret, hn]
  first | (intro acts; rw [hl _ acts rfl rfl rfl]) | rw [hl _ _ rfl rfl rfl]
  exact Steps.refl _
end New
end Jvm.RoadKit
namespace Jvm.Pilot.@@N@@
open Jvm Jvm.ClassFile Sem Op Lib Jvm.Free Jvm.Stand Jvm.LawKit Jvm.RoadKit Bundle Jvm.Pilot.@@N@@.Jvm.D
/-- what a walk comes to, said forward -/
def Go (p : Program) (e : Env) (below : List Frame) (R : State → Outcome → Prop) (A : State) : Prop := ∃ t o, Steps p.tables e below A t ∧ R t o
def Fin1 (s : State) (below : List Frame) (Q : Option Value → Heap → List Loc → Prop) (K N : Nat) (t : State) (o : Outcome) : Prop := t.status = .running ∧ Ended t below o ∧ ∃ v L, o = .returned v ∧ Q v t.heap L ∧ FrameEnd s o t L K N
theorem Go.step {p : Program} {e : Env} {below : List Frame} {R : State → Outcome → Prop} {A B : State} (k : ∀ t, Steps p.tables e below A t → Steps p.tables e below B t) (h : Go p e below R A) : Go p e below R B := by
  obtain ⟨t, o, h1, h2⟩ := h
  exact ⟨t, o, k t h1, h2⟩
section GoRet
variable {p : Program} {l : Launch} {e : Env} {R : Room} {s : State} {m : MethodId} {args : Array Value} {below : List Frame} {meth : Method} {c : Code} {T : State} {locs : List Loc} {cells slots : Nat} {Q : Option Value → Heap → List Loc → Prop} {K N pc : Nat} {Ls : Array Slot} {rest : List Value}
theorem Go.retZ (X : Stand p l e R s m args below meth c T locs cells slots) (hx : p.tables.exec = Jvm.exec) {z : Int32} {t : FieldType} (hret : meth.sig.returnType = some t) (ht : t = .boolean ∨ t = .byte ∨ t = .char ∨ t = .short) (hlk : meth.locks = false) (hd : decode c.code pc = .ok (.ireturn, 1)) (hq : Q (some (.int (nar t z))) T.heap locs) (hc : cells ≤ K) (hn : slots ≤ N) : Go p e below (Fin1 s below Q K N) (T.setTop (mkF m pc Ls (.int z :: rest))) := by
  obtain ⟨fs, hr, hrun, hended, hW, hsame⟩ := X.leave (v := some (.int (nar t z))) (fun h => by rw [hret] at h; cases h) hlk
  exact ⟨_, _, retN X hx hret ht hd hr, hrun, hended, _, _, rfl, hq, ⟨_, rfl⟩, hW, hsame.mono hc hn⟩
theorem Go.retI (X : Stand p l e R s m args below meth c T locs cells slots) (hx : p.tables.exec = Jvm.exec) {z : Int32} (hret : meth.sig.returnType = some .int) (hlk : meth.locks = false) (hd : decode c.code pc = .ok (.ireturn, 1)) (hq : Q (some (.int z)) T.heap locs) (hc : cells ≤ K) (hn : slots ≤ N) : Go p e below (Fin1 s below Q K N) (T.setTop (mkF m pc Ls (.int z :: rest))) := by
  obtain ⟨fs, hr, hrun, hended, hW, hsame⟩ := X.leave (v := some (.int z)) (fun h => by rw [hret] at h; cases h) hlk
  exact ⟨_, _, Jvm.RoadKit.retI X hx hret hd hr, hrun, hended, _, _, rfl, hq, ⟨_, rfl⟩, hW, hsame.mono hc hn⟩
theorem Go.retJ (X : Stand p l e R s m args below meth c T locs cells slots) (hx : p.tables.exec = Jvm.exec) {z : Int64} (hret : meth.sig.returnType = some .long) (hlk : meth.locks = false) (hd : decode c.code pc = .ok (.lreturn, 1)) (hq : Q (some (.long z)) T.heap locs) (hc : cells ≤ K) (hn : slots ≤ N) : Go p e below (Fin1 s below Q K N) (T.setTop (mkF m pc Ls (.long z :: rest))) := by
  obtain ⟨fs, hr, hrun, hended, hW, hsame⟩ := X.leave (v := some (.long z)) (fun h => by rw [hret] at h; cases h) hlk
  exact ⟨_, _, retOut X hx hret rfl (Or.inr (Or.inl ⟨rfl, rfl, _, rfl⟩)) hd hr, hrun, hended, _, _, rfl, hq, ⟨_, rfl⟩, hW, hsame.mono hc hn⟩
theorem Go.retR (X : Stand p l e R s m args below meth c T locs cells slots) (hx : p.tables.exec = Jvm.exec) {w : Value} {t : FieldType} (hret : meth.sig.returnType = some t) (ht : t.isReference = true) (hw : w.isRef = true) (hlk : meth.locks = false) (hd : decode c.code pc = .ok (.areturn, 1)) (hq : Q (some w) T.heap locs) (hc : cells ≤ K) (hn : slots ≤ N) : Go p e below (Fin1 s below Q K N) (T.setTop (mkF m pc Ls (w :: rest))) := by
  obtain ⟨fs, hr, hrun, hended, hW, hsame⟩ := X.leave (v := some w) (fun h => by rw [hret] at h; cases h) hlk
  have hnw : narrow t w = w := by rcases ref_cases hw with rfl | ⟨a, rfl⟩ <;> cases t <;> first | rfl | (cases ht)
  exact ⟨_, _, retOut X hx hret hnw (Or.inr (Or.inr (Or.inr (Or.inr ⟨rfl, ht, hw⟩)))) hd hr, hrun, hended, _, _, rfl, hq, ⟨_, rfl⟩, hW, hsame.mono hc hn⟩
theorem Go.retV (X : Stand p l e R s m args below meth c T locs cells slots) (hx : p.tables.exec = Jvm.exec) (hret : meth.sig.returnType = none) (hlk : meth.locks = false) (hd : decode c.code pc = .ok (.return_, 1)) (hq : Q none T.heap locs) (hc : cells ≤ K) (hn : slots ≤ N) : Go p e below (Fin1 s below Q K N) (T.setTop (mkF m pc Ls [])) := by
  obtain ⟨fs, hr, hrun, hended, hW, hsame⟩ := X.leave (v := none) (fun _ => rfl) hlk
  exact ⟨_, _, X.returnOut hx hret hd hr, hrun, hended, _, _, rfl, hq, ⟨_, rfl⟩, hW, hsame.mono hc hn⟩
end GoRet
def Fin2 (s : State) (below : List Frame) (Q : Option Value → Heap → List Loc → Prop) (K N : Nat) (t : State) (o : Outcome) : Prop := t.status = .running ∧ Ended t below o ∧ ∃ v L, o = .returned v ∧ Q v t.heap L ∧ ReturnedEndW s o t L K N
theorem wmono {s t : State} {o : Outcome} {L : List Loc} {k n k' n' : Nat} (h : ReturnedEndW s o t L k n) (h1 : k ≤ k') (h2 : n ≤ n') : ReturnedEndW s o t L k' n' := ⟨h.1, h.2.1, h.2.2.1, h.2.2.2.mono h1 h2⟩
section GoRetW
variable {p : Program} {l : Launch} {e : Env} {R : Room} {s : State} {vm0 : Vm} {m : MethodId} {args : Array Value} {below : List Frame} {meth : Method} {c : Code} {T : State} {locs : List Loc} {cells slots : Nat} {Q : Option Value → Heap → List Loc → Prop} {K N pc k0 : Nat} {Ls : Array Slot} {rest : List Value}
theorem GoW.retZ (X : Stand p l e R (s.setVm vm0) m args below meth c T locs cells slots) (hS : s.Since vm0 k0) (hk : k0 ≤ T.heap.size) (hx : p.tables.exec = Jvm.exec) {z : Int32} {t : FieldType} (hret : meth.sig.returnType = some t) (ht : t = .boolean ∨ t = .byte ∨ t = .char ∨ t = .short) (hlk : meth.locks = false) (hd : decode c.code pc = .ok (.ireturn, 1)) (hq : Q (some (.int (nar t z))) T.heap locs) (hc : cells ≤ K) (hn : slots ≤ N) : Go p e below (Fin2 s below Q K N) (T.setTop (mkF m pc Ls (.int z :: rest))) := by
  obtain ⟨fs, hr, hrun, hended, hW⟩ := X.leaveW hS hk (v := some (.int (nar t z))) (fun h => by rw [hret] at h; cases h) hlk
  exact ⟨_, _, retN X hx hret ht hd hr, hrun, hended, _, _, rfl, hq, wmono hW hc hn⟩
theorem GoW.retI (X : Stand p l e R (s.setVm vm0) m args below meth c T locs cells slots) (hS : s.Since vm0 k0) (hk : k0 ≤ T.heap.size) (hx : p.tables.exec = Jvm.exec) {z : Int32} (hret : meth.sig.returnType = some .int) (hlk : meth.locks = false) (hd : decode c.code pc = .ok (.ireturn, 1)) (hq : Q (some (.int z)) T.heap locs) (hc : cells ≤ K) (hn : slots ≤ N) : Go p e below (Fin2 s below Q K N) (T.setTop (mkF m pc Ls (.int z :: rest))) := by
  obtain ⟨fs, hr, hrun, hended, hW⟩ := X.leaveW hS hk (v := some (.int z)) (fun h => by rw [hret] at h; cases h) hlk
  exact ⟨_, _, Jvm.RoadKit.retI X hx hret hd hr, hrun, hended, _, _, rfl, hq, wmono hW hc hn⟩
theorem GoW.retR (X : Stand p l e R (s.setVm vm0) m args below meth c T locs cells slots) (hS : s.Since vm0 k0) (hk : k0 ≤ T.heap.size) (hx : p.tables.exec = Jvm.exec) {w : Value} {t : FieldType} (hret : meth.sig.returnType = some t) (ht : t.isReference = true) (hw : w.isRef = true) (hlk : meth.locks = false) (hd : decode c.code pc = .ok (.areturn, 1)) (hq : Q (some w) T.heap locs) (hc : cells ≤ K) (hn : slots ≤ N) : Go p e below (Fin2 s below Q K N) (T.setTop (mkF m pc Ls (w :: rest))) := by
  obtain ⟨fs, hr, hrun, hended, hW⟩ := X.leaveW hS hk (v := some w) (fun h => by rw [hret] at h; cases h) hlk
  have hnw : narrow t w = w := by rcases ref_cases hw with rfl | ⟨a, rfl⟩ <;> cases t <;> first | rfl | (cases ht)
  exact ⟨_, _, retOut X hx hret hnw (Or.inr (Or.inr (Or.inr (Or.inr ⟨rfl, ht, hw⟩)))) hd hr, hrun, hended, _, _, rfl, hq, wmono hW hc hn⟩
theorem GoW.retV (X : Stand p l e R (s.setVm vm0) m args below meth c T locs cells slots) (hS : s.Since vm0 k0) (hk : k0 ≤ T.heap.size) (hx : p.tables.exec = Jvm.exec) (hret : meth.sig.returnType = none) (hlk : meth.locks = false) (hd : decode c.code pc = .ok (.return_, 1)) (hq : Q none T.heap locs) (hc : cells ≤ K) (hn : slots ≤ N) : Go p e below (Fin2 s below Q K N) (T.setTop (mkF m pc Ls [])) := by
  obtain ⟨fs, hr, hrun, hended, hW⟩ := X.leaveW hS hk (v := none) (fun _ => rfl) hlk
  exact ⟨_, _, X.returnOut hx hret hd hr, hrun, hended, _, _, rfl, hq, wmono hW hc hn⟩
end GoRetW
theorem old_z0 {Z : State} {n0 : Nat} {h : Heap} (O : Old Z n0 h) : n0 ≤ h.size := O.1 ▸ O.2.1
theorem eq_long {args : Array Value} {s : State} {t : Term} {z : Int64} (h : (Jvm.Cond.eq t (.long z)).value args s none s [] = some true) : t.eval args s none [] s = some (.long z) := by
  simp only [Cond.value, Term.eval] at h
  cases e : t.eval args s none [] s with
  | none => simp [e] at h
  | some v => cases v <;> simp_all
theorem eq_int {args : Array Value} {s : State} {t : Term} {z : Int32} (h : (Jvm.Cond.eq t (.int z)).value args s none s [] = some true) : t.eval args s none [] s = some (.int z) := by
  simp only [Cond.value, Term.eval] at h
  cases e : t.eval args s none [] s with
  | none => simp [e] at h
  | some v => cases v <;> simp_all
def Wd (Z : State) (a_ALWAYS_COMPATIBLE : Addr) (a_BACKWARD_TRANSITIVE : Addr) (a_FULL : Addr) (a_BACKWARD : Addr) (a_FULL_TRANSITIVE : Addr) (a_ALWAYS_INCOMPATIBLE : Addr) (a_FORWARD : Addr) (a_FORWARD_TRANSITIVE : Addr) : Prop := (Sta Z Z.heap "com/example/onward_schema/onwardschema/model/CompatibilityStrategy" "ALWAYS_COMPATIBLE" "Lcom/example/onward_schema/onwardschema/model/CompatibilityStrategy;" (.ref a_ALWAYS_COMPATIBLE)) ∧ (Exa Z Z.heap a_ALWAYS_COMPATIBLE "com/example/onward_schema/onwardschema/model/CompatibilityStrategy") ∧ (Sta Z Z.heap "com/example/onward_schema/onwardschema/model/CompatibilityStrategy" "BACKWARD_TRANSITIVE" "Lcom/example/onward_schema/onwardschema/model/CompatibilityStrategy;" (.ref a_BACKWARD_TRANSITIVE)) ∧ (Exa Z Z.heap a_BACKWARD_TRANSITIVE "com/example/onward_schema/onwardschema/model/CompatibilityStrategy") ∧ (Sta Z Z.heap "com/example/onward_schema/onwardschema/model/CompatibilityStrategy" "FULL" "Lcom/example/onward_schema/onwardschema/model/CompatibilityStrategy;" (.ref a_FULL)) ∧ (Exa Z Z.heap a_FULL "com/example/onward_schema/onwardschema/model/CompatibilityStrategy") ∧ (Sta Z Z.heap "com/example/onward_schema/onwardschema/model/CompatibilityStrategy" "BACKWARD" "Lcom/example/onward_schema/onwardschema/model/CompatibilityStrategy;" (.ref a_BACKWARD)) ∧ (Exa Z Z.heap a_BACKWARD "com/example/onward_schema/onwardschema/model/CompatibilityStrategy") ∧ (Sta Z Z.heap "com/example/onward_schema/onwardschema/model/CompatibilityStrategy" "FULL_TRANSITIVE" "Lcom/example/onward_schema/onwardschema/model/CompatibilityStrategy;" (.ref a_FULL_TRANSITIVE)) ∧ (Exa Z Z.heap a_FULL_TRANSITIVE "com/example/onward_schema/onwardschema/model/CompatibilityStrategy") ∧ (Sta Z Z.heap "com/example/onward_schema/onwardschema/model/CompatibilityStrategy" "ALWAYS_INCOMPATIBLE" "Lcom/example/onward_schema/onwardschema/model/CompatibilityStrategy;" (.ref a_ALWAYS_INCOMPATIBLE)) ∧ (Exa Z Z.heap a_ALWAYS_INCOMPATIBLE "com/example/onward_schema/onwardschema/model/CompatibilityStrategy") ∧ (Sta Z Z.heap "com/example/onward_schema/onwardschema/model/CompatibilityStrategy" "FORWARD" "Lcom/example/onward_schema/onwardschema/model/CompatibilityStrategy;" (.ref a_FORWARD)) ∧ (Exa Z Z.heap a_FORWARD "com/example/onward_schema/onwardschema/model/CompatibilityStrategy") ∧ (Sta Z Z.heap "com/example/onward_schema/onwardschema/model/CompatibilityStrategy" "FORWARD_TRANSITIVE" "Lcom/example/onward_schema/onwardschema/model/CompatibilityStrategy;" (.ref a_FORWARD_TRANSITIVE)) ∧ (Exa Z Z.heap a_FORWARD_TRANSITIVE "com/example/onward_schema/onwardschema/model/CompatibilityStrategy") ∧ (Fld Z Z.heap a_ALWAYS_COMPATIBLE "com/example/onward_schema/onwardschema/model/CompatibilityStrategy" "backward" "Z" (.int (0 : Int32))) ∧ (Fld Z Z.heap a_ALWAYS_COMPATIBLE "com/example/onward_schema/onwardschema/model/CompatibilityStrategy" "forward" "Z" (.int (0 : Int32))) ∧ (Fld Z Z.heap a_BACKWARD_TRANSITIVE "com/example/onward_schema/onwardschema/model/CompatibilityStrategy" "backward" "Z" (.int (1 : Int32))) ∧ (Fld Z Z.heap a_BACKWARD_TRANSITIVE "com/example/onward_schema/onwardschema/model/CompatibilityStrategy" "transitive" "Z" (.int (1 : Int32))) ∧ (Fld Z Z.heap a_FULL "com/example/onward_schema/onwardschema/model/CompatibilityStrategy" "backward" "Z" (.int (1 : Int32))) ∧ (Fld Z Z.heap a_FULL "com/example/onward_schema/onwardschema/model/CompatibilityStrategy" "transitive" "Z" (.int (0 : Int32))) ∧ (Fld Z Z.heap a_BACKWARD "com/example/onward_schema/onwardschema/model/CompatibilityStrategy" "backward" "Z" (.int (1 : Int32))) ∧ (Fld Z Z.heap a_BACKWARD "com/example/onward_schema/onwardschema/model/CompatibilityStrategy" "transitive" "Z" (.int (0 : Int32))) ∧ (Fld Z Z.heap a_FULL_TRANSITIVE "com/example/onward_schema/onwardschema/model/CompatibilityStrategy" "backward" "Z" (.int (1 : Int32))) ∧ (Fld Z Z.heap a_FULL_TRANSITIVE "com/example/onward_schema/onwardschema/model/CompatibilityStrategy" "transitive" "Z" (.int (1 : Int32))) ∧ (Fld Z Z.heap a_ALWAYS_INCOMPATIBLE "com/example/onward_schema/onwardschema/model/CompatibilityStrategy" "backward" "Z" (.int (0 : Int32))) ∧ (Fld Z Z.heap a_ALWAYS_INCOMPATIBLE "com/example/onward_schema/onwardschema/model/CompatibilityStrategy" "forward" "Z" (.int (0 : Int32))) ∧ (Fld Z Z.heap a_FORWARD "com/example/onward_schema/onwardschema/model/CompatibilityStrategy" "backward" "Z" (.int (0 : Int32))) ∧ (Fld Z Z.heap a_FORWARD "com/example/onward_schema/onwardschema/model/CompatibilityStrategy" "forward" "Z" (.int (1 : Int32))) ∧ (Fld Z Z.heap a_FORWARD "com/example/onward_schema/onwardschema/model/CompatibilityStrategy" "transitive" "Z" (.int (0 : Int32))) ∧ (Fld Z Z.heap a_FORWARD_TRANSITIVE "com/example/onward_schema/onwardschema/model/CompatibilityStrategy" "backward" "Z" (.int (0 : Int32))) ∧ (Fld Z Z.heap a_FORWARD_TRANSITIVE "com/example/onward_schema/onwardschema/model/CompatibilityStrategy" "forward" "Z" (.int (1 : Int32))) ∧ (Fld Z Z.heap a_FORWARD_TRANSITIVE "com/example/onward_schema/onwardschema/model/CompatibilityStrategy" "transitive" "Z" (.int (1 : Int32))) ∧ (Fld Z Z.heap a_ALWAYS_COMPATIBLE "com/example/onward_schema/onwardschema/model/CompatibilityStrategy" "transitive" "Z" (.int (0 : Int32))) ∧ (Fld Z Z.heap a_BACKWARD_TRANSITIVE "com/example/onward_schema/onwardschema/model/CompatibilityStrategy" "forward" "Z" (.int (0 : Int32))) ∧ (Fld Z Z.heap a_FULL "com/example/onward_schema/onwardschema/model/CompatibilityStrategy" "forward" "Z" (.int (1 : Int32))) ∧ (Fld Z Z.heap a_BACKWARD "com/example/onward_schema/onwardschema/model/CompatibilityStrategy" "forward" "Z" (.int (0 : Int32))) ∧ (Fld Z Z.heap a_FULL_TRANSITIVE "com/example/onward_schema/onwardschema/model/CompatibilityStrategy" "forward" "Z" (.int (1 : Int32))) ∧ (Fld Z Z.heap a_ALWAYS_INCOMPATIBLE "com/example/onward_schema/onwardschema/model/CompatibilityStrategy" "transitive" "Z" (.int (0 : Int32)))
theorem i32_is {k : Int32} (z : Int32) (h : k.toInt = z.toInt) : k = z := Int32.toInt_inj.mp h
theorem rem_bd (x m : Int32) (hm : 0 < m.toInt) : 0 ≤ ((x &&& (2147483647 : Int32)) % m).toInt ∧ ((x &&& (2147483647 : Int32)) % m).toInt < m.toInt := by
  have e1 : (x &&& (2147483647 : Int32)).toInt = x.toInt % 2 ^ 31 := Jvm.Kit.i32_mask x 2147483647 (k := 31) (by decide) (by decide)
  have h0 : 0 ≤ (x &&& (2147483647 : Int32)).toInt := by rw [e1]; exact Int.emod_nonneg _ (by decide)
  rw [Jvm.Kit.i32_rem_nonneg h0]
  exact ⟨Int.emod_nonneg _ (by omega), Int.emod_lt_of_pos _ hm⟩
theorem cs8 {k : Int32} (h : 0 ≤ k.toInt ∧ k.toInt < 8) : k = (0 : Int32) ∨ k = (1 : Int32) ∨ k = (2 : Int32) ∨ k = (3 : Int32) ∨ k = (4 : Int32) ∨ k = (5 : Int32) ∨ k = (6 : Int32) ∨ k = (7 : Int32) := by
  have q : k.toInt = 0 ∨ k.toInt = 1 ∨ k.toInt = 2 ∨ k.toInt = 3 ∨ k.toInt = 4 ∨ k.toInt = 5 ∨ k.toInt = 6 ∨ k.toInt = 7 := by omega
  rcases q with q | q | q | q | q | q | q | q
  · exact Or.inl (i32_is 0 q)
  · exact Or.inr (Or.inl (i32_is 1 q))
  · exact Or.inr (Or.inr (Or.inl (i32_is 2 q)))
  · exact Or.inr (Or.inr (Or.inr (Or.inl (i32_is 3 q))))
  · exact Or.inr (Or.inr (Or.inr (Or.inr (Or.inl (i32_is 4 q)))))
  · exact Or.inr (Or.inr (Or.inr (Or.inr (Or.inr (Or.inl (i32_is 5 q))))))
  · exact Or.inr (Or.inr (Or.inr (Or.inr (Or.inr (Or.inr (Or.inl (i32_is 6 q)))))))
  · exact Or.inr (Or.inr (Or.inr (Or.inr (Or.inr (Or.inr (Or.inr ((i32_is 7 q))))))))
theorem and7_bd (x : Int32) : 0 ≤ (x &&& (7 : Int32)).toInt ∧ (x &&& (7 : Int32)).toInt < 8 := by
  have e1 : (x &&& (7 : Int32)).toInt = x.toInt % 2 ^ 3 := Jvm.Kit.i32_mask x 7 (k := 3) (by decide) (by decide)
  omega
theorem d1_0 : decode method_2_code 0 = .ok (.iload_n 0, 1) := by decide +kernel
theorem d1_1 : decode method_2_code 1 = .ok (.ifCond .ne 7, 3) := by decide +kernel
theorem d1_4 : decode method_2_code 4 = .ok (.getstatic 7, 3) := by decide +kernel
theorem d1_7 : decode method_2_code 7 = .ok (.areturn, 1) := by decide +kernel
theorem d1_8 : decode method_2_code 8 = .ok (.iload_n 0, 1) := by decide +kernel
theorem d1_9 : decode method_2_code 9 = .ok (.iconst 1, 1) := by decide +kernel
theorem d1_10 : decode method_2_code 10 = .ok (.if_icmp .ne 7, 3) := by decide +kernel
theorem d1_13 : decode method_2_code 13 = .ok (.getstatic 13, 3) := by decide +kernel
theorem d1_16 : decode method_2_code 16 = .ok (.areturn, 1) := by decide +kernel
theorem d1_17 : decode method_2_code 17 = .ok (.iload_n 0, 1) := by decide +kernel
theorem d1_18 : decode method_2_code 18 = .ok (.iconst 2, 1) := by decide +kernel
theorem d1_19 : decode method_2_code 19 = .ok (.if_icmp .ne 7, 3) := by decide +kernel
theorem d1_22 : decode method_2_code 22 = .ok (.getstatic 16, 3) := by decide +kernel
theorem d1_25 : decode method_2_code 25 = .ok (.areturn, 1) := by decide +kernel
theorem d1_26 : decode method_2_code 26 = .ok (.iload_n 0, 1) := by decide +kernel
theorem d1_27 : decode method_2_code 27 = .ok (.iconst 3, 1) := by decide +kernel
theorem d1_28 : decode method_2_code 28 = .ok (.if_icmp .ne 7, 3) := by decide +kernel
theorem d1_31 : decode method_2_code 31 = .ok (.getstatic 19, 3) := by decide +kernel
theorem d1_34 : decode method_2_code 34 = .ok (.areturn, 1) := by decide +kernel
theorem d1_35 : decode method_2_code 35 = .ok (.iload_n 0, 1) := by decide +kernel
theorem d1_36 : decode method_2_code 36 = .ok (.iconst 4, 1) := by decide +kernel
theorem d1_37 : decode method_2_code 37 = .ok (.if_icmp .ne 7, 3) := by decide +kernel
theorem d1_40 : decode method_2_code 40 = .ok (.getstatic 22, 3) := by decide +kernel
theorem d1_43 : decode method_2_code 43 = .ok (.areturn, 1) := by decide +kernel
theorem d1_44 : decode method_2_code 44 = .ok (.iload_n 0, 1) := by decide +kernel
theorem d1_45 : decode method_2_code 45 = .ok (.iconst 5, 1) := by decide +kernel
theorem d1_46 : decode method_2_code 46 = .ok (.if_icmp .ne 7, 3) := by decide +kernel
theorem d1_49 : decode method_2_code 49 = .ok (.getstatic 25, 3) := by decide +kernel
theorem d1_52 : decode method_2_code 52 = .ok (.areturn, 1) := by decide +kernel
theorem d1_53 : decode method_2_code 53 = .ok (.iload_n 0, 1) := by decide +kernel
theorem d1_54 : decode method_2_code 54 = .ok (.bipush 6, 2) := by decide +kernel
theorem d1_56 : decode method_2_code 56 = .ok (.if_icmp .ne 7, 3) := by decide +kernel
theorem d1_59 : decode method_2_code 59 = .ok (.getstatic 28, 3) := by decide +kernel
theorem d1_62 : decode method_2_code 62 = .ok (.areturn, 1) := by decide +kernel
theorem d1_63 : decode method_2_code 63 = .ok (.getstatic 31, 3) := by decide +kernel
theorem d1_66 : decode method_2_code 66 = .ok (.areturn, 1) := by decide +kernel
theorem pn_0 : plainName "com/example/onward_schema/onwardschema/model/CompatibilityStrategyReaderSidePinLaw" = true := by first | (simp [plainName, overriddenIn]; done) | decide +kernel
theorem ef_rm1 (m : MethodId) (x0 : Int32)  : entryFrame m #[(.int x0)] 1 = mkF m 0 #[.val (.int x0)] [] := by first | (simp [entryFrame, mkF, argsToLocals, Value.category]; done) | rfl
def Q_rm1 (Z : State) (a_ALWAYS_COMPATIBLE : Addr) (a_BACKWARD_TRANSITIVE : Addr) (a_FULL : Addr) (a_BACKWARD : Addr) (a_FULL_TRANSITIVE : Addr) (a_ALWAYS_INCOMPATIBLE : Addr) (a_FORWARD : Addr) (a_FORWARD_TRANSITIVE : Addr) (k : Int32) (res : Addr) (h0 : Heap) (n0 : Nat) (v : Option Value) (h : Heap) (L : List Loc) : Prop := v = some (.ref res) ∧ Fr n0 L ∧ h = h0
set_option maxRecDepth 65536 in
set_option maxHeartbeats 40000000 in
theorem rm1 (l : Launch) (Z : State) (a0 : Array Value) (hw : ∀ d ∈ tables_1, d.before a0 Z = true) (ws : List Jvm.Cond) (a_ALWAYS_COMPATIBLE : Addr) (a_BACKWARD_TRANSITIVE : Addr) (a_FULL : Addr) (a_BACKWARD : Addr) (a_FULL_TRANSITIVE : Addr) (a_ALWAYS_INCOMPATIBLE : Addr) (a_FORWARD : Addr) (a_FORWARD_TRANSITIVE : Addr) (HW : Wd Z a_ALWAYS_COMPATIBLE a_BACKWARD_TRANSITIVE a_FULL a_BACKWARD a_FULL_TRANSITIVE a_ALWAYS_INCOMPATIBLE a_FORWARD a_FORWARD_TRANSITIVE) (k : Int32) (res : Addr) (h0 : Heap) (n0 : Nat) (Ol : Old Z n0 h0)  (hres : (if k = (0 : Int32) then a_ALWAYS_COMPATIBLE else if k = (1 : Int32) then a_ALWAYS_INCOMPATIBLE else if k = (2 : Int32) then a_BACKWARD else if k = (3 : Int32) then a_BACKWARD_TRANSITIVE else if k = (4 : Int32) then a_FORWARD else if k = (5 : Int32) then a_FORWARD_TRANSITIVE else if k = (6 : Int32) then a_FULL else a_FULL_TRANSITIVE) = res) :
    MetFree l (⟨"com/example/onward_schema/onwardschema/model/CompatibilityStrategyReaderSidePinLaw", "pick", "(I)Lcom/example/onward_schema/onwardschema/model/CompatibilityStrategy;"⟩ : MethodName) (head1 (Jvm.Cond.code (⟨"com/example/onward_schema/onwardschema/model/CompatibilityStrategyReaderSidePinLaw", "pick", "(I)Lcom/example/onward_schema/onwardschema/model/CompatibilityStrategy;"⟩ : MethodName) method_2_code 1 (some (.object "com/example/onward_schema/onwardschema/model/CompatibilityStrategy")) :: ws) ({ frames := 0, cells := 0, slots := 0, locals := 0 } : Room)) (fun a U => a = #[(.int k)] ∧ Z.Warmed39 U.vm ∧ U.heap = h0) (fun _ _ _ _ _ => True) (fun _ U o U' => ∃ v L, o = .returned v ∧ Q_rm1 Z a_ALWAYS_COMPATIBLE a_BACKWARD_TRANSITIVE a_FULL a_BACKWARD a_FULL_TRANSITIVE a_ALWAYS_INCOMPATIBLE a_FORWARD a_FORWARD_TRANSITIVE k res h0 n0 v U'.heap L ∧ FrameEnd U o U' L ({ frames := 0, cells := 0, slots := 0, locals := 0 } : Room).cells ({ frames := 0, cells := 0, slots := 0, locals := 0 } : Room).slots) := by
  refine MetFree.of_bodySF (plainFor_of_name pn_0) hisR ?_
  intro p e s m args below meth c s₁ Bd hml0 hP hK
  obtain ⟨rfl, hZ, hh⟩ := hP
  have hx := Bd.exec
  have hby := Bd.bytes
  have hml : c.maxLocals = 1 := hml0
  have hown : s.vm.findClass "com/example/onward_schema/onwardschema/model/CompatibilityStrategyReaderSidePinLaw" = some m.cls := findClass_of_methodNamed Bd.named
  have hnm := (name_of_methodNamed Bd.named Bd.method).1
  have X0 : Stand p l e ({ frames := 0, cells := 0, slots := 0, locals := 0 } : Room) s m #[(.int k)] below meth c s₁ [] 0 0 := Stand.of_body Bd
  have e0 : s₁.heap = h0 := by rw [← hh, Bd.state]; rfl
  have N0 := Fr.nil n0
  have kp0 := Keep.refl h0 []
  show Go p e below (Fin1 s below (Q_rm1 Z a_ALWAYS_COMPATIBLE a_BACKWARD_TRANSITIVE a_FULL a_BACKWARD a_FULL_TRANSITIVE a_ALWAYS_INCOMPATIBLE a_FORWARD a_FORWARD_TRANSITIVE k res h0 n0) ({ frames := 0, cells := 0, slots := 0, locals := 0 } : Room).cells ({ frames := 0, cells := 0, slots := 0, locals := 0 } : Room).slots) _
  refine Go.step (fun t_ k_ => castTop (ef_rm1 m k) k_) ?_
  obtain ⟨S_ALWAYS_COMPATIBLE, E_ALWAYS_COMPATIBLE, S_BACKWARD_TRANSITIVE, E_BACKWARD_TRANSITIVE, S_FULL, E_FULL, S_BACKWARD, E_BACKWARD, S_FULL_TRANSITIVE, E_FULL_TRANSITIVE, S_ALWAYS_INCOMPATIBLE, E_ALWAYS_INCOMPATIBLE, S_FORWARD, E_FORWARD, S_FORWARD_TRANSITIVE, E_FORWARD_TRANSITIVE, F_ALWAYS_COMPATIBLE_backward, F_ALWAYS_COMPATIBLE_forward, F_BACKWARD_TRANSITIVE_backward, F_BACKWARD_TRANSITIVE_transitive, F_FULL_backward, F_FULL_transitive, F_BACKWARD_backward, F_BACKWARD_transitive, F_FULL_TRANSITIVE_backward, F_FULL_TRANSITIVE_transitive, F_ALWAYS_INCOMPATIBLE_backward, F_ALWAYS_INCOMPATIBLE_forward, F_FORWARD_backward, F_FORWARD_forward, F_FORWARD_transitive, F_FORWARD_TRANSITIVE_backward, F_FORWARD_TRANSITIVE_forward, F_FORWARD_TRANSITIVE_transitive, F_ALWAYS_COMPATIBLE_transitive, F_BACKWARD_TRANSITIVE_forward, F_FULL_forward, F_BACKWARD_forward, F_FULL_TRANSITIVE_forward, F_ALWAYS_INCOMPATIBLE_transitive⟩ := id HW
  show Go p e below _ (s₁.setTop (mkF m 0 #[.val (.int k)] []))
  refine Go.step (fun t_ k_ => XS.iloadN X0.here hx rfl (hb hby d1_0) rfl k_) ?_
  show Go p e below _ (s₁.setTop (mkF m 1 #[.val (.int k)] [(.int k)]))
  by_cases hc1 : k = (0 : Int32)
  case pos =>
    refine Go.step (fun t_ k_ => XS.ifNo X0.here hx rfl (hb hby d1_1) rfl ((if0 _ _).trans (teq hc1).2) k_) ?_
    show Go p e below _ (s₁.setTop (mkF m 4 #[.val (.int k)] []))
    obtain ⟨T1, X1, e1, st1⟩ := getS2 X0 hx hZ hown (host := "") (Or.inl (hw _ (List.mem_of_getElem? (i := 4) rfl))) Via.refl e0 (S_ALWAYS_COMPATIBLE.ext Ol.2) (g := (mkF m 4 #[.val (.int k)] [])) rfl (hb hby d1_4)
    refine Go.step st1 ?_
    show Go p e below _ (T1.setTop (mkF m 7 #[.val (.int k)] [(.ref a_ALWAYS_COMPATIBLE)]))
    refine Go.retR X1 hx Bd.returns rfl rfl Bd.notSynchronized (hb hby d1_7) (by rw [e1]; exact ⟨by rw [← hres]; first | (simp [if_pos hc1]; done) | (simp [hc1]; done) | (simp_all; done), N0, rfl⟩) (by decide) (by decide)
  case neg =>
    refine Go.step (fun t_ k_ => XS.ifYes X0.here hx rfl (pc0 := 1) (pc' := 8) rfl (hb hby d1_1) rfl ((if0 _ _).trans (feq hc1).2) (by decide) (by decide) k_) ?_
    show Go p e below _ (s₁.setTop (mkF m 8 #[.val (.int k)] []))
    refine Go.step (fun t_ k_ => XS.iloadN X0.here hx rfl (hb hby d1_8) rfl k_) ?_
    show Go p e below _ (s₁.setTop (mkF m 9 #[.val (.int k)] [(.int k)]))
    refine Go.step (fun t_ k_ => XS.iconst X0.here hx rfl (hb hby d1_9) k_) ?_
    show Go p e below _ (s₁.setTop (mkF m 10 #[.val (.int k)] [(.int (1 : Int32)), (.int k)]))
    by_cases hc10 : k = (1 : Int32)
    case pos =>
      refine Go.step (fun t_ k_ => XS.icmpNo X0.here hx rfl (hb hby d1_10) rfl (teq hc10).2 k_) ?_
      show Go p e below _ (s₁.setTop (mkF m 13 #[.val (.int k)] []))
      obtain ⟨T2, X2, e2, st2⟩ := getS2 X0 hx hZ hown (host := "") (Or.inl (hw _ (List.mem_of_getElem? (i := 31) rfl))) Via.refl e0 (S_ALWAYS_INCOMPATIBLE.ext Ol.2) (g := (mkF m 13 #[.val (.int k)] [])) rfl (hb hby d1_13)
      refine Go.step st2 ?_
      show Go p e below _ (T2.setTop (mkF m 16 #[.val (.int k)] [(.ref a_ALWAYS_INCOMPATIBLE)]))
      refine Go.retR X2 hx Bd.returns rfl rfl Bd.notSynchronized (hb hby d1_16) (by rw [e2]; exact ⟨by rw [← hres]; first | (simp [if_neg hc1, if_pos hc10]; done) | (simp [hc1, hc10]; done) | (simp_all; done), N0, rfl⟩) (by decide) (by decide)
    case neg =>
      refine Go.step (fun t_ k_ => XS.icmpYes X0.here hx rfl (pc0 := 10) (pc' := 17) rfl (hb hby d1_10) rfl (feq hc10).2 (by decide) (by decide) k_) ?_
      show Go p e below _ (s₁.setTop (mkF m 17 #[.val (.int k)] []))
      refine Go.step (fun t_ k_ => XS.iloadN X0.here hx rfl (hb hby d1_17) rfl k_) ?_
      show Go p e below _ (s₁.setTop (mkF m 18 #[.val (.int k)] [(.int k)]))
      refine Go.step (fun t_ k_ => XS.iconst X0.here hx rfl (hb hby d1_18) k_) ?_
      show Go p e below _ (s₁.setTop (mkF m 19 #[.val (.int k)] [(.int (2 : Int32)), (.int k)]))
      by_cases hc19 : k = (2 : Int32)
      case pos =>
        refine Go.step (fun t_ k_ => XS.icmpNo X0.here hx rfl (hb hby d1_19) rfl (teq hc19).2 k_) ?_
        show Go p e below _ (s₁.setTop (mkF m 22 #[.val (.int k)] []))
        obtain ⟨T3, X3, e3, st3⟩ := getS2 X0 hx hZ hown (host := "") (Or.inl (hw _ (List.mem_of_getElem? (i := 26) rfl))) Via.refl e0 (S_BACKWARD.ext Ol.2) (g := (mkF m 22 #[.val (.int k)] [])) rfl (hb hby d1_22)
        refine Go.step st3 ?_
        show Go p e below _ (T3.setTop (mkF m 25 #[.val (.int k)] [(.ref a_BACKWARD)]))
        refine Go.retR X3 hx Bd.returns rfl rfl Bd.notSynchronized (hb hby d1_25) (by rw [e3]; exact ⟨by rw [← hres]; first | (simp [if_neg hc1, if_neg hc10, if_pos hc19]; done) | (simp [hc1, hc10, hc19]; done) | (simp_all; done), N0, rfl⟩) (by decide) (by decide)
      case neg =>
        refine Go.step (fun t_ k_ => XS.icmpYes X0.here hx rfl (pc0 := 19) (pc' := 26) rfl (hb hby d1_19) rfl (feq hc19).2 (by decide) (by decide) k_) ?_
        show Go p e below _ (s₁.setTop (mkF m 26 #[.val (.int k)] []))
        refine Go.step (fun t_ k_ => XS.iloadN X0.here hx rfl (hb hby d1_26) rfl k_) ?_
        show Go p e below _ (s₁.setTop (mkF m 27 #[.val (.int k)] [(.int k)]))
        refine Go.step (fun t_ k_ => XS.iconst X0.here hx rfl (hb hby d1_27) k_) ?_
        show Go p e below _ (s₁.setTop (mkF m 28 #[.val (.int k)] [(.int (3 : Int32)), (.int k)]))
        by_cases hc28 : k = (3 : Int32)
        case pos =>
          refine Go.step (fun t_ k_ => XS.icmpNo X0.here hx rfl (hb hby d1_28) rfl (teq hc28).2 k_) ?_
          show Go p e below _ (s₁.setTop (mkF m 31 #[.val (.int k)] []))
          obtain ⟨T4, X4, e4, st4⟩ := getS2 X0 hx hZ hown (host := "") (Or.inl (hw _ (List.mem_of_getElem? (i := 19) rfl))) Via.refl e0 (S_BACKWARD_TRANSITIVE.ext Ol.2) (g := (mkF m 31 #[.val (.int k)] [])) rfl (hb hby d1_31)
          refine Go.step st4 ?_
          show Go p e below _ (T4.setTop (mkF m 34 #[.val (.int k)] [(.ref a_BACKWARD_TRANSITIVE)]))
          refine Go.retR X4 hx Bd.returns rfl rfl Bd.notSynchronized (hb hby d1_34) (by rw [e4]; exact ⟨by rw [← hres]; first | (simp [if_neg hc1, if_neg hc10, if_neg hc19, if_pos hc28]; done) | (simp [hc1, hc10, hc19, hc28]; done) | (simp_all; done), N0, rfl⟩) (by decide) (by decide)
        case neg =>
          refine Go.step (fun t_ k_ => XS.icmpYes X0.here hx rfl (pc0 := 28) (pc' := 35) rfl (hb hby d1_28) rfl (feq hc28).2 (by decide) (by decide) k_) ?_
          show Go p e below _ (s₁.setTop (mkF m 35 #[.val (.int k)] []))
          refine Go.step (fun t_ k_ => XS.iloadN X0.here hx rfl (hb hby d1_35) rfl k_) ?_
          show Go p e below _ (s₁.setTop (mkF m 36 #[.val (.int k)] [(.int k)]))
          refine Go.step (fun t_ k_ => XS.iconst X0.here hx rfl (hb hby d1_36) k_) ?_
          show Go p e below _ (s₁.setTop (mkF m 37 #[.val (.int k)] [(.int (4 : Int32)), (.int k)]))
          by_cases hc37 : k = (4 : Int32)
          case pos =>
            refine Go.step (fun t_ k_ => XS.icmpNo X0.here hx rfl (hb hby d1_37) rfl (teq hc37).2 k_) ?_
            show Go p e below _ (s₁.setTop (mkF m 40 #[.val (.int k)] []))
            obtain ⟨T5, X5, e5, st5⟩ := getS2 X0 hx hZ hown (host := "") (Or.inl (hw _ (List.mem_of_getElem? (i := 33) rfl))) Via.refl e0 (S_FORWARD.ext Ol.2) (g := (mkF m 40 #[.val (.int k)] [])) rfl (hb hby d1_40)
            refine Go.step st5 ?_
            show Go p e below _ (T5.setTop (mkF m 43 #[.val (.int k)] [(.ref a_FORWARD)]))
            refine Go.retR X5 hx Bd.returns rfl rfl Bd.notSynchronized (hb hby d1_43) (by rw [e5]; exact ⟨by rw [← hres]; first | (simp [if_neg hc1, if_neg hc10, if_neg hc19, if_neg hc28, if_pos hc37]; done) | (simp [hc1, hc10, hc19, hc28, hc37]; done) | (simp_all; done), N0, rfl⟩) (by decide) (by decide)
          case neg =>
            refine Go.step (fun t_ k_ => XS.icmpYes X0.here hx rfl (pc0 := 37) (pc' := 44) rfl (hb hby d1_37) rfl (feq hc37).2 (by decide) (by decide) k_) ?_
            show Go p e below _ (s₁.setTop (mkF m 44 #[.val (.int k)] []))
            refine Go.step (fun t_ k_ => XS.iloadN X0.here hx rfl (hb hby d1_44) rfl k_) ?_
            show Go p e below _ (s₁.setTop (mkF m 45 #[.val (.int k)] [(.int k)]))
            refine Go.step (fun t_ k_ => XS.iconst X0.here hx rfl (hb hby d1_45) k_) ?_
            show Go p e below _ (s₁.setTop (mkF m 46 #[.val (.int k)] [(.int (5 : Int32)), (.int k)]))
            by_cases hc46 : k = (5 : Int32)
            case pos =>
              refine Go.step (fun t_ k_ => XS.icmpNo X0.here hx rfl (hb hby d1_46) rfl (teq hc46).2 k_) ?_
              show Go p e below _ (s₁.setTop (mkF m 49 #[.val (.int k)] []))
              obtain ⟨T6, X6, e6, st6⟩ := getS2 X0 hx hZ hown (host := "") (Or.inl (hw _ (List.mem_of_getElem? (i := 35) rfl))) Via.refl e0 (S_FORWARD_TRANSITIVE.ext Ol.2) (g := (mkF m 49 #[.val (.int k)] [])) rfl (hb hby d1_49)
              refine Go.step st6 ?_
              show Go p e below _ (T6.setTop (mkF m 52 #[.val (.int k)] [(.ref a_FORWARD_TRANSITIVE)]))
              refine Go.retR X6 hx Bd.returns rfl rfl Bd.notSynchronized (hb hby d1_52) (by rw [e6]; exact ⟨by rw [← hres]; first | (simp [if_neg hc1, if_neg hc10, if_neg hc19, if_neg hc28, if_neg hc37, if_pos hc46]; done) | (simp [hc1, hc10, hc19, hc28, hc37, hc46]; done) | (simp_all; done), N0, rfl⟩) (by decide) (by decide)
            case neg =>
              refine Go.step (fun t_ k_ => XS.icmpYes X0.here hx rfl (pc0 := 46) (pc' := 53) rfl (hb hby d1_46) rfl (feq hc46).2 (by decide) (by decide) k_) ?_
              show Go p e below _ (s₁.setTop (mkF m 53 #[.val (.int k)] []))
              refine Go.step (fun t_ k_ => XS.iloadN X0.here hx rfl (hb hby d1_53) rfl k_) ?_
              show Go p e below _ (s₁.setTop (mkF m 54 #[.val (.int k)] [(.int k)]))
              refine Go.step (fun t_ k_ => XS.bipush X0.here hx rfl (hb hby d1_54) k_) ?_
              show Go p e below _ (s₁.setTop (mkF m 56 #[.val (.int k)] [(.int (6 : Int32)), (.int k)]))
              by_cases hc56 : k = (6 : Int32)
              case pos =>
                refine Go.step (fun t_ k_ => XS.icmpNo X0.here hx rfl (hb hby d1_56) rfl (teq hc56).2 k_) ?_
                show Go p e below _ (s₁.setTop (mkF m 59 #[.val (.int k)] []))
                obtain ⟨T7, X7, e7, st7⟩ := getS2 X0 hx hZ hown (host := "") (Or.inl (hw _ (List.mem_of_getElem? (i := 24) rfl))) Via.refl e0 (S_FULL.ext Ol.2) (g := (mkF m 59 #[.val (.int k)] [])) rfl (hb hby d1_59)
                refine Go.step st7 ?_
                show Go p e below _ (T7.setTop (mkF m 62 #[.val (.int k)] [(.ref a_FULL)]))
                refine Go.retR X7 hx Bd.returns rfl rfl Bd.notSynchronized (hb hby d1_62) (by rw [e7]; exact ⟨by rw [← hres]; first | (simp [if_neg hc1, if_neg hc10, if_neg hc19, if_neg hc28, if_neg hc37, if_neg hc46, if_pos hc56]; done) | (simp [hc1, hc10, hc19, hc28, hc37, hc46, hc56]; done) | (simp_all; done), N0, rfl⟩) (by decide) (by decide)
              case neg =>
                refine Go.step (fun t_ k_ => XS.icmpYes X0.here hx rfl (pc0 := 56) (pc' := 63) rfl (hb hby d1_56) rfl (feq hc56).2 (by decide) (by decide) k_) ?_
                show Go p e below _ (s₁.setTop (mkF m 63 #[.val (.int k)] []))
                obtain ⟨T8, X8, e8, st8⟩ := getS2 X0 hx hZ hown (host := "") (Or.inl (hw _ (List.mem_of_getElem? (i := 29) rfl))) Via.refl e0 (S_FULL_TRANSITIVE.ext Ol.2) (g := (mkF m 63 #[.val (.int k)] [])) rfl (hb hby d1_63)
                refine Go.step st8 ?_
                show Go p e below _ (T8.setTop (mkF m 66 #[.val (.int k)] [(.ref a_FULL_TRANSITIVE)]))
                refine Go.retR X8 hx Bd.returns rfl rfl Bd.notSynchronized (hb hby d1_66) (by rw [e8]; exact ⟨by rw [← hres]; first | (simp [if_neg hc1, if_neg hc10, if_neg hc19, if_neg hc28, if_neg hc37, if_neg hc46, if_neg hc56]; done) | (simp [hc1, hc10, hc19, hc28, hc37, hc46, hc56]; done) | (simp_all; done), N0, rfl⟩) (by decide) (by decide)
theorem d2_0 : decode method_3_code 0 = .ok (.iload_n 0, 1) := by decide +kernel
theorem d2_1 : decode method_3_code 1 = .ok (.ifCond .ne 7, 3) := by decide +kernel
theorem d2_4 : decode method_3_code 4 = .ok (.getstatic 7, 3) := by decide +kernel
theorem d2_7 : decode method_3_code 7 = .ok (.areturn, 1) := by decide +kernel
theorem d2_8 : decode method_3_code 8 = .ok (.iload_n 0, 1) := by decide +kernel
theorem d2_9 : decode method_3_code 9 = .ok (.iconst 1, 1) := by decide +kernel
theorem d2_10 : decode method_3_code 10 = .ok (.if_icmp .ne 7, 3) := by decide +kernel
theorem d2_13 : decode method_3_code 13 = .ok (.getstatic 13, 3) := by decide +kernel
theorem d2_16 : decode method_3_code 16 = .ok (.areturn, 1) := by decide +kernel
theorem d2_17 : decode method_3_code 17 = .ok (.iload_n 0, 1) := by decide +kernel
theorem d2_18 : decode method_3_code 18 = .ok (.iconst 3, 1) := by decide +kernel
theorem d2_19 : decode method_3_code 19 = .ok (.if_icmp .eq 14, 3) := by decide +kernel
theorem d2_33 : decode method_3_code 33 = .ok (.getstatic 19, 3) := by decide +kernel
theorem d2_36 : decode method_3_code 36 = .ok (.areturn, 1) := by decide +kernel
theorem d2_22 : decode method_3_code 22 = .ok (.iload_n 0, 1) := by decide +kernel
theorem d2_23 : decode method_3_code 23 = .ok (.iconst 5, 1) := by decide +kernel
theorem d2_24 : decode method_3_code 24 = .ok (.if_icmp .eq 9, 3) := by decide +kernel
theorem d2_27 : decode method_3_code 27 = .ok (.iload_n 0, 1) := by decide +kernel
theorem d2_28 : decode method_3_code 28 = .ok (.bipush 7, 2) := by decide +kernel
theorem d2_30 : decode method_3_code 30 = .ok (.if_icmp .ne 7, 3) := by decide +kernel
theorem d2_37 : decode method_3_code 37 = .ok (.getstatic 16, 3) := by decide +kernel
theorem d2_40 : decode method_3_code 40 = .ok (.areturn, 1) := by decide +kernel
theorem ef_rm2 (m : MethodId) (x0 : Int32)  : entryFrame m #[(.int x0)] 1 = mkF m 0 #[.val (.int x0)] [] := by first | (simp [entryFrame, mkF, argsToLocals, Value.category]; done) | rfl
def Q_rm2 (Z : State) (a_ALWAYS_COMPATIBLE : Addr) (a_BACKWARD_TRANSITIVE : Addr) (a_FULL : Addr) (a_BACKWARD : Addr) (a_FULL_TRANSITIVE : Addr) (a_ALWAYS_INCOMPATIBLE : Addr) (a_FORWARD : Addr) (a_FORWARD_TRANSITIVE : Addr) (k : Int32) (res : Addr) (h0 : Heap) (n0 : Nat) (v : Option Value) (h : Heap) (L : List Loc) : Prop := v = some (.ref res) ∧ Fr n0 L ∧ h = h0
set_option maxRecDepth 65536 in
set_option maxHeartbeats 40000000 in
theorem rm2 (l : Launch) (Z : State) (a0 : Array Value) (hw : ∀ d ∈ tables_1, d.before a0 Z = true) (ws : List Jvm.Cond) (a_ALWAYS_COMPATIBLE : Addr) (a_BACKWARD_TRANSITIVE : Addr) (a_FULL : Addr) (a_BACKWARD : Addr) (a_FULL_TRANSITIVE : Addr) (a_ALWAYS_INCOMPATIBLE : Addr) (a_FORWARD : Addr) (a_FORWARD_TRANSITIVE : Addr) (HW : Wd Z a_ALWAYS_COMPATIBLE a_BACKWARD_TRANSITIVE a_FULL a_BACKWARD a_FULL_TRANSITIVE a_ALWAYS_INCOMPATIBLE a_FORWARD a_FORWARD_TRANSITIVE) (k : Int32) (res : Addr) (h0 : Heap) (n0 : Nat) (Ol : Old Z n0 h0)  (hres : (if k = (0 : Int32) then a_ALWAYS_COMPATIBLE else if k = (1 : Int32) then a_ALWAYS_INCOMPATIBLE else if k = (3 : Int32) then a_BACKWARD_TRANSITIVE else if k = (5 : Int32) then a_BACKWARD_TRANSITIVE else if k = (7 : Int32) then a_BACKWARD_TRANSITIVE else a_BACKWARD) = res) :
    MetFree l (⟨"com/example/onward_schema/onwardschema/model/CompatibilityStrategyReaderSidePinLaw", "expected", "(I)Lcom/example/onward_schema/onwardschema/model/CompatibilityStrategy;"⟩ : MethodName) (head1 (Jvm.Cond.code (⟨"com/example/onward_schema/onwardschema/model/CompatibilityStrategyReaderSidePinLaw", "expected", "(I)Lcom/example/onward_schema/onwardschema/model/CompatibilityStrategy;"⟩ : MethodName) method_3_code 1 (some (.object "com/example/onward_schema/onwardschema/model/CompatibilityStrategy")) :: ws) ({ frames := 0, cells := 0, slots := 0, locals := 0 } : Room)) (fun a U => a = #[(.int k)] ∧ Z.Warmed39 U.vm ∧ U.heap = h0) (fun _ _ _ _ _ => True) (fun _ U o U' => ∃ v L, o = .returned v ∧ Q_rm2 Z a_ALWAYS_COMPATIBLE a_BACKWARD_TRANSITIVE a_FULL a_BACKWARD a_FULL_TRANSITIVE a_ALWAYS_INCOMPATIBLE a_FORWARD a_FORWARD_TRANSITIVE k res h0 n0 v U'.heap L ∧ FrameEnd U o U' L ({ frames := 0, cells := 0, slots := 0, locals := 0 } : Room).cells ({ frames := 0, cells := 0, slots := 0, locals := 0 } : Room).slots) := by
  refine MetFree.of_bodySF (plainFor_of_name pn_0) hisR ?_
  intro p e s m args below meth c s₁ Bd hml0 hP hK
  obtain ⟨rfl, hZ, hh⟩ := hP
  have hx := Bd.exec
  have hby := Bd.bytes
  have hml : c.maxLocals = 1 := hml0
  have hown : s.vm.findClass "com/example/onward_schema/onwardschema/model/CompatibilityStrategyReaderSidePinLaw" = some m.cls := findClass_of_methodNamed Bd.named
  have hnm := (name_of_methodNamed Bd.named Bd.method).1
  have X0 : Stand p l e ({ frames := 0, cells := 0, slots := 0, locals := 0 } : Room) s m #[(.int k)] below meth c s₁ [] 0 0 := Stand.of_body Bd
  have e0 : s₁.heap = h0 := by rw [← hh, Bd.state]; rfl
  have N0 := Fr.nil n0
  have kp0 := Keep.refl h0 []
  show Go p e below (Fin1 s below (Q_rm2 Z a_ALWAYS_COMPATIBLE a_BACKWARD_TRANSITIVE a_FULL a_BACKWARD a_FULL_TRANSITIVE a_ALWAYS_INCOMPATIBLE a_FORWARD a_FORWARD_TRANSITIVE k res h0 n0) ({ frames := 0, cells := 0, slots := 0, locals := 0 } : Room).cells ({ frames := 0, cells := 0, slots := 0, locals := 0 } : Room).slots) _
  refine Go.step (fun t_ k_ => castTop (ef_rm2 m k) k_) ?_
  obtain ⟨S_ALWAYS_COMPATIBLE, E_ALWAYS_COMPATIBLE, S_BACKWARD_TRANSITIVE, E_BACKWARD_TRANSITIVE, S_FULL, E_FULL, S_BACKWARD, E_BACKWARD, S_FULL_TRANSITIVE, E_FULL_TRANSITIVE, S_ALWAYS_INCOMPATIBLE, E_ALWAYS_INCOMPATIBLE, S_FORWARD, E_FORWARD, S_FORWARD_TRANSITIVE, E_FORWARD_TRANSITIVE, F_ALWAYS_COMPATIBLE_backward, F_ALWAYS_COMPATIBLE_forward, F_BACKWARD_TRANSITIVE_backward, F_BACKWARD_TRANSITIVE_transitive, F_FULL_backward, F_FULL_transitive, F_BACKWARD_backward, F_BACKWARD_transitive, F_FULL_TRANSITIVE_backward, F_FULL_TRANSITIVE_transitive, F_ALWAYS_INCOMPATIBLE_backward, F_ALWAYS_INCOMPATIBLE_forward, F_FORWARD_backward, F_FORWARD_forward, F_FORWARD_transitive, F_FORWARD_TRANSITIVE_backward, F_FORWARD_TRANSITIVE_forward, F_FORWARD_TRANSITIVE_transitive, F_ALWAYS_COMPATIBLE_transitive, F_BACKWARD_TRANSITIVE_forward, F_FULL_forward, F_BACKWARD_forward, F_FULL_TRANSITIVE_forward, F_ALWAYS_INCOMPATIBLE_transitive⟩ := id HW
  show Go p e below _ (s₁.setTop (mkF m 0 #[.val (.int k)] []))
  refine Go.step (fun t_ k_ => XS.iloadN X0.here hx rfl (hb hby d2_0) rfl k_) ?_
  show Go p e below _ (s₁.setTop (mkF m 1 #[.val (.int k)] [(.int k)]))
  by_cases hc1 : k = (0 : Int32)
  case pos =>
    refine Go.step (fun t_ k_ => XS.ifNo X0.here hx rfl (hb hby d2_1) rfl ((if0 _ _).trans (teq hc1).2) k_) ?_
    show Go p e below _ (s₁.setTop (mkF m 4 #[.val (.int k)] []))
    obtain ⟨T1, X1, e1, st1⟩ := getS2 X0 hx hZ hown (host := "") (Or.inl (hw _ (List.mem_of_getElem? (i := 4) rfl))) Via.refl e0 (S_ALWAYS_COMPATIBLE.ext Ol.2) (g := (mkF m 4 #[.val (.int k)] [])) rfl (hb hby d2_4)
    refine Go.step st1 ?_
    show Go p e below _ (T1.setTop (mkF m 7 #[.val (.int k)] [(.ref a_ALWAYS_COMPATIBLE)]))
    refine Go.retR X1 hx Bd.returns rfl rfl Bd.notSynchronized (hb hby d2_7) (by rw [e1]; exact ⟨by rw [← hres]; first | (simp [if_pos hc1]; done) | (simp [hc1]; done) | (simp_all; done), N0, rfl⟩) (by decide) (by decide)
  case neg =>
    refine Go.step (fun t_ k_ => XS.ifYes X0.here hx rfl (pc0 := 1) (pc' := 8) rfl (hb hby d2_1) rfl ((if0 _ _).trans (feq hc1).2) (by decide) (by decide) k_) ?_
    show Go p e below _ (s₁.setTop (mkF m 8 #[.val (.int k)] []))
    refine Go.step (fun t_ k_ => XS.iloadN X0.here hx rfl (hb hby d2_8) rfl k_) ?_
    show Go p e below _ (s₁.setTop (mkF m 9 #[.val (.int k)] [(.int k)]))
    refine Go.step (fun t_ k_ => XS.iconst X0.here hx rfl (hb hby d2_9) k_) ?_
    show Go p e below _ (s₁.setTop (mkF m 10 #[.val (.int k)] [(.int (1 : Int32)), (.int k)]))
    by_cases hc10 : k = (1 : Int32)
    case pos =>
      refine Go.step (fun t_ k_ => XS.icmpNo X0.here hx rfl (hb hby d2_10) rfl (teq hc10).2 k_) ?_
      show Go p e below _ (s₁.setTop (mkF m 13 #[.val (.int k)] []))
      obtain ⟨T2, X2, e2, st2⟩ := getS2 X0 hx hZ hown (host := "") (Or.inl (hw _ (List.mem_of_getElem? (i := 31) rfl))) Via.refl e0 (S_ALWAYS_INCOMPATIBLE.ext Ol.2) (g := (mkF m 13 #[.val (.int k)] [])) rfl (hb hby d2_13)
      refine Go.step st2 ?_
      show Go p e below _ (T2.setTop (mkF m 16 #[.val (.int k)] [(.ref a_ALWAYS_INCOMPATIBLE)]))
      refine Go.retR X2 hx Bd.returns rfl rfl Bd.notSynchronized (hb hby d2_16) (by rw [e2]; exact ⟨by rw [← hres]; first | (simp [if_neg hc1, if_pos hc10]; done) | (simp [hc1, hc10]; done) | (simp_all; done), N0, rfl⟩) (by decide) (by decide)
    case neg =>
      refine Go.step (fun t_ k_ => XS.icmpYes X0.here hx rfl (pc0 := 10) (pc' := 17) rfl (hb hby d2_10) rfl (feq hc10).2 (by decide) (by decide) k_) ?_
      show Go p e below _ (s₁.setTop (mkF m 17 #[.val (.int k)] []))
      refine Go.step (fun t_ k_ => XS.iloadN X0.here hx rfl (hb hby d2_17) rfl k_) ?_
      show Go p e below _ (s₁.setTop (mkF m 18 #[.val (.int k)] [(.int k)]))
      refine Go.step (fun t_ k_ => XS.iconst X0.here hx rfl (hb hby d2_18) k_) ?_
      show Go p e below _ (s₁.setTop (mkF m 19 #[.val (.int k)] [(.int (3 : Int32)), (.int k)]))
      by_cases hc19 : k = (3 : Int32)
      case pos =>
        refine Go.step (fun t_ k_ => XS.icmpYes X0.here hx rfl (pc0 := 19) (pc' := 33) rfl (hb hby d2_19) rfl (teq hc19).1 (by decide) (by decide) k_) ?_
        show Go p e below _ (s₁.setTop (mkF m 33 #[.val (.int k)] []))
        obtain ⟨T3, X3, e3, st3⟩ := getS2 X0 hx hZ hown (host := "") (Or.inl (hw _ (List.mem_of_getElem? (i := 19) rfl))) Via.refl e0 (S_BACKWARD_TRANSITIVE.ext Ol.2) (g := (mkF m 33 #[.val (.int k)] [])) rfl (hb hby d2_33)
        refine Go.step st3 ?_
        show Go p e below _ (T3.setTop (mkF m 36 #[.val (.int k)] [(.ref a_BACKWARD_TRANSITIVE)]))
        refine Go.retR X3 hx Bd.returns rfl rfl Bd.notSynchronized (hb hby d2_36) (by rw [e3]; exact ⟨by rw [← hres]; first | (simp [if_neg hc1, if_neg hc10, if_pos hc19]; done) | (simp [hc1, hc10, hc19]; done) | (simp_all; done), N0, rfl⟩) (by decide) (by decide)
      case neg =>
        refine Go.step (fun t_ k_ => XS.icmpNo X0.here hx rfl (hb hby d2_19) rfl (feq hc19).1 k_) ?_
        show Go p e below _ (s₁.setTop (mkF m 22 #[.val (.int k)] []))
        refine Go.step (fun t_ k_ => XS.iloadN X0.here hx rfl (hb hby d2_22) rfl k_) ?_
        show Go p e below _ (s₁.setTop (mkF m 23 #[.val (.int k)] [(.int k)]))
        refine Go.step (fun t_ k_ => XS.iconst X0.here hx rfl (hb hby d2_23) k_) ?_
        show Go p e below _ (s₁.setTop (mkF m 24 #[.val (.int k)] [(.int (5 : Int32)), (.int k)]))
        by_cases hc24 : k = (5 : Int32)
        case pos =>
          refine Go.step (fun t_ k_ => XS.icmpYes X0.here hx rfl (pc0 := 24) (pc' := 33) rfl (hb hby d2_24) rfl (teq hc24).1 (by decide) (by decide) k_) ?_
          show Go p e below _ (s₁.setTop (mkF m 33 #[.val (.int k)] []))
          obtain ⟨T4, X4, e4, st4⟩ := getS2 X0 hx hZ hown (host := "") (Or.inl (hw _ (List.mem_of_getElem? (i := 19) rfl))) Via.refl e0 (S_BACKWARD_TRANSITIVE.ext Ol.2) (g := (mkF m 33 #[.val (.int k)] [])) rfl (hb hby d2_33)
          refine Go.step st4 ?_
          show Go p e below _ (T4.setTop (mkF m 36 #[.val (.int k)] [(.ref a_BACKWARD_TRANSITIVE)]))
          refine Go.retR X4 hx Bd.returns rfl rfl Bd.notSynchronized (hb hby d2_36) (by rw [e4]; exact ⟨by rw [← hres]; first | (simp [if_neg hc1, if_neg hc10, if_neg hc19, if_pos hc24]; done) | (simp [hc1, hc10, hc19, hc24]; done) | (simp_all; done), N0, rfl⟩) (by decide) (by decide)
        case neg =>
          refine Go.step (fun t_ k_ => XS.icmpNo X0.here hx rfl (hb hby d2_24) rfl (feq hc24).1 k_) ?_
          show Go p e below _ (s₁.setTop (mkF m 27 #[.val (.int k)] []))
          refine Go.step (fun t_ k_ => XS.iloadN X0.here hx rfl (hb hby d2_27) rfl k_) ?_
          show Go p e below _ (s₁.setTop (mkF m 28 #[.val (.int k)] [(.int k)]))
          refine Go.step (fun t_ k_ => XS.bipush X0.here hx rfl (hb hby d2_28) k_) ?_
          show Go p e below _ (s₁.setTop (mkF m 30 #[.val (.int k)] [(.int (7 : Int32)), (.int k)]))
          by_cases hc30 : k = (7 : Int32)
          case pos =>
            refine Go.step (fun t_ k_ => XS.icmpNo X0.here hx rfl (hb hby d2_30) rfl (teq hc30).2 k_) ?_
            show Go p e below _ (s₁.setTop (mkF m 33 #[.val (.int k)] []))
            obtain ⟨T5, X5, e5, st5⟩ := getS2 X0 hx hZ hown (host := "") (Or.inl (hw _ (List.mem_of_getElem? (i := 19) rfl))) Via.refl e0 (S_BACKWARD_TRANSITIVE.ext Ol.2) (g := (mkF m 33 #[.val (.int k)] [])) rfl (hb hby d2_33)
            refine Go.step st5 ?_
            show Go p e below _ (T5.setTop (mkF m 36 #[.val (.int k)] [(.ref a_BACKWARD_TRANSITIVE)]))
            refine Go.retR X5 hx Bd.returns rfl rfl Bd.notSynchronized (hb hby d2_36) (by rw [e5]; exact ⟨by rw [← hres]; first | (simp [if_neg hc1, if_neg hc10, if_neg hc19, if_neg hc24, if_pos hc30]; done) | (simp [hc1, hc10, hc19, hc24, hc30]; done) | (simp_all; done), N0, rfl⟩) (by decide) (by decide)
          case neg =>
            refine Go.step (fun t_ k_ => XS.icmpYes X0.here hx rfl (pc0 := 30) (pc' := 37) rfl (hb hby d2_30) rfl (feq hc30).2 (by decide) (by decide) k_) ?_
            show Go p e below _ (s₁.setTop (mkF m 37 #[.val (.int k)] []))
            obtain ⟨T6, X6, e6, st6⟩ := getS2 X0 hx hZ hown (host := "") (Or.inl (hw _ (List.mem_of_getElem? (i := 26) rfl))) Via.refl e0 (S_BACKWARD.ext Ol.2) (g := (mkF m 37 #[.val (.int k)] [])) rfl (hb hby d2_37)
            refine Go.step st6 ?_
            show Go p e below _ (T6.setTop (mkF m 40 #[.val (.int k)] [(.ref a_BACKWARD)]))
            refine Go.retR X6 hx Bd.returns rfl rfl Bd.notSynchronized (hb hby d2_40) (by rw [e6]; exact ⟨by rw [← hres]; first | (simp [if_neg hc1, if_neg hc10, if_neg hc19, if_neg hc24, if_neg hc30]; done) | (simp [hc1, hc10, hc19, hc24, hc30]; done) | (simp_all; done), N0, rfl⟩) (by decide) (by decide)
theorem d3_0 : decode prog_26_method_8_code 0 = .ok (.aload_n 0, 1) := by decide +kernel
theorem d3_1 : decode prog_26_method_8_code 1 = .ok (.getfield 47, 3) := by decide +kernel
theorem d3_4 : decode prog_26_method_8_code 4 = .ok (.ifCond .ne 12, 3) := by decide +kernel
theorem d3_7 : decode prog_26_method_8_code 7 = .ok (.aload_n 0, 1) := by decide +kernel
theorem d3_8 : decode prog_26_method_8_code 8 = .ok (.getfield 51, 3) := by decide +kernel
theorem d3_11 : decode prog_26_method_8_code 11 = .ok (.ifCond .ne 5, 3) := by decide +kernel
theorem d3_14 : decode prog_26_method_8_code 14 = .ok (.aload_n 0, 1) := by decide +kernel
theorem d3_15 : decode prog_26_method_8_code 15 = .ok (.areturn, 1) := by decide +kernel
theorem d3_16 : decode prog_26_method_8_code 16 = .ok (.aload_n 0, 1) := by decide +kernel
theorem d3_17 : decode prog_26_method_8_code 17 = .ok (.getfield 54, 3) := by decide +kernel
theorem d3_20 : decode prog_26_method_8_code 20 = .ok (.ifCond .eq 9, 3) := by decide +kernel
theorem d3_29 : decode prog_26_method_8_code 29 = .ok (.getstatic 10, 3) := by decide +kernel
theorem d3_32 : decode prog_26_method_8_code 32 = .ok (.areturn, 1) := by decide +kernel
theorem d3_23 : decode prog_26_method_8_code 23 = .ok (.getstatic 13, 3) := by decide +kernel
theorem d3_26 : decode prog_26_method_8_code 26 = .ok (.goto 6, 3) := by decide +kernel
theorem pn_1 : plainName "com/example/onward_schema/onwardschema/model/CompatibilityStrategy" = true := by first | (simp [plainName, overriddenIn]; done) | decide +kernel
theorem ef_rm3 (m : MethodId) (x0 : Addr)  : entryFrame m #[(.ref x0)] 1 = mkF m 0 #[.val (.ref x0)] [] := by first | (simp [entryFrame, mkF, argsToLocals, Value.category]; done) | rfl
def Q_rm3 (Z : State) (a_ALWAYS_COMPATIBLE : Addr) (a_BACKWARD_TRANSITIVE : Addr) (a_FULL : Addr) (a_BACKWARD : Addr) (a_FULL_TRANSITIVE : Addr) (a_ALWAYS_INCOMPATIBLE : Addr) (a_FORWARD : Addr) (a_FORWARD_TRANSITIVE : Addr) (r : Addr) (z_backward : Int32) (z_forward : Int32) (z_transitive : Int32) (res : Addr) (h0 : Heap) (n0 : Nat) (v : Option Value) (h : Heap) (L : List Loc) : Prop := v = some (.ref res) ∧ Fr n0 L ∧ h = h0
set_option maxRecDepth 65536 in
set_option maxHeartbeats 40000000 in
theorem rm3 (l : Launch) (Z : State) (a0 : Array Value) (hw : ∀ d ∈ tables_1, d.before a0 Z = true) (ws : List Jvm.Cond) (a_ALWAYS_COMPATIBLE : Addr) (a_BACKWARD_TRANSITIVE : Addr) (a_FULL : Addr) (a_BACKWARD : Addr) (a_FULL_TRANSITIVE : Addr) (a_ALWAYS_INCOMPATIBLE : Addr) (a_FORWARD : Addr) (a_FORWARD_TRANSITIVE : Addr) (HW : Wd Z a_ALWAYS_COMPATIBLE a_BACKWARD_TRANSITIVE a_FULL a_BACKWARD a_FULL_TRANSITIVE a_ALWAYS_INCOMPATIBLE a_FORWARD a_FORWARD_TRANSITIVE) (r : Addr) (z_backward : Int32) (z_forward : Int32) (z_transitive : Int32) (res : Addr) (h0 : Heap) (n0 : Nat) (Ol : Old Z n0 h0) (G_backward : Fld Z Z.heap r "com/example/onward_schema/onwardschema/model/CompatibilityStrategy" "backward" "Z" (.int z_backward)) (G_forward : Fld Z Z.heap r "com/example/onward_schema/onwardschema/model/CompatibilityStrategy" "forward" "Z" (.int z_forward)) (G_transitive : Fld Z Z.heap r "com/example/onward_schema/onwardschema/model/CompatibilityStrategy" "transitive" "Z" (.int z_transitive)) (hres : (if z_backward = 0 then (if z_forward = 0 then r else if z_transitive = 0 then a_BACKWARD else a_BACKWARD_TRANSITIVE) else if z_transitive = 0 then a_BACKWARD else a_BACKWARD_TRANSITIVE) = res) :
    MetFree l (⟨"com/example/onward_schema/onwardschema/model/CompatibilityStrategy", "readerSide", "()Lcom/example/onward_schema/onwardschema/model/CompatibilityStrategy;"⟩ : MethodName) (head1 (Jvm.Cond.code (⟨"com/example/onward_schema/onwardschema/model/CompatibilityStrategy", "readerSide", "()Lcom/example/onward_schema/onwardschema/model/CompatibilityStrategy;"⟩ : MethodName) prog_26_method_8_code 1 (some (.object "com/example/onward_schema/onwardschema/model/CompatibilityStrategy")) :: ws) ({ frames := 0, cells := 0, slots := 0, locals := 0 } : Room)) (fun a U => a = #[(.ref r)] ∧ Z.Warmed39 U.vm ∧ U.heap = h0) (fun _ _ _ _ _ => True) (fun _ U o U' => ∃ v L, o = .returned v ∧ Q_rm3 Z a_ALWAYS_COMPATIBLE a_BACKWARD_TRANSITIVE a_FULL a_BACKWARD a_FULL_TRANSITIVE a_ALWAYS_INCOMPATIBLE a_FORWARD a_FORWARD_TRANSITIVE r z_backward z_forward z_transitive res h0 n0 v U'.heap L ∧ FrameEnd U o U' L ({ frames := 0, cells := 0, slots := 0, locals := 0 } : Room).cells ({ frames := 0, cells := 0, slots := 0, locals := 0 } : Room).slots) := by
  refine MetFree.of_bodySF (plainFor_of_name pn_1) hisR ?_
  intro p e s m args below meth c s₁ Bd hml0 hP hK
  obtain ⟨rfl, hZ, hh⟩ := hP
  have hx := Bd.exec
  have hby := Bd.bytes
  have hml : c.maxLocals = 1 := hml0
  have hown : s.vm.findClass "com/example/onward_schema/onwardschema/model/CompatibilityStrategy" = some m.cls := findClass_of_methodNamed Bd.named
  have hnm := (name_of_methodNamed Bd.named Bd.method).1
  have X0 : Stand p l e ({ frames := 0, cells := 0, slots := 0, locals := 0 } : Room) s m #[(.ref r)] below meth c s₁ [] 0 0 := Stand.of_body Bd
  have e0 : s₁.heap = h0 := by rw [← hh, Bd.state]; rfl
  have N0 := Fr.nil n0
  have kp0 := Keep.refl h0 []
  show Go p e below (Fin1 s below (Q_rm3 Z a_ALWAYS_COMPATIBLE a_BACKWARD_TRANSITIVE a_FULL a_BACKWARD a_FULL_TRANSITIVE a_ALWAYS_INCOMPATIBLE a_FORWARD a_FORWARD_TRANSITIVE r z_backward z_forward z_transitive res h0 n0) ({ frames := 0, cells := 0, slots := 0, locals := 0 } : Room).cells ({ frames := 0, cells := 0, slots := 0, locals := 0 } : Room).slots) _
  refine Go.step (fun t_ k_ => castTop (ef_rm3 m r) k_) ?_
  obtain ⟨S_ALWAYS_COMPATIBLE, E_ALWAYS_COMPATIBLE, S_BACKWARD_TRANSITIVE, E_BACKWARD_TRANSITIVE, S_FULL, E_FULL, S_BACKWARD, E_BACKWARD, S_FULL_TRANSITIVE, E_FULL_TRANSITIVE, S_ALWAYS_INCOMPATIBLE, E_ALWAYS_INCOMPATIBLE, S_FORWARD, E_FORWARD, S_FORWARD_TRANSITIVE, E_FORWARD_TRANSITIVE, F_ALWAYS_COMPATIBLE_backward, F_ALWAYS_COMPATIBLE_forward, F_BACKWARD_TRANSITIVE_backward, F_BACKWARD_TRANSITIVE_transitive, F_FULL_backward, F_FULL_transitive, F_BACKWARD_backward, F_BACKWARD_transitive, F_FULL_TRANSITIVE_backward, F_FULL_TRANSITIVE_transitive, F_ALWAYS_INCOMPATIBLE_backward, F_ALWAYS_INCOMPATIBLE_forward, F_FORWARD_backward, F_FORWARD_forward, F_FORWARD_transitive, F_FORWARD_TRANSITIVE_backward, F_FORWARD_TRANSITIVE_forward, F_FORWARD_TRANSITIVE_transitive, F_ALWAYS_COMPATIBLE_transitive, F_BACKWARD_TRANSITIVE_forward, F_FULL_forward, F_BACKWARD_forward, F_FULL_TRANSITIVE_forward, F_ALWAYS_INCOMPATIBLE_transitive⟩ := id HW
  show Go p e below _ (s₁.setTop (mkF m 0 #[.val (.ref r)] []))
  refine Go.step (fun t_ k_ => XS.aloadN X0.here hx rfl (hb hby d3_0) rfl rfl k_) ?_
  show Go p e below _ (s₁.setTop (mkF m 1 #[.val (.ref r)] [(.ref r)]))
  obtain ⟨T1, X1, e1, st1⟩ := getF X0 hx hZ hown (host := "") (Or.inl (hw _ (List.mem_of_getElem? (i := 15) rfl))) Via.refl e0 (G_backward.ext Ol.2) (g := (mkF m 1 #[.val (.ref r)] [(.ref r)])) rfl rfl (hb hby d3_1)
  refine Go.step st1 ?_
  show Go p e below _ (T1.setTop (mkF m 4 #[.val (.ref r)] [(.int z_backward)]))
  by_cases hc4 : z_backward = (0 : Int32)
  case pos =>
    refine Go.step (fun t_ k_ => XS.ifNo X1.here hx rfl (hb hby d3_4) rfl ((if0 _ _).trans (teq hc4).2) k_) ?_
    show Go p e below _ (T1.setTop (mkF m 7 #[.val (.ref r)] []))
    refine Go.step (fun t_ k_ => XS.aloadN X1.here hx rfl (hb hby d3_7) rfl rfl k_) ?_
    show Go p e below _ (T1.setTop (mkF m 8 #[.val (.ref r)] [(.ref r)]))
    obtain ⟨T2, X2, e2, st2⟩ := getF X1 hx hZ hown (host := "") (Or.inl (hw _ (List.mem_of_getElem? (i := 17) rfl))) Via.refl e1 (G_forward.ext Ol.2) (g := (mkF m 8 #[.val (.ref r)] [(.ref r)])) rfl rfl (hb hby d3_8)
    refine Go.step st2 ?_
    show Go p e below _ (T2.setTop (mkF m 11 #[.val (.ref r)] [(.int z_forward)]))
    by_cases hc11 : z_forward = (0 : Int32)
    case pos =>
      refine Go.step (fun t_ k_ => XS.ifNo X2.here hx rfl (hb hby d3_11) rfl ((if0 _ _).trans (teq hc11).2) k_) ?_
      show Go p e below _ (T2.setTop (mkF m 14 #[.val (.ref r)] []))
      refine Go.step (fun t_ k_ => XS.aloadN X2.here hx rfl (hb hby d3_14) rfl rfl k_) ?_
      show Go p e below _ (T2.setTop (mkF m 15 #[.val (.ref r)] [(.ref r)]))
      refine Go.retR X2 hx Bd.returns rfl rfl Bd.notSynchronized (hb hby d3_15) (by rw [e2]; exact ⟨by rw [← hres]; first | (simp [if_pos hc4, if_pos hc11]; done) | (simp [hc4, hc11]; done) | (simp_all; done), N0, rfl⟩) (by decide) (by decide)
    case neg =>
      refine Go.step (fun t_ k_ => XS.ifYes X2.here hx rfl (pc0 := 11) (pc' := 16) rfl (hb hby d3_11) rfl ((if0 _ _).trans (feq hc11).2) (by decide) (by decide) k_) ?_
      show Go p e below _ (T2.setTop (mkF m 16 #[.val (.ref r)] []))
      refine Go.step (fun t_ k_ => XS.aloadN X2.here hx rfl (hb hby d3_16) rfl rfl k_) ?_
      show Go p e below _ (T2.setTop (mkF m 17 #[.val (.ref r)] [(.ref r)]))
      obtain ⟨T3, X3, e3, st3⟩ := getF X2 hx hZ hown (host := "") (Or.inl (hw _ (List.mem_of_getElem? (i := 21) rfl))) Via.refl e2 (G_transitive.ext Ol.2) (g := (mkF m 17 #[.val (.ref r)] [(.ref r)])) rfl rfl (hb hby d3_17)
      refine Go.step st3 ?_
      show Go p e below _ (T3.setTop (mkF m 20 #[.val (.ref r)] [(.int z_transitive)]))
      by_cases hc20 : z_transitive = (0 : Int32)
      case pos =>
        refine Go.step (fun t_ k_ => XS.ifYes X3.here hx rfl (pc0 := 20) (pc' := 29) rfl (hb hby d3_20) rfl ((if0 _ _).trans (teq hc20).1) (by decide) (by decide) k_) ?_
        show Go p e below _ (T3.setTop (mkF m 29 #[.val (.ref r)] []))
        obtain ⟨T4, X4, e4, st4⟩ := getS2 X3 hx hZ hown (host := "") (Or.inl (hw _ (List.mem_of_getElem? (i := 28) rfl))) Via.refl e3 (S_BACKWARD.ext Ol.2) (g := (mkF m 29 #[.val (.ref r)] [])) rfl (hb hby d3_29)
        refine Go.step st4 ?_
        show Go p e below _ (T4.setTop (mkF m 32 #[.val (.ref r)] [(.ref a_BACKWARD)]))
        refine Go.retR X4 hx Bd.returns rfl rfl Bd.notSynchronized (hb hby d3_32) (by rw [e4]; exact ⟨by rw [← hres]; first | (simp [if_pos hc4, if_neg hc11, if_pos hc20]; done) | (simp [hc4, hc11, hc20]; done) | (simp_all; done), N0, rfl⟩) (by decide) (by decide)
      case neg =>
        refine Go.step (fun t_ k_ => XS.ifNo X3.here hx rfl (hb hby d3_20) rfl ((if0 _ _).trans (feq hc20).1) k_) ?_
        show Go p e below _ (T3.setTop (mkF m 23 #[.val (.ref r)] []))
        obtain ⟨T5, X5, e5, st5⟩ := getS2 X3 hx hZ hown (host := "") (Or.inl (hw _ (List.mem_of_getElem? (i := 23) rfl))) Via.refl e3 (S_BACKWARD_TRANSITIVE.ext Ol.2) (g := (mkF m 23 #[.val (.ref r)] [])) rfl (hb hby d3_23)
        refine Go.step st5 ?_
        show Go p e below _ (T5.setTop (mkF m 26 #[.val (.ref r)] [(.ref a_BACKWARD_TRANSITIVE)]))
        refine Go.step (fun t_ k_ => XS.goto X5.here hx rfl (pc0 := 26) (pc' := 32) rfl (hb hby d3_26) (by decide) (by decide) k_) ?_
        show Go p e below _ (T5.setTop (mkF m 32 #[.val (.ref r)] [(.ref a_BACKWARD_TRANSITIVE)]))
        refine Go.retR X5 hx Bd.returns rfl rfl Bd.notSynchronized (hb hby d3_32) (by rw [e5]; exact ⟨by rw [← hres]; first | (simp [if_pos hc4, if_neg hc11, if_neg hc20]; done) | (simp [hc4, hc11, hc20]; done) | (simp_all; done), N0, rfl⟩) (by decide) (by decide)
  case neg =>
    refine Go.step (fun t_ k_ => XS.ifYes X1.here hx rfl (pc0 := 4) (pc' := 16) rfl (hb hby d3_4) rfl ((if0 _ _).trans (feq hc4).2) (by decide) (by decide) k_) ?_
    show Go p e below _ (T1.setTop (mkF m 16 #[.val (.ref r)] []))
    refine Go.step (fun t_ k_ => XS.aloadN X1.here hx rfl (hb hby d3_16) rfl rfl k_) ?_
    show Go p e below _ (T1.setTop (mkF m 17 #[.val (.ref r)] [(.ref r)]))
    obtain ⟨T6, X6, e6, st6⟩ := getF X1 hx hZ hown (host := "") (Or.inl (hw _ (List.mem_of_getElem? (i := 21) rfl))) Via.refl e1 (G_transitive.ext Ol.2) (g := (mkF m 17 #[.val (.ref r)] [(.ref r)])) rfl rfl (hb hby d3_17)
    refine Go.step st6 ?_
    show Go p e below _ (T6.setTop (mkF m 20 #[.val (.ref r)] [(.int z_transitive)]))
    by_cases hc20 : z_transitive = (0 : Int32)
    case pos =>
      refine Go.step (fun t_ k_ => XS.ifYes X6.here hx rfl (pc0 := 20) (pc' := 29) rfl (hb hby d3_20) rfl ((if0 _ _).trans (teq hc20).1) (by decide) (by decide) k_) ?_
      show Go p e below _ (T6.setTop (mkF m 29 #[.val (.ref r)] []))
      obtain ⟨T7, X7, e7, st7⟩ := getS2 X6 hx hZ hown (host := "") (Or.inl (hw _ (List.mem_of_getElem? (i := 28) rfl))) Via.refl e6 (S_BACKWARD.ext Ol.2) (g := (mkF m 29 #[.val (.ref r)] [])) rfl (hb hby d3_29)
      refine Go.step st7 ?_
      show Go p e below _ (T7.setTop (mkF m 32 #[.val (.ref r)] [(.ref a_BACKWARD)]))
      refine Go.retR X7 hx Bd.returns rfl rfl Bd.notSynchronized (hb hby d3_32) (by rw [e7]; exact ⟨by rw [← hres]; first | (simp [if_neg hc4, if_pos hc20]; done) | (simp [hc4, hc20]; done) | (simp_all; done), N0, rfl⟩) (by decide) (by decide)
    case neg =>
      refine Go.step (fun t_ k_ => XS.ifNo X6.here hx rfl (hb hby d3_20) rfl ((if0 _ _).trans (feq hc20).1) k_) ?_
      show Go p e below _ (T6.setTop (mkF m 23 #[.val (.ref r)] []))
      obtain ⟨T8, X8, e8, st8⟩ := getS2 X6 hx hZ hown (host := "") (Or.inl (hw _ (List.mem_of_getElem? (i := 23) rfl))) Via.refl e6 (S_BACKWARD_TRANSITIVE.ext Ol.2) (g := (mkF m 23 #[.val (.ref r)] [])) rfl (hb hby d3_23)
      refine Go.step st8 ?_
      show Go p e below _ (T8.setTop (mkF m 26 #[.val (.ref r)] [(.ref a_BACKWARD_TRANSITIVE)]))
      refine Go.step (fun t_ k_ => XS.goto X8.here hx rfl (pc0 := 26) (pc' := 32) rfl (hb hby d3_26) (by decide) (by decide) k_) ?_
      show Go p e below _ (T8.setTop (mkF m 32 #[.val (.ref r)] [(.ref a_BACKWARD_TRANSITIVE)]))
      refine Go.retR X8 hx Bd.returns rfl rfl Bd.notSynchronized (hb hby d3_32) (by rw [e8]; exact ⟨by rw [← hres]; first | (simp [if_neg hc4, if_neg hc20]; done) | (simp [hc4, hc20]; done) | (simp_all; done), N0, rfl⟩) (by decide) (by decide)
theorem pd_0 : parseMethodDescriptor "(I)Lcom/example/onward_schema/onwardschema/model/CompatibilityStrategy;" = some ⟨[.int], some (.object "com/example/onward_schema/onwardschema/model/CompatibilityStrategy")⟩ := by decide +kernel
theorem pd_1 : parseMethodDescriptor "()Lcom/example/onward_schema/onwardschema/model/CompatibilityStrategy;" = some ⟨[], some (.object "com/example/onward_schema/onwardschema/model/CompatibilityStrategy")⟩ := by decide +kernel
theorem ef_rm0 (m : MethodId) (x0 : Int32)  : entryFrame m #[(.int x0)] maxLocals = mkF m 0 #[.val (.int x0), .unset, .unset, .unset, .unset] [] := by first | (simp [entryFrame, mkF, argsToLocals, Value.category, maxLocals]; done) | rfl
def Q_rm0 (Z : State) (a_ALWAYS_COMPATIBLE : Addr) (a_BACKWARD_TRANSITIVE : Addr) (a_FULL : Addr) (a_BACKWARD : Addr) (a_FULL_TRANSITIVE : Addr) (a_ALWAYS_INCOMPATIBLE : Addr) (a_FORWARD : Addr) (a_FORWARD_TRANSITIVE : Addr) (p1 : Int32) (h0 : Heap) (n0 : Nat) (v : Option Value) (h : Heap) (L : List Loc) : Prop := v = some (.int 1) ∧ Fr n0 L
set_option maxRecDepth 65536 in
set_option maxHeartbeats 40000000 in
theorem rm0 (l : Launch) (Z : State) (a0 : Array Value) (hw : ∀ d ∈ tables_1, d.before a0 Z = true) (ws : List Jvm.Cond) (a_ALWAYS_COMPATIBLE : Addr) (a_BACKWARD_TRANSITIVE : Addr) (a_FULL : Addr) (a_BACKWARD : Addr) (a_FULL_TRANSITIVE : Addr) (a_ALWAYS_INCOMPATIBLE : Addr) (a_FORWARD : Addr) (a_FORWARD_TRANSITIVE : Addr) (HW : Wd Z a_ALWAYS_COMPATIBLE a_BACKWARD_TRANSITIVE a_FULL a_BACKWARD a_FULL_TRANSITIVE a_ALWAYS_INCOMPATIBLE a_FORWARD a_FORWARD_TRANSITIVE) (p1 : Int32) (h0 : Heap) (n0 : Nat) (Ol : Old Z n0 h0)  :
    MetFree l x (head1 (Jvm.Cond.code x code maxLocals ret :: ws) room_1) (fun a U => a = #[(.int p1)] ∧ Z.Warmed39 U.vm ∧ U.heap = h0) (fun _ _ _ _ _ => True) (fun _ U o U' => ∃ v L, o = .returned v ∧ Q_rm0 Z a_ALWAYS_COMPATIBLE a_BACKWARD_TRANSITIVE a_FULL a_BACKWARD a_FULL_TRANSITIVE a_ALWAYS_INCOMPATIBLE a_FORWARD a_FORWARD_TRANSITIVE p1 h0 n0 v U'.heap L ∧ FrameEnd U o U' L room_1.cells room_1.slots) := by
  refine MetFree.of_bodySF (plainFor_of_name pn_0) hisR ?_
  intro p e s m args below meth c s₁ Bd hml0 hP hK
  obtain ⟨rfl, hZ, hh⟩ := hP
  have hx := Bd.exec
  have hby := Bd.bytes
  have hml : c.maxLocals = 5 := hml0
  have hown : s.vm.findClass "com/example/onward_schema/onwardschema/model/CompatibilityStrategyReaderSidePinLaw" = some m.cls := findClass_of_methodNamed Bd.named
  have hnm := (name_of_methodNamed Bd.named Bd.method).1
  have X0 : Stand p l e room_1 s m #[(.int p1)] below meth c s₁ [] 0 0 := Stand.of_body Bd
  have e0 : s₁.heap = h0 := by rw [← hh, Bd.state]; rfl
  have N0 := Fr.nil n0
  have kp0 := Keep.refl h0 []
  show Go p e below (Fin1 s below (Q_rm0 Z a_ALWAYS_COMPATIBLE a_BACKWARD_TRANSITIVE a_FULL a_BACKWARD a_FULL_TRANSITIVE a_ALWAYS_INCOMPATIBLE a_FORWARD a_FORWARD_TRANSITIVE p1 h0 n0) room_1.cells room_1.slots) _
  refine Go.step (fun t_ k_ => castTop (ef_rm0 m p1) k_) ?_
  obtain ⟨S_ALWAYS_COMPATIBLE, E_ALWAYS_COMPATIBLE, S_BACKWARD_TRANSITIVE, E_BACKWARD_TRANSITIVE, S_FULL, E_FULL, S_BACKWARD, E_BACKWARD, S_FULL_TRANSITIVE, E_FULL_TRANSITIVE, S_ALWAYS_INCOMPATIBLE, E_ALWAYS_INCOMPATIBLE, S_FORWARD, E_FORWARD, S_FORWARD_TRANSITIVE, E_FORWARD_TRANSITIVE, F_ALWAYS_COMPATIBLE_backward, F_ALWAYS_COMPATIBLE_forward, F_BACKWARD_TRANSITIVE_backward, F_BACKWARD_TRANSITIVE_transitive, F_FULL_backward, F_FULL_transitive, F_BACKWARD_backward, F_BACKWARD_transitive, F_FULL_TRANSITIVE_backward, F_FULL_TRANSITIVE_transitive, F_ALWAYS_INCOMPATIBLE_backward, F_ALWAYS_INCOMPATIBLE_forward, F_FORWARD_backward, F_FORWARD_forward, F_FORWARD_transitive, F_FORWARD_TRANSITIVE_backward, F_FORWARD_TRANSITIVE_forward, F_FORWARD_TRANSITIVE_transitive, F_ALWAYS_COMPATIBLE_transitive, F_BACKWARD_TRANSITIVE_forward, F_FULL_forward, F_BACKWARD_forward, F_FULL_TRANSITIVE_forward, F_ALWAYS_INCOMPATIBLE_transitive⟩ := id HW
  show Go p e below _ (s₁.setTop (mkF m 0 #[.val (.int p1), .unset, .unset, .unset, .unset] []))
  refine Go.step (fun t_ k_ => XS.iloadN X0.here hx rfl (hb hby at_0) rfl k_) ?_
  show Go p e below _ (s₁.setTop (mkF m 1 #[.val (.int p1), .unset, .unset, .unset, .unset] [(.int p1)]))
  refine Go.step (fun t_ k_ => XS.bipush X0.here hx rfl (hb hby at_1) k_) ?_
  show Go p e below _ (s₁.setTop (mkF m 3 #[.val (.int p1), .unset, .unset, .unset, .unset] [(.int (7 : Int32)), (.int p1)]))
  refine Go.step (fun t_ k_ => XS.iand X0.here hx rfl (hb hby at_3) rfl k_) ?_
  show Go p e below _ (s₁.setTop (mkF m 4 #[.val (.int p1), .unset, .unset, .unset, .unset] [(.int (p1 &&& (7 : Int32)))]))
  refine Go.step (fun t_ k_ => XS.istoreN X0.here hx rfl (hb hby at_4) rfl (l' := #[.val (.int p1), .val (.int (p1 &&& (7 : Int32))), .unset, .unset, .unset]) rfl k_) ?_
  show Go p e below _ (s₁.setTop (mkF m 5 #[.val (.int p1), .val (.int (p1 &&& (7 : Int32))), .unset, .unset, .unset] []))
  generalize hk_k : (p1 &&& (7 : Int32)) = k
  show Go p e below _ (s₁.setTop (mkF m 5 #[.val (.int p1), .val (.int k), .unset, .unset, .unset] []))
  have hb_k := and7_bd p1
  rw [hk_k] at hb_k
  rcases cs8 hb_k with rfl | rfl | rfl | rfl | rfl | rfl | rfl | rfl
  next =>
    show Go p e below _ (s₁.setTop (mkF m 5 #[.val (.int p1), .val (.int (0 : Int32)), .unset, .unset, .unset] []))
    refine Go.step (fun t_ k_ => XS.iloadN X0.here hx rfl (hb hby at_5) rfl k_) ?_
    show Go p e below _ (s₁.setTop (mkF m 6 #[.val (.int p1), .val (.int (0 : Int32)), .unset, .unset, .unset] [(.int (0 : Int32))]))
    obtain ⟨_, _, ⟨T1, L1, k1, n1⟩, -, X1, ⟨Lc1, hQ1, l1, y1, z1⟩, st1⟩ := Jvm.LawKit.callS X0 hx (y := (⟨"com/example/onward_schema/onwardschema/model/CompatibilityStrategyReaderSidePinLaw", "pick", "(I)Lcom/example/onward_schema/onwardschema/model/CompatibilityStrategy;"⟩ : MethodName)) hown (mvT hZ (hw _ (List.mem_of_getElem? (i := 0) rfl))) (mvT hZ (hw _ (List.mem_of_getElem? (i := 1) rfl))) (mvT hZ (hw _ (List.mem_of_getElem? (i := 2) rfl))) (mvT hZ (hw _ (List.mem_of_getElem? (i := 3) rfl))) (by decide) (backOf (W := 0) (rm1 l Z a0 hw [] a_ALWAYS_COMPATIBLE a_BACKWARD_TRANSITIVE a_FULL a_BACKWARD a_FULL_TRANSITIVE a_ALWAYS_INCOMPATIBLE a_FORWARD a_FORWARD_TRANSITIVE HW (0 : Int32) a_ALWAYS_COMPATIBLE h0 n0 Ol (by simp)) hZ (hw _ (List.mem_of_getElem? (i := 3) rfl)) (hw _ (List.mem_of_getElem? (i := 2) rfl)) (by decide) (by decide)) (g := (mkF m 6 #[.val (.int p1), .val (.int (0 : Int32)), .unset, .unset, .unset] [(.int (0 : Int32))])) rfl (by rw [hml]; rfl) (argsL := [(.int (0 : Int32))]) (rest := []) (lenOf pd_0 rfl) rfl (by show 2 * 0 + _ ≤ _; exact Nat.le_of_eq rfl) (hb hby at_6) (fun _ _ => ⟨rfl, e0, (by decide : 0 + 0 ≤ _), (by decide : 0 + 0 ≤ _)⟩)
    dsimp only [Pt.U, Pt.locs, Pt.cells, Pt.slots] at X1 l1 y1 z1 st1 hQ1
    subst l1 y1 z1
    obtain ⟨rfl, Nq1, e1⟩ := hQ1
    have N1 := Fr.app N0 Nq1
    refine Go.step st1 ?_
    show Go p e below _ (T1.setTop (mkF m 9 #[.val (.int p1), .val (.int (0 : Int32)), .unset, .unset, .unset] [(.ref a_ALWAYS_COMPATIBLE)]))
    refine Go.step (fun t_ k_ => XS.astoreN X1.here hx rfl (hb hby at_9) rfl rfl (l' := #[.val (.int p1), .val (.int (0 : Int32)), .val (.ref a_ALWAYS_COMPATIBLE), .unset, .unset]) rfl k_) ?_
    show Go p e below _ (T1.setTop (mkF m 10 #[.val (.int p1), .val (.int (0 : Int32)), .val (.ref a_ALWAYS_COMPATIBLE), .unset, .unset] []))
    refine Go.step (fun t_ k_ => XS.iloadN X1.here hx rfl (hb hby at_10) rfl k_) ?_
    show Go p e below _ (T1.setTop (mkF m 11 #[.val (.int p1), .val (.int (0 : Int32)), .val (.ref a_ALWAYS_COMPATIBLE), .unset, .unset] [(.int (0 : Int32))]))
    obtain ⟨_, _, ⟨T2, L2, k2, n2⟩, -, X2, ⟨Lc2, hQ2, l2, y2, z2⟩, st2⟩ := Jvm.LawKit.callS X1 hx (y := (⟨"com/example/onward_schema/onwardschema/model/CompatibilityStrategyReaderSidePinLaw", "expected", "(I)Lcom/example/onward_schema/onwardschema/model/CompatibilityStrategy;"⟩ : MethodName)) hown (mvT hZ (hw _ (List.mem_of_getElem? (i := 7) rfl))) (mvT hZ (hw _ (List.mem_of_getElem? (i := 8) rfl))) (mvT hZ (hw _ (List.mem_of_getElem? (i := 2) rfl))) (mvT hZ (hw _ (List.mem_of_getElem? (i := 9) rfl))) (by decide) (backOf (W := 0) (rm2 l Z a0 hw [] a_ALWAYS_COMPATIBLE a_BACKWARD_TRANSITIVE a_FULL a_BACKWARD a_FULL_TRANSITIVE a_ALWAYS_INCOMPATIBLE a_FORWARD a_FORWARD_TRANSITIVE HW (0 : Int32) a_ALWAYS_COMPATIBLE h0 n0 Ol (by simp)) hZ (hw _ (List.mem_of_getElem? (i := 9) rfl)) (hw _ (List.mem_of_getElem? (i := 2) rfl)) (by decide) (by decide)) (g := (mkF m 11 #[.val (.int p1), .val (.int (0 : Int32)), .val (.ref a_ALWAYS_COMPATIBLE), .unset, .unset] [(.int (0 : Int32))])) rfl (by rw [hml]; rfl) (argsL := [(.int (0 : Int32))]) (rest := []) (lenOf pd_0 rfl) rfl (by show 2 * 0 + _ ≤ _; exact Nat.le_of_eq rfl) (hb hby at_11) (fun _ _ => ⟨rfl, e1, (by decide : 0 + 0 ≤ _), (by decide : 0 + 0 ≤ _)⟩)
    dsimp only [Pt.U, Pt.locs, Pt.cells, Pt.slots] at X2 l2 y2 z2 st2 hQ2
    subst l2 y2 z2
    obtain ⟨rfl, Nq2, e2⟩ := hQ2
    have N2 := Fr.app N1 Nq2
    refine Go.step st2 ?_
    show Go p e below _ (T2.setTop (mkF m 14 #[.val (.int p1), .val (.int (0 : Int32)), .val (.ref a_ALWAYS_COMPATIBLE), .unset, .unset] [(.ref a_ALWAYS_COMPATIBLE)]))
    refine Go.step (fun t_ k_ => XS.astoreN X2.here hx rfl (hb hby at_14) rfl rfl (l' := #[.val (.int p1), .val (.int (0 : Int32)), .val (.ref a_ALWAYS_COMPATIBLE), .val (.ref a_ALWAYS_COMPATIBLE), .unset]) rfl k_) ?_
    show Go p e below _ (T2.setTop (mkF m 15 #[.val (.int p1), .val (.int (0 : Int32)), .val (.ref a_ALWAYS_COMPATIBLE), .val (.ref a_ALWAYS_COMPATIBLE), .unset] []))
    refine Go.step (fun t_ k_ => XS.aloadN X2.here hx rfl (hb hby at_15) rfl rfl k_) ?_
    show Go p e below _ (T2.setTop (mkF m 16 #[.val (.int p1), .val (.int (0 : Int32)), .val (.ref a_ALWAYS_COMPATIBLE), .val (.ref a_ALWAYS_COMPATIBLE), .unset] [(.ref a_ALWAYS_COMPATIBLE)]))
    obtain ⟨cq3, kq3, q3a, q3b, q3c⟩ := isOf hZ e2 (E_ALWAYS_COMPATIBLE.ext Ol.2)
    obtain ⟨_, _, ⟨T3, L3, k3, n3⟩, -, X3, ⟨Lc3, hQ3, l3, y3, z3⟩, st3⟩ := X2.virtualBack hx (y := (⟨"com/example/onward_schema/onwardschema/model/CompatibilityStrategy", "readerSide", "()Lcom/example/onward_schema/onwardschema/model/CompatibilityStrategy;"⟩ : MethodName)) (z := (⟨"com/example/onward_schema/onwardschema/model/CompatibilityStrategy", "readerSide", "()Lcom/example/onward_schema/onwardschema/model/CompatibilityStrategy;"⟩ : MethodName)) hown (mvT hZ (hw _ (List.mem_of_getElem? (i := 10) rfl))) (mvT hZ (hw _ (List.mem_of_getElem? (i := 11) rfl))) (notFace_of_selects (args := #[]) (mvT hZ (hw _ (List.mem_of_getElem? (i := 13) rfl)))) (mvT hZ (hw _ (List.mem_of_getElem? (i := 13) rfl))) (mvT hZ (hw _ (List.mem_of_getElem? (i := 12) rfl))) (by decide) (backOf (W := 0) (rm3 l Z a0 hw [] a_ALWAYS_COMPATIBLE a_BACKWARD_TRANSITIVE a_FULL a_BACKWARD a_FULL_TRANSITIVE a_ALWAYS_INCOMPATIBLE a_FORWARD a_FORWARD_TRANSITIVE HW a_ALWAYS_COMPATIBLE (0 : Int32) (0 : Int32) (0 : Int32) a_ALWAYS_COMPATIBLE h0 n0 Ol F_ALWAYS_COMPATIBLE_backward F_ALWAYS_COMPATIBLE_forward F_ALWAYS_COMPATIBLE_transitive (by simp)) hZ (hw _ (List.mem_of_getElem? (i := 14) rfl)) (hw _ (List.mem_of_getElem? (i := 5) rfl)) (by decide) (by decide)) q3a q3c (g := (mkF m 16 #[.val (.int p1), .val (.int (0 : Int32)), .val (.ref a_ALWAYS_COMPATIBLE), .val (.ref a_ALWAYS_COMPATIBLE), .unset] [(.ref a_ALWAYS_COMPATIBLE)])) rfl (by rw [hml]; rfl) (Steps.refl _) (argsL := []) (rest := []) (lenOf pd_1 rfl) rfl (by show 2 * 0 + _ ≤ _; exact Nat.le_of_eq rfl) (hb hby at_16) (fun _ _ => ⟨rfl, e2, (by decide : 0 + 0 ≤ _), (by decide : 0 + 0 ≤ _)⟩)
    dsimp only [Pt.U, Pt.locs, Pt.cells, Pt.slots] at X3 l3 y3 z3 st3 hQ3
    subst l3 y3 z3
    obtain ⟨rfl, Nq3, e3⟩ := hQ3
    have N3 := Fr.app N2 Nq3
    refine Go.step (fun t_ k_ => st3.trans k_) ?_
    show Go p e below _ (T3.setTop (mkF m 19 #[.val (.int p1), .val (.int (0 : Int32)), .val (.ref a_ALWAYS_COMPATIBLE), .val (.ref a_ALWAYS_COMPATIBLE), .unset] [(.ref a_ALWAYS_COMPATIBLE)]))
    refine Go.step (fun t_ k_ => XS.astore X3.here hx rfl (hb hby at_19) rfl rfl (l' := #[.val (.int p1), .val (.int (0 : Int32)), .val (.ref a_ALWAYS_COMPATIBLE), .val (.ref a_ALWAYS_COMPATIBLE), .val (.ref a_ALWAYS_COMPATIBLE)]) rfl k_) ?_
    show Go p e below _ (T3.setTop (mkF m 21 #[.val (.int p1), .val (.int (0 : Int32)), .val (.ref a_ALWAYS_COMPATIBLE), .val (.ref a_ALWAYS_COMPATIBLE), .val (.ref a_ALWAYS_COMPATIBLE)] []))
    refine Go.step (fun t_ k_ => XS.aload X3.here hx rfl (hb hby at_21) rfl rfl k_) ?_
    show Go p e below _ (T3.setTop (mkF m 23 #[.val (.int p1), .val (.int (0 : Int32)), .val (.ref a_ALWAYS_COMPATIBLE), .val (.ref a_ALWAYS_COMPATIBLE), .val (.ref a_ALWAYS_COMPATIBLE)] [(.ref a_ALWAYS_COMPATIBLE)]))
    refine Go.step (fun t_ k_ => XS.aloadN X3.here hx rfl (hb hby at_23) rfl rfl k_) ?_
    show Go p e below _ (T3.setTop (mkF m 24 #[.val (.int p1), .val (.int (0 : Int32)), .val (.ref a_ALWAYS_COMPATIBLE), .val (.ref a_ALWAYS_COMPATIBLE), .val (.ref a_ALWAYS_COMPATIBLE)] [(.ref a_ALWAYS_COMPATIBLE), (.ref a_ALWAYS_COMPATIBLE)]))
    refine Go.step (fun t_ k_ => Jvm.RoadKit.acmp (g := (mkF m 24 #[.val (.int p1), .val (.int (0 : Int32)), .val (.ref a_ALWAYS_COMPATIBLE), .val (.ref a_ALWAYS_COMPATIBLE), .val (.ref a_ALWAYS_COMPATIBLE)] [(.ref a_ALWAYS_COMPATIBLE), (.ref a_ALWAYS_COMPATIBLE)])) X3 hx rfl rfl rfl (pc0 := 24) (pc' := 27) (same := true) rfl (hb hby at_24) rfl (decide_eq_true rfl) (by decide) (by decide) k_) ?_
    show Go p e below _ (T3.setTop (mkF m 27 #[.val (.int p1), .val (.int (0 : Int32)), .val (.ref a_ALWAYS_COMPATIBLE), .val (.ref a_ALWAYS_COMPATIBLE), .val (.ref a_ALWAYS_COMPATIBLE)] []))
    refine Go.step (fun t_ k_ => XS.aload X3.here hx rfl (hb hby at_27) rfl rfl k_) ?_
    show Go p e below _ (T3.setTop (mkF m 29 #[.val (.int p1), .val (.int (0 : Int32)), .val (.ref a_ALWAYS_COMPATIBLE), .val (.ref a_ALWAYS_COMPATIBLE), .val (.ref a_ALWAYS_COMPATIBLE)] [(.ref a_ALWAYS_COMPATIBLE)]))
    obtain ⟨cq4, kq4, q4a, q4b, q4c⟩ := isOf hZ e3 (E_ALWAYS_COMPATIBLE.ext Ol.2)
    obtain ⟨_, _, ⟨T4, L4, k4, n4⟩, -, X4, ⟨Lc4, hQ4, l4, y4, z4⟩, st4⟩ := X3.virtualBack hx (y := (⟨"com/example/onward_schema/onwardschema/model/CompatibilityStrategy", "readerSide", "()Lcom/example/onward_schema/onwardschema/model/CompatibilityStrategy;"⟩ : MethodName)) (z := (⟨"com/example/onward_schema/onwardschema/model/CompatibilityStrategy", "readerSide", "()Lcom/example/onward_schema/onwardschema/model/CompatibilityStrategy;"⟩ : MethodName)) hown (mvT hZ (hw _ (List.mem_of_getElem? (i := 10) rfl))) (mvT hZ (hw _ (List.mem_of_getElem? (i := 11) rfl))) (notFace_of_selects (args := #[]) (mvT hZ (hw _ (List.mem_of_getElem? (i := 13) rfl)))) (mvT hZ (hw _ (List.mem_of_getElem? (i := 13) rfl))) (mvT hZ (hw _ (List.mem_of_getElem? (i := 12) rfl))) (by decide) (backOf (W := 0) (rm3 l Z a0 hw [] a_ALWAYS_COMPATIBLE a_BACKWARD_TRANSITIVE a_FULL a_BACKWARD a_FULL_TRANSITIVE a_ALWAYS_INCOMPATIBLE a_FORWARD a_FORWARD_TRANSITIVE HW a_ALWAYS_COMPATIBLE (0 : Int32) (0 : Int32) (0 : Int32) a_ALWAYS_COMPATIBLE h0 n0 Ol F_ALWAYS_COMPATIBLE_backward F_ALWAYS_COMPATIBLE_forward F_ALWAYS_COMPATIBLE_transitive (by simp)) hZ (hw _ (List.mem_of_getElem? (i := 14) rfl)) (hw _ (List.mem_of_getElem? (i := 5) rfl)) (by decide) (by decide)) q4a q4c (g := (mkF m 29 #[.val (.int p1), .val (.int (0 : Int32)), .val (.ref a_ALWAYS_COMPATIBLE), .val (.ref a_ALWAYS_COMPATIBLE), .val (.ref a_ALWAYS_COMPATIBLE)] [(.ref a_ALWAYS_COMPATIBLE)])) rfl (by rw [hml]; rfl) (Steps.refl _) (argsL := []) (rest := []) (lenOf pd_1 rfl) rfl (by show 2 * 0 + _ ≤ _; exact Nat.le_of_eq rfl) (hb hby at_29) (fun _ _ => ⟨rfl, e3, (by decide : 0 + 0 ≤ _), (by decide : 0 + 0 ≤ _)⟩)
    dsimp only [Pt.U, Pt.locs, Pt.cells, Pt.slots] at X4 l4 y4 z4 st4 hQ4
    subst l4 y4 z4
    obtain ⟨rfl, Nq4, e4⟩ := hQ4
    have N4 := Fr.app N3 Nq4
    refine Go.step (fun t_ k_ => st4.trans k_) ?_
    show Go p e below _ (T4.setTop (mkF m 32 #[.val (.int p1), .val (.int (0 : Int32)), .val (.ref a_ALWAYS_COMPATIBLE), .val (.ref a_ALWAYS_COMPATIBLE), .val (.ref a_ALWAYS_COMPATIBLE)] [(.ref a_ALWAYS_COMPATIBLE)]))
    refine Go.step (fun t_ k_ => XS.aload X4.here hx rfl (hb hby at_32) rfl rfl k_) ?_
    show Go p e below _ (T4.setTop (mkF m 34 #[.val (.int p1), .val (.int (0 : Int32)), .val (.ref a_ALWAYS_COMPATIBLE), .val (.ref a_ALWAYS_COMPATIBLE), .val (.ref a_ALWAYS_COMPATIBLE)] [(.ref a_ALWAYS_COMPATIBLE), (.ref a_ALWAYS_COMPATIBLE)]))
    refine Go.step (fun t_ k_ => Jvm.RoadKit.acmp (g := (mkF m 34 #[.val (.int p1), .val (.int (0 : Int32)), .val (.ref a_ALWAYS_COMPATIBLE), .val (.ref a_ALWAYS_COMPATIBLE), .val (.ref a_ALWAYS_COMPATIBLE)] [(.ref a_ALWAYS_COMPATIBLE), (.ref a_ALWAYS_COMPATIBLE)])) X4 hx rfl rfl rfl (pc0 := 34) (pc' := 37) (same := true) rfl (hb hby at_34) rfl (decide_eq_true rfl) (by decide) (by decide) k_) ?_
    show Go p e below _ (T4.setTop (mkF m 37 #[.val (.int p1), .val (.int (0 : Int32)), .val (.ref a_ALWAYS_COMPATIBLE), .val (.ref a_ALWAYS_COMPATIBLE), .val (.ref a_ALWAYS_COMPATIBLE)] []))
    refine Go.step (fun t_ k_ => XS.iconst X4.here hx rfl (hb hby at_37) k_) ?_
    show Go p e below _ (T4.setTop (mkF m 38 #[.val (.int p1), .val (.int (0 : Int32)), .val (.ref a_ALWAYS_COMPATIBLE), .val (.ref a_ALWAYS_COMPATIBLE), .val (.ref a_ALWAYS_COMPATIBLE)] [(.int (1 : Int32))]))
    refine Go.step (fun t_ k_ => XS.goto X4.here hx rfl (pc0 := 38) (pc' := 42) rfl (hb hby at_38) (by decide) (by decide) k_) ?_
    show Go p e below _ (T4.setTop (mkF m 42 #[.val (.int p1), .val (.int (0 : Int32)), .val (.ref a_ALWAYS_COMPATIBLE), .val (.ref a_ALWAYS_COMPATIBLE), .val (.ref a_ALWAYS_COMPATIBLE)] [(.int (1 : Int32))]))
    refine Go.retZ X4 hx (t := .boolean) Bd.returns (by simp) Bd.notSynchronized (hb hby at_42) (by rw [e4]; exact ⟨rfl, N4⟩) (by decide) (by decide)
  next =>
    show Go p e below _ (s₁.setTop (mkF m 5 #[.val (.int p1), .val (.int (1 : Int32)), .unset, .unset, .unset] []))
    refine Go.step (fun t_ k_ => XS.iloadN X0.here hx rfl (hb hby at_5) rfl k_) ?_
    show Go p e below _ (s₁.setTop (mkF m 6 #[.val (.int p1), .val (.int (1 : Int32)), .unset, .unset, .unset] [(.int (1 : Int32))]))
    obtain ⟨_, _, ⟨T5, L5, k5, n5⟩, -, X5, ⟨Lc5, hQ5, l5, y5, z5⟩, st5⟩ := Jvm.LawKit.callS X0 hx (y := (⟨"com/example/onward_schema/onwardschema/model/CompatibilityStrategyReaderSidePinLaw", "pick", "(I)Lcom/example/onward_schema/onwardschema/model/CompatibilityStrategy;"⟩ : MethodName)) hown (mvT hZ (hw _ (List.mem_of_getElem? (i := 0) rfl))) (mvT hZ (hw _ (List.mem_of_getElem? (i := 1) rfl))) (mvT hZ (hw _ (List.mem_of_getElem? (i := 2) rfl))) (mvT hZ (hw _ (List.mem_of_getElem? (i := 3) rfl))) (by decide) (backOf (W := 0) (rm1 l Z a0 hw [] a_ALWAYS_COMPATIBLE a_BACKWARD_TRANSITIVE a_FULL a_BACKWARD a_FULL_TRANSITIVE a_ALWAYS_INCOMPATIBLE a_FORWARD a_FORWARD_TRANSITIVE HW (1 : Int32) a_ALWAYS_INCOMPATIBLE h0 n0 Ol (by simp)) hZ (hw _ (List.mem_of_getElem? (i := 3) rfl)) (hw _ (List.mem_of_getElem? (i := 2) rfl)) (by decide) (by decide)) (g := (mkF m 6 #[.val (.int p1), .val (.int (1 : Int32)), .unset, .unset, .unset] [(.int (1 : Int32))])) rfl (by rw [hml]; rfl) (argsL := [(.int (1 : Int32))]) (rest := []) (lenOf pd_0 rfl) rfl (by show 2 * 0 + _ ≤ _; exact Nat.le_of_eq rfl) (hb hby at_6) (fun _ _ => ⟨rfl, e0, (by decide : 0 + 0 ≤ _), (by decide : 0 + 0 ≤ _)⟩)
    dsimp only [Pt.U, Pt.locs, Pt.cells, Pt.slots] at X5 l5 y5 z5 st5 hQ5
    subst l5 y5 z5
    obtain ⟨rfl, Nq5, e5⟩ := hQ5
    have N5 := Fr.app N0 Nq5
    refine Go.step st5 ?_
    show Go p e below _ (T5.setTop (mkF m 9 #[.val (.int p1), .val (.int (1 : Int32)), .unset, .unset, .unset] [(.ref a_ALWAYS_INCOMPATIBLE)]))
    refine Go.step (fun t_ k_ => XS.astoreN X5.here hx rfl (hb hby at_9) rfl rfl (l' := #[.val (.int p1), .val (.int (1 : Int32)), .val (.ref a_ALWAYS_INCOMPATIBLE), .unset, .unset]) rfl k_) ?_
    show Go p e below _ (T5.setTop (mkF m 10 #[.val (.int p1), .val (.int (1 : Int32)), .val (.ref a_ALWAYS_INCOMPATIBLE), .unset, .unset] []))
    refine Go.step (fun t_ k_ => XS.iloadN X5.here hx rfl (hb hby at_10) rfl k_) ?_
    show Go p e below _ (T5.setTop (mkF m 11 #[.val (.int p1), .val (.int (1 : Int32)), .val (.ref a_ALWAYS_INCOMPATIBLE), .unset, .unset] [(.int (1 : Int32))]))
    obtain ⟨_, _, ⟨T6, L6, k6, n6⟩, -, X6, ⟨Lc6, hQ6, l6, y6, z6⟩, st6⟩ := Jvm.LawKit.callS X5 hx (y := (⟨"com/example/onward_schema/onwardschema/model/CompatibilityStrategyReaderSidePinLaw", "expected", "(I)Lcom/example/onward_schema/onwardschema/model/CompatibilityStrategy;"⟩ : MethodName)) hown (mvT hZ (hw _ (List.mem_of_getElem? (i := 7) rfl))) (mvT hZ (hw _ (List.mem_of_getElem? (i := 8) rfl))) (mvT hZ (hw _ (List.mem_of_getElem? (i := 2) rfl))) (mvT hZ (hw _ (List.mem_of_getElem? (i := 9) rfl))) (by decide) (backOf (W := 0) (rm2 l Z a0 hw [] a_ALWAYS_COMPATIBLE a_BACKWARD_TRANSITIVE a_FULL a_BACKWARD a_FULL_TRANSITIVE a_ALWAYS_INCOMPATIBLE a_FORWARD a_FORWARD_TRANSITIVE HW (1 : Int32) a_ALWAYS_INCOMPATIBLE h0 n0 Ol (by simp)) hZ (hw _ (List.mem_of_getElem? (i := 9) rfl)) (hw _ (List.mem_of_getElem? (i := 2) rfl)) (by decide) (by decide)) (g := (mkF m 11 #[.val (.int p1), .val (.int (1 : Int32)), .val (.ref a_ALWAYS_INCOMPATIBLE), .unset, .unset] [(.int (1 : Int32))])) rfl (by rw [hml]; rfl) (argsL := [(.int (1 : Int32))]) (rest := []) (lenOf pd_0 rfl) rfl (by show 2 * 0 + _ ≤ _; exact Nat.le_of_eq rfl) (hb hby at_11) (fun _ _ => ⟨rfl, e5, (by decide : 0 + 0 ≤ _), (by decide : 0 + 0 ≤ _)⟩)
    dsimp only [Pt.U, Pt.locs, Pt.cells, Pt.slots] at X6 l6 y6 z6 st6 hQ6
    subst l6 y6 z6
    obtain ⟨rfl, Nq6, e6⟩ := hQ6
    have N6 := Fr.app N5 Nq6
    refine Go.step st6 ?_
    show Go p e below _ (T6.setTop (mkF m 14 #[.val (.int p1), .val (.int (1 : Int32)), .val (.ref a_ALWAYS_INCOMPATIBLE), .unset, .unset] [(.ref a_ALWAYS_INCOMPATIBLE)]))
    refine Go.step (fun t_ k_ => XS.astoreN X6.here hx rfl (hb hby at_14) rfl rfl (l' := #[.val (.int p1), .val (.int (1 : Int32)), .val (.ref a_ALWAYS_INCOMPATIBLE), .val (.ref a_ALWAYS_INCOMPATIBLE), .unset]) rfl k_) ?_
    show Go p e below _ (T6.setTop (mkF m 15 #[.val (.int p1), .val (.int (1 : Int32)), .val (.ref a_ALWAYS_INCOMPATIBLE), .val (.ref a_ALWAYS_INCOMPATIBLE), .unset] []))
    refine Go.step (fun t_ k_ => XS.aloadN X6.here hx rfl (hb hby at_15) rfl rfl k_) ?_
    show Go p e below _ (T6.setTop (mkF m 16 #[.val (.int p1), .val (.int (1 : Int32)), .val (.ref a_ALWAYS_INCOMPATIBLE), .val (.ref a_ALWAYS_INCOMPATIBLE), .unset] [(.ref a_ALWAYS_INCOMPATIBLE)]))
    obtain ⟨cq7, kq7, q7a, q7b, q7c⟩ := isOf hZ e6 (E_ALWAYS_INCOMPATIBLE.ext Ol.2)
    obtain ⟨_, _, ⟨T7, L7, k7, n7⟩, -, X7, ⟨Lc7, hQ7, l7, y7, z7⟩, st7⟩ := X6.virtualBack hx (y := (⟨"com/example/onward_schema/onwardschema/model/CompatibilityStrategy", "readerSide", "()Lcom/example/onward_schema/onwardschema/model/CompatibilityStrategy;"⟩ : MethodName)) (z := (⟨"com/example/onward_schema/onwardschema/model/CompatibilityStrategy", "readerSide", "()Lcom/example/onward_schema/onwardschema/model/CompatibilityStrategy;"⟩ : MethodName)) hown (mvT hZ (hw _ (List.mem_of_getElem? (i := 10) rfl))) (mvT hZ (hw _ (List.mem_of_getElem? (i := 11) rfl))) (notFace_of_selects (args := #[]) (mvT hZ (hw _ (List.mem_of_getElem? (i := 13) rfl)))) (mvT hZ (hw _ (List.mem_of_getElem? (i := 13) rfl))) (mvT hZ (hw _ (List.mem_of_getElem? (i := 12) rfl))) (by decide) (backOf (W := 0) (rm3 l Z a0 hw [] a_ALWAYS_COMPATIBLE a_BACKWARD_TRANSITIVE a_FULL a_BACKWARD a_FULL_TRANSITIVE a_ALWAYS_INCOMPATIBLE a_FORWARD a_FORWARD_TRANSITIVE HW a_ALWAYS_INCOMPATIBLE (0 : Int32) (0 : Int32) (0 : Int32) a_ALWAYS_INCOMPATIBLE h0 n0 Ol F_ALWAYS_INCOMPATIBLE_backward F_ALWAYS_INCOMPATIBLE_forward F_ALWAYS_INCOMPATIBLE_transitive (by simp)) hZ (hw _ (List.mem_of_getElem? (i := 14) rfl)) (hw _ (List.mem_of_getElem? (i := 5) rfl)) (by decide) (by decide)) q7a q7c (g := (mkF m 16 #[.val (.int p1), .val (.int (1 : Int32)), .val (.ref a_ALWAYS_INCOMPATIBLE), .val (.ref a_ALWAYS_INCOMPATIBLE), .unset] [(.ref a_ALWAYS_INCOMPATIBLE)])) rfl (by rw [hml]; rfl) (Steps.refl _) (argsL := []) (rest := []) (lenOf pd_1 rfl) rfl (by show 2 * 0 + _ ≤ _; exact Nat.le_of_eq rfl) (hb hby at_16) (fun _ _ => ⟨rfl, e6, (by decide : 0 + 0 ≤ _), (by decide : 0 + 0 ≤ _)⟩)
    dsimp only [Pt.U, Pt.locs, Pt.cells, Pt.slots] at X7 l7 y7 z7 st7 hQ7
    subst l7 y7 z7
    obtain ⟨rfl, Nq7, e7⟩ := hQ7
    have N7 := Fr.app N6 Nq7
    refine Go.step (fun t_ k_ => st7.trans k_) ?_
    show Go p e below _ (T7.setTop (mkF m 19 #[.val (.int p1), .val (.int (1 : Int32)), .val (.ref a_ALWAYS_INCOMPATIBLE), .val (.ref a_ALWAYS_INCOMPATIBLE), .unset] [(.ref a_ALWAYS_INCOMPATIBLE)]))
    refine Go.step (fun t_ k_ => XS.astore X7.here hx rfl (hb hby at_19) rfl rfl (l' := #[.val (.int p1), .val (.int (1 : Int32)), .val (.ref a_ALWAYS_INCOMPATIBLE), .val (.ref a_ALWAYS_INCOMPATIBLE), .val (.ref a_ALWAYS_INCOMPATIBLE)]) rfl k_) ?_
    show Go p e below _ (T7.setTop (mkF m 21 #[.val (.int p1), .val (.int (1 : Int32)), .val (.ref a_ALWAYS_INCOMPATIBLE), .val (.ref a_ALWAYS_INCOMPATIBLE), .val (.ref a_ALWAYS_INCOMPATIBLE)] []))
    refine Go.step (fun t_ k_ => XS.aload X7.here hx rfl (hb hby at_21) rfl rfl k_) ?_
    show Go p e below _ (T7.setTop (mkF m 23 #[.val (.int p1), .val (.int (1 : Int32)), .val (.ref a_ALWAYS_INCOMPATIBLE), .val (.ref a_ALWAYS_INCOMPATIBLE), .val (.ref a_ALWAYS_INCOMPATIBLE)] [(.ref a_ALWAYS_INCOMPATIBLE)]))
    refine Go.step (fun t_ k_ => XS.aloadN X7.here hx rfl (hb hby at_23) rfl rfl k_) ?_
    show Go p e below _ (T7.setTop (mkF m 24 #[.val (.int p1), .val (.int (1 : Int32)), .val (.ref a_ALWAYS_INCOMPATIBLE), .val (.ref a_ALWAYS_INCOMPATIBLE), .val (.ref a_ALWAYS_INCOMPATIBLE)] [(.ref a_ALWAYS_INCOMPATIBLE), (.ref a_ALWAYS_INCOMPATIBLE)]))
    refine Go.step (fun t_ k_ => Jvm.RoadKit.acmp (g := (mkF m 24 #[.val (.int p1), .val (.int (1 : Int32)), .val (.ref a_ALWAYS_INCOMPATIBLE), .val (.ref a_ALWAYS_INCOMPATIBLE), .val (.ref a_ALWAYS_INCOMPATIBLE)] [(.ref a_ALWAYS_INCOMPATIBLE), (.ref a_ALWAYS_INCOMPATIBLE)])) X7 hx rfl rfl rfl (pc0 := 24) (pc' := 27) (same := true) rfl (hb hby at_24) rfl (decide_eq_true rfl) (by decide) (by decide) k_) ?_
    show Go p e below _ (T7.setTop (mkF m 27 #[.val (.int p1), .val (.int (1 : Int32)), .val (.ref a_ALWAYS_INCOMPATIBLE), .val (.ref a_ALWAYS_INCOMPATIBLE), .val (.ref a_ALWAYS_INCOMPATIBLE)] []))
    refine Go.step (fun t_ k_ => XS.aload X7.here hx rfl (hb hby at_27) rfl rfl k_) ?_
    show Go p e below _ (T7.setTop (mkF m 29 #[.val (.int p1), .val (.int (1 : Int32)), .val (.ref a_ALWAYS_INCOMPATIBLE), .val (.ref a_ALWAYS_INCOMPATIBLE), .val (.ref a_ALWAYS_INCOMPATIBLE)] [(.ref a_ALWAYS_INCOMPATIBLE)]))
    obtain ⟨cq8, kq8, q8a, q8b, q8c⟩ := isOf hZ e7 (E_ALWAYS_INCOMPATIBLE.ext Ol.2)
    obtain ⟨_, _, ⟨T8, L8, k8, n8⟩, -, X8, ⟨Lc8, hQ8, l8, y8, z8⟩, st8⟩ := X7.virtualBack hx (y := (⟨"com/example/onward_schema/onwardschema/model/CompatibilityStrategy", "readerSide", "()Lcom/example/onward_schema/onwardschema/model/CompatibilityStrategy;"⟩ : MethodName)) (z := (⟨"com/example/onward_schema/onwardschema/model/CompatibilityStrategy", "readerSide", "()Lcom/example/onward_schema/onwardschema/model/CompatibilityStrategy;"⟩ : MethodName)) hown (mvT hZ (hw _ (List.mem_of_getElem? (i := 10) rfl))) (mvT hZ (hw _ (List.mem_of_getElem? (i := 11) rfl))) (notFace_of_selects (args := #[]) (mvT hZ (hw _ (List.mem_of_getElem? (i := 13) rfl)))) (mvT hZ (hw _ (List.mem_of_getElem? (i := 13) rfl))) (mvT hZ (hw _ (List.mem_of_getElem? (i := 12) rfl))) (by decide) (backOf (W := 0) (rm3 l Z a0 hw [] a_ALWAYS_COMPATIBLE a_BACKWARD_TRANSITIVE a_FULL a_BACKWARD a_FULL_TRANSITIVE a_ALWAYS_INCOMPATIBLE a_FORWARD a_FORWARD_TRANSITIVE HW a_ALWAYS_INCOMPATIBLE (0 : Int32) (0 : Int32) (0 : Int32) a_ALWAYS_INCOMPATIBLE h0 n0 Ol F_ALWAYS_INCOMPATIBLE_backward F_ALWAYS_INCOMPATIBLE_forward F_ALWAYS_INCOMPATIBLE_transitive (by simp)) hZ (hw _ (List.mem_of_getElem? (i := 14) rfl)) (hw _ (List.mem_of_getElem? (i := 5) rfl)) (by decide) (by decide)) q8a q8c (g := (mkF m 29 #[.val (.int p1), .val (.int (1 : Int32)), .val (.ref a_ALWAYS_INCOMPATIBLE), .val (.ref a_ALWAYS_INCOMPATIBLE), .val (.ref a_ALWAYS_INCOMPATIBLE)] [(.ref a_ALWAYS_INCOMPATIBLE)])) rfl (by rw [hml]; rfl) (Steps.refl _) (argsL := []) (rest := []) (lenOf pd_1 rfl) rfl (by show 2 * 0 + _ ≤ _; exact Nat.le_of_eq rfl) (hb hby at_29) (fun _ _ => ⟨rfl, e7, (by decide : 0 + 0 ≤ _), (by decide : 0 + 0 ≤ _)⟩)
    dsimp only [Pt.U, Pt.locs, Pt.cells, Pt.slots] at X8 l8 y8 z8 st8 hQ8
    subst l8 y8 z8
    obtain ⟨rfl, Nq8, e8⟩ := hQ8
    have N8 := Fr.app N7 Nq8
    refine Go.step (fun t_ k_ => st8.trans k_) ?_
    show Go p e below _ (T8.setTop (mkF m 32 #[.val (.int p1), .val (.int (1 : Int32)), .val (.ref a_ALWAYS_INCOMPATIBLE), .val (.ref a_ALWAYS_INCOMPATIBLE), .val (.ref a_ALWAYS_INCOMPATIBLE)] [(.ref a_ALWAYS_INCOMPATIBLE)]))
    refine Go.step (fun t_ k_ => XS.aload X8.here hx rfl (hb hby at_32) rfl rfl k_) ?_
    show Go p e below _ (T8.setTop (mkF m 34 #[.val (.int p1), .val (.int (1 : Int32)), .val (.ref a_ALWAYS_INCOMPATIBLE), .val (.ref a_ALWAYS_INCOMPATIBLE), .val (.ref a_ALWAYS_INCOMPATIBLE)] [(.ref a_ALWAYS_INCOMPATIBLE), (.ref a_ALWAYS_INCOMPATIBLE)]))
    refine Go.step (fun t_ k_ => Jvm.RoadKit.acmp (g := (mkF m 34 #[.val (.int p1), .val (.int (1 : Int32)), .val (.ref a_ALWAYS_INCOMPATIBLE), .val (.ref a_ALWAYS_INCOMPATIBLE), .val (.ref a_ALWAYS_INCOMPATIBLE)] [(.ref a_ALWAYS_INCOMPATIBLE), (.ref a_ALWAYS_INCOMPATIBLE)])) X8 hx rfl rfl rfl (pc0 := 34) (pc' := 37) (same := true) rfl (hb hby at_34) rfl (decide_eq_true rfl) (by decide) (by decide) k_) ?_
    show Go p e below _ (T8.setTop (mkF m 37 #[.val (.int p1), .val (.int (1 : Int32)), .val (.ref a_ALWAYS_INCOMPATIBLE), .val (.ref a_ALWAYS_INCOMPATIBLE), .val (.ref a_ALWAYS_INCOMPATIBLE)] []))
    refine Go.step (fun t_ k_ => XS.iconst X8.here hx rfl (hb hby at_37) k_) ?_
    show Go p e below _ (T8.setTop (mkF m 38 #[.val (.int p1), .val (.int (1 : Int32)), .val (.ref a_ALWAYS_INCOMPATIBLE), .val (.ref a_ALWAYS_INCOMPATIBLE), .val (.ref a_ALWAYS_INCOMPATIBLE)] [(.int (1 : Int32))]))
    refine Go.step (fun t_ k_ => XS.goto X8.here hx rfl (pc0 := 38) (pc' := 42) rfl (hb hby at_38) (by decide) (by decide) k_) ?_
    show Go p e below _ (T8.setTop (mkF m 42 #[.val (.int p1), .val (.int (1 : Int32)), .val (.ref a_ALWAYS_INCOMPATIBLE), .val (.ref a_ALWAYS_INCOMPATIBLE), .val (.ref a_ALWAYS_INCOMPATIBLE)] [(.int (1 : Int32))]))
    refine Go.retZ X8 hx (t := .boolean) Bd.returns (by simp) Bd.notSynchronized (hb hby at_42) (by rw [e8]; exact ⟨rfl, N8⟩) (by decide) (by decide)
  next =>
    show Go p e below _ (s₁.setTop (mkF m 5 #[.val (.int p1), .val (.int (2 : Int32)), .unset, .unset, .unset] []))
    refine Go.step (fun t_ k_ => XS.iloadN X0.here hx rfl (hb hby at_5) rfl k_) ?_
    show Go p e below _ (s₁.setTop (mkF m 6 #[.val (.int p1), .val (.int (2 : Int32)), .unset, .unset, .unset] [(.int (2 : Int32))]))
    obtain ⟨_, _, ⟨T9, L9, k9, n9⟩, -, X9, ⟨Lc9, hQ9, l9, y9, z9⟩, st9⟩ := Jvm.LawKit.callS X0 hx (y := (⟨"com/example/onward_schema/onwardschema/model/CompatibilityStrategyReaderSidePinLaw", "pick", "(I)Lcom/example/onward_schema/onwardschema/model/CompatibilityStrategy;"⟩ : MethodName)) hown (mvT hZ (hw _ (List.mem_of_getElem? (i := 0) rfl))) (mvT hZ (hw _ (List.mem_of_getElem? (i := 1) rfl))) (mvT hZ (hw _ (List.mem_of_getElem? (i := 2) rfl))) (mvT hZ (hw _ (List.mem_of_getElem? (i := 3) rfl))) (by decide) (backOf (W := 0) (rm1 l Z a0 hw [] a_ALWAYS_COMPATIBLE a_BACKWARD_TRANSITIVE a_FULL a_BACKWARD a_FULL_TRANSITIVE a_ALWAYS_INCOMPATIBLE a_FORWARD a_FORWARD_TRANSITIVE HW (2 : Int32) a_BACKWARD h0 n0 Ol (by simp)) hZ (hw _ (List.mem_of_getElem? (i := 3) rfl)) (hw _ (List.mem_of_getElem? (i := 2) rfl)) (by decide) (by decide)) (g := (mkF m 6 #[.val (.int p1), .val (.int (2 : Int32)), .unset, .unset, .unset] [(.int (2 : Int32))])) rfl (by rw [hml]; rfl) (argsL := [(.int (2 : Int32))]) (rest := []) (lenOf pd_0 rfl) rfl (by show 2 * 0 + _ ≤ _; exact Nat.le_of_eq rfl) (hb hby at_6) (fun _ _ => ⟨rfl, e0, (by decide : 0 + 0 ≤ _), (by decide : 0 + 0 ≤ _)⟩)
    dsimp only [Pt.U, Pt.locs, Pt.cells, Pt.slots] at X9 l9 y9 z9 st9 hQ9
    subst l9 y9 z9
    obtain ⟨rfl, Nq9, e9⟩ := hQ9
    have N9 := Fr.app N0 Nq9
    refine Go.step st9 ?_
    show Go p e below _ (T9.setTop (mkF m 9 #[.val (.int p1), .val (.int (2 : Int32)), .unset, .unset, .unset] [(.ref a_BACKWARD)]))
    refine Go.step (fun t_ k_ => XS.astoreN X9.here hx rfl (hb hby at_9) rfl rfl (l' := #[.val (.int p1), .val (.int (2 : Int32)), .val (.ref a_BACKWARD), .unset, .unset]) rfl k_) ?_
    show Go p e below _ (T9.setTop (mkF m 10 #[.val (.int p1), .val (.int (2 : Int32)), .val (.ref a_BACKWARD), .unset, .unset] []))
    refine Go.step (fun t_ k_ => XS.iloadN X9.here hx rfl (hb hby at_10) rfl k_) ?_
    show Go p e below _ (T9.setTop (mkF m 11 #[.val (.int p1), .val (.int (2 : Int32)), .val (.ref a_BACKWARD), .unset, .unset] [(.int (2 : Int32))]))
    obtain ⟨_, _, ⟨T10, L10, k10, n10⟩, -, X10, ⟨Lc10, hQ10, l10, y10, z10⟩, st10⟩ := Jvm.LawKit.callS X9 hx (y := (⟨"com/example/onward_schema/onwardschema/model/CompatibilityStrategyReaderSidePinLaw", "expected", "(I)Lcom/example/onward_schema/onwardschema/model/CompatibilityStrategy;"⟩ : MethodName)) hown (mvT hZ (hw _ (List.mem_of_getElem? (i := 7) rfl))) (mvT hZ (hw _ (List.mem_of_getElem? (i := 8) rfl))) (mvT hZ (hw _ (List.mem_of_getElem? (i := 2) rfl))) (mvT hZ (hw _ (List.mem_of_getElem? (i := 9) rfl))) (by decide) (backOf (W := 0) (rm2 l Z a0 hw [] a_ALWAYS_COMPATIBLE a_BACKWARD_TRANSITIVE a_FULL a_BACKWARD a_FULL_TRANSITIVE a_ALWAYS_INCOMPATIBLE a_FORWARD a_FORWARD_TRANSITIVE HW (2 : Int32) a_BACKWARD h0 n0 Ol (by simp)) hZ (hw _ (List.mem_of_getElem? (i := 9) rfl)) (hw _ (List.mem_of_getElem? (i := 2) rfl)) (by decide) (by decide)) (g := (mkF m 11 #[.val (.int p1), .val (.int (2 : Int32)), .val (.ref a_BACKWARD), .unset, .unset] [(.int (2 : Int32))])) rfl (by rw [hml]; rfl) (argsL := [(.int (2 : Int32))]) (rest := []) (lenOf pd_0 rfl) rfl (by show 2 * 0 + _ ≤ _; exact Nat.le_of_eq rfl) (hb hby at_11) (fun _ _ => ⟨rfl, e9, (by decide : 0 + 0 ≤ _), (by decide : 0 + 0 ≤ _)⟩)
    dsimp only [Pt.U, Pt.locs, Pt.cells, Pt.slots] at X10 l10 y10 z10 st10 hQ10
    subst l10 y10 z10
    obtain ⟨rfl, Nq10, e10⟩ := hQ10
    have N10 := Fr.app N9 Nq10
    refine Go.step st10 ?_
    show Go p e below _ (T10.setTop (mkF m 14 #[.val (.int p1), .val (.int (2 : Int32)), .val (.ref a_BACKWARD), .unset, .unset] [(.ref a_BACKWARD)]))
    refine Go.step (fun t_ k_ => XS.astoreN X10.here hx rfl (hb hby at_14) rfl rfl (l' := #[.val (.int p1), .val (.int (2 : Int32)), .val (.ref a_BACKWARD), .val (.ref a_BACKWARD), .unset]) rfl k_) ?_
    show Go p e below _ (T10.setTop (mkF m 15 #[.val (.int p1), .val (.int (2 : Int32)), .val (.ref a_BACKWARD), .val (.ref a_BACKWARD), .unset] []))
    refine Go.step (fun t_ k_ => XS.aloadN X10.here hx rfl (hb hby at_15) rfl rfl k_) ?_
    show Go p e below _ (T10.setTop (mkF m 16 #[.val (.int p1), .val (.int (2 : Int32)), .val (.ref a_BACKWARD), .val (.ref a_BACKWARD), .unset] [(.ref a_BACKWARD)]))
    obtain ⟨cq11, kq11, q11a, q11b, q11c⟩ := isOf hZ e10 (E_BACKWARD.ext Ol.2)
    obtain ⟨_, _, ⟨T11, L11, k11, n11⟩, -, X11, ⟨Lc11, hQ11, l11, y11, z11⟩, st11⟩ := X10.virtualBack hx (y := (⟨"com/example/onward_schema/onwardschema/model/CompatibilityStrategy", "readerSide", "()Lcom/example/onward_schema/onwardschema/model/CompatibilityStrategy;"⟩ : MethodName)) (z := (⟨"com/example/onward_schema/onwardschema/model/CompatibilityStrategy", "readerSide", "()Lcom/example/onward_schema/onwardschema/model/CompatibilityStrategy;"⟩ : MethodName)) hown (mvT hZ (hw _ (List.mem_of_getElem? (i := 10) rfl))) (mvT hZ (hw _ (List.mem_of_getElem? (i := 11) rfl))) (notFace_of_selects (args := #[]) (mvT hZ (hw _ (List.mem_of_getElem? (i := 13) rfl)))) (mvT hZ (hw _ (List.mem_of_getElem? (i := 13) rfl))) (mvT hZ (hw _ (List.mem_of_getElem? (i := 12) rfl))) (by decide) (backOf (W := 0) (rm3 l Z a0 hw [] a_ALWAYS_COMPATIBLE a_BACKWARD_TRANSITIVE a_FULL a_BACKWARD a_FULL_TRANSITIVE a_ALWAYS_INCOMPATIBLE a_FORWARD a_FORWARD_TRANSITIVE HW a_BACKWARD (1 : Int32) (0 : Int32) (0 : Int32) a_BACKWARD h0 n0 Ol F_BACKWARD_backward F_BACKWARD_forward F_BACKWARD_transitive (by simp)) hZ (hw _ (List.mem_of_getElem? (i := 14) rfl)) (hw _ (List.mem_of_getElem? (i := 5) rfl)) (by decide) (by decide)) q11a q11c (g := (mkF m 16 #[.val (.int p1), .val (.int (2 : Int32)), .val (.ref a_BACKWARD), .val (.ref a_BACKWARD), .unset] [(.ref a_BACKWARD)])) rfl (by rw [hml]; rfl) (Steps.refl _) (argsL := []) (rest := []) (lenOf pd_1 rfl) rfl (by show 2 * 0 + _ ≤ _; exact Nat.le_of_eq rfl) (hb hby at_16) (fun _ _ => ⟨rfl, e10, (by decide : 0 + 0 ≤ _), (by decide : 0 + 0 ≤ _)⟩)
    dsimp only [Pt.U, Pt.locs, Pt.cells, Pt.slots] at X11 l11 y11 z11 st11 hQ11
    subst l11 y11 z11
    obtain ⟨rfl, Nq11, e11⟩ := hQ11
    have N11 := Fr.app N10 Nq11
    refine Go.step (fun t_ k_ => st11.trans k_) ?_
    show Go p e below _ (T11.setTop (mkF m 19 #[.val (.int p1), .val (.int (2 : Int32)), .val (.ref a_BACKWARD), .val (.ref a_BACKWARD), .unset] [(.ref a_BACKWARD)]))
    refine Go.step (fun t_ k_ => XS.astore X11.here hx rfl (hb hby at_19) rfl rfl (l' := #[.val (.int p1), .val (.int (2 : Int32)), .val (.ref a_BACKWARD), .val (.ref a_BACKWARD), .val (.ref a_BACKWARD)]) rfl k_) ?_
    show Go p e below _ (T11.setTop (mkF m 21 #[.val (.int p1), .val (.int (2 : Int32)), .val (.ref a_BACKWARD), .val (.ref a_BACKWARD), .val (.ref a_BACKWARD)] []))
    refine Go.step (fun t_ k_ => XS.aload X11.here hx rfl (hb hby at_21) rfl rfl k_) ?_
    show Go p e below _ (T11.setTop (mkF m 23 #[.val (.int p1), .val (.int (2 : Int32)), .val (.ref a_BACKWARD), .val (.ref a_BACKWARD), .val (.ref a_BACKWARD)] [(.ref a_BACKWARD)]))
    refine Go.step (fun t_ k_ => XS.aloadN X11.here hx rfl (hb hby at_23) rfl rfl k_) ?_
    show Go p e below _ (T11.setTop (mkF m 24 #[.val (.int p1), .val (.int (2 : Int32)), .val (.ref a_BACKWARD), .val (.ref a_BACKWARD), .val (.ref a_BACKWARD)] [(.ref a_BACKWARD), (.ref a_BACKWARD)]))
    refine Go.step (fun t_ k_ => Jvm.RoadKit.acmp (g := (mkF m 24 #[.val (.int p1), .val (.int (2 : Int32)), .val (.ref a_BACKWARD), .val (.ref a_BACKWARD), .val (.ref a_BACKWARD)] [(.ref a_BACKWARD), (.ref a_BACKWARD)])) X11 hx rfl rfl rfl (pc0 := 24) (pc' := 27) (same := true) rfl (hb hby at_24) rfl (decide_eq_true rfl) (by decide) (by decide) k_) ?_
    show Go p e below _ (T11.setTop (mkF m 27 #[.val (.int p1), .val (.int (2 : Int32)), .val (.ref a_BACKWARD), .val (.ref a_BACKWARD), .val (.ref a_BACKWARD)] []))
    refine Go.step (fun t_ k_ => XS.aload X11.here hx rfl (hb hby at_27) rfl rfl k_) ?_
    show Go p e below _ (T11.setTop (mkF m 29 #[.val (.int p1), .val (.int (2 : Int32)), .val (.ref a_BACKWARD), .val (.ref a_BACKWARD), .val (.ref a_BACKWARD)] [(.ref a_BACKWARD)]))
    obtain ⟨cq12, kq12, q12a, q12b, q12c⟩ := isOf hZ e11 (E_BACKWARD.ext Ol.2)
    obtain ⟨_, _, ⟨T12, L12, k12, n12⟩, -, X12, ⟨Lc12, hQ12, l12, y12, z12⟩, st12⟩ := X11.virtualBack hx (y := (⟨"com/example/onward_schema/onwardschema/model/CompatibilityStrategy", "readerSide", "()Lcom/example/onward_schema/onwardschema/model/CompatibilityStrategy;"⟩ : MethodName)) (z := (⟨"com/example/onward_schema/onwardschema/model/CompatibilityStrategy", "readerSide", "()Lcom/example/onward_schema/onwardschema/model/CompatibilityStrategy;"⟩ : MethodName)) hown (mvT hZ (hw _ (List.mem_of_getElem? (i := 10) rfl))) (mvT hZ (hw _ (List.mem_of_getElem? (i := 11) rfl))) (notFace_of_selects (args := #[]) (mvT hZ (hw _ (List.mem_of_getElem? (i := 13) rfl)))) (mvT hZ (hw _ (List.mem_of_getElem? (i := 13) rfl))) (mvT hZ (hw _ (List.mem_of_getElem? (i := 12) rfl))) (by decide) (backOf (W := 0) (rm3 l Z a0 hw [] a_ALWAYS_COMPATIBLE a_BACKWARD_TRANSITIVE a_FULL a_BACKWARD a_FULL_TRANSITIVE a_ALWAYS_INCOMPATIBLE a_FORWARD a_FORWARD_TRANSITIVE HW a_BACKWARD (1 : Int32) (0 : Int32) (0 : Int32) a_BACKWARD h0 n0 Ol F_BACKWARD_backward F_BACKWARD_forward F_BACKWARD_transitive (by simp)) hZ (hw _ (List.mem_of_getElem? (i := 14) rfl)) (hw _ (List.mem_of_getElem? (i := 5) rfl)) (by decide) (by decide)) q12a q12c (g := (mkF m 29 #[.val (.int p1), .val (.int (2 : Int32)), .val (.ref a_BACKWARD), .val (.ref a_BACKWARD), .val (.ref a_BACKWARD)] [(.ref a_BACKWARD)])) rfl (by rw [hml]; rfl) (Steps.refl _) (argsL := []) (rest := []) (lenOf pd_1 rfl) rfl (by show 2 * 0 + _ ≤ _; exact Nat.le_of_eq rfl) (hb hby at_29) (fun _ _ => ⟨rfl, e11, (by decide : 0 + 0 ≤ _), (by decide : 0 + 0 ≤ _)⟩)
    dsimp only [Pt.U, Pt.locs, Pt.cells, Pt.slots] at X12 l12 y12 z12 st12 hQ12
    subst l12 y12 z12
    obtain ⟨rfl, Nq12, e12⟩ := hQ12
    have N12 := Fr.app N11 Nq12
    refine Go.step (fun t_ k_ => st12.trans k_) ?_
    show Go p e below _ (T12.setTop (mkF m 32 #[.val (.int p1), .val (.int (2 : Int32)), .val (.ref a_BACKWARD), .val (.ref a_BACKWARD), .val (.ref a_BACKWARD)] [(.ref a_BACKWARD)]))
    refine Go.step (fun t_ k_ => XS.aload X12.here hx rfl (hb hby at_32) rfl rfl k_) ?_
    show Go p e below _ (T12.setTop (mkF m 34 #[.val (.int p1), .val (.int (2 : Int32)), .val (.ref a_BACKWARD), .val (.ref a_BACKWARD), .val (.ref a_BACKWARD)] [(.ref a_BACKWARD), (.ref a_BACKWARD)]))
    refine Go.step (fun t_ k_ => Jvm.RoadKit.acmp (g := (mkF m 34 #[.val (.int p1), .val (.int (2 : Int32)), .val (.ref a_BACKWARD), .val (.ref a_BACKWARD), .val (.ref a_BACKWARD)] [(.ref a_BACKWARD), (.ref a_BACKWARD)])) X12 hx rfl rfl rfl (pc0 := 34) (pc' := 37) (same := true) rfl (hb hby at_34) rfl (decide_eq_true rfl) (by decide) (by decide) k_) ?_
    show Go p e below _ (T12.setTop (mkF m 37 #[.val (.int p1), .val (.int (2 : Int32)), .val (.ref a_BACKWARD), .val (.ref a_BACKWARD), .val (.ref a_BACKWARD)] []))
    refine Go.step (fun t_ k_ => XS.iconst X12.here hx rfl (hb hby at_37) k_) ?_
    show Go p e below _ (T12.setTop (mkF m 38 #[.val (.int p1), .val (.int (2 : Int32)), .val (.ref a_BACKWARD), .val (.ref a_BACKWARD), .val (.ref a_BACKWARD)] [(.int (1 : Int32))]))
    refine Go.step (fun t_ k_ => XS.goto X12.here hx rfl (pc0 := 38) (pc' := 42) rfl (hb hby at_38) (by decide) (by decide) k_) ?_
    show Go p e below _ (T12.setTop (mkF m 42 #[.val (.int p1), .val (.int (2 : Int32)), .val (.ref a_BACKWARD), .val (.ref a_BACKWARD), .val (.ref a_BACKWARD)] [(.int (1 : Int32))]))
    refine Go.retZ X12 hx (t := .boolean) Bd.returns (by simp) Bd.notSynchronized (hb hby at_42) (by rw [e12]; exact ⟨rfl, N12⟩) (by decide) (by decide)
  next =>
    show Go p e below _ (s₁.setTop (mkF m 5 #[.val (.int p1), .val (.int (3 : Int32)), .unset, .unset, .unset] []))
    refine Go.step (fun t_ k_ => XS.iloadN X0.here hx rfl (hb hby at_5) rfl k_) ?_
    show Go p e below _ (s₁.setTop (mkF m 6 #[.val (.int p1), .val (.int (3 : Int32)), .unset, .unset, .unset] [(.int (3 : Int32))]))
    obtain ⟨_, _, ⟨T13, L13, k13, n13⟩, -, X13, ⟨Lc13, hQ13, l13, y13, z13⟩, st13⟩ := Jvm.LawKit.callS X0 hx (y := (⟨"com/example/onward_schema/onwardschema/model/CompatibilityStrategyReaderSidePinLaw", "pick", "(I)Lcom/example/onward_schema/onwardschema/model/CompatibilityStrategy;"⟩ : MethodName)) hown (mvT hZ (hw _ (List.mem_of_getElem? (i := 0) rfl))) (mvT hZ (hw _ (List.mem_of_getElem? (i := 1) rfl))) (mvT hZ (hw _ (List.mem_of_getElem? (i := 2) rfl))) (mvT hZ (hw _ (List.mem_of_getElem? (i := 3) rfl))) (by decide) (backOf (W := 0) (rm1 l Z a0 hw [] a_ALWAYS_COMPATIBLE a_BACKWARD_TRANSITIVE a_FULL a_BACKWARD a_FULL_TRANSITIVE a_ALWAYS_INCOMPATIBLE a_FORWARD a_FORWARD_TRANSITIVE HW (3 : Int32) a_BACKWARD_TRANSITIVE h0 n0 Ol (by simp)) hZ (hw _ (List.mem_of_getElem? (i := 3) rfl)) (hw _ (List.mem_of_getElem? (i := 2) rfl)) (by decide) (by decide)) (g := (mkF m 6 #[.val (.int p1), .val (.int (3 : Int32)), .unset, .unset, .unset] [(.int (3 : Int32))])) rfl (by rw [hml]; rfl) (argsL := [(.int (3 : Int32))]) (rest := []) (lenOf pd_0 rfl) rfl (by show 2 * 0 + _ ≤ _; exact Nat.le_of_eq rfl) (hb hby at_6) (fun _ _ => ⟨rfl, e0, (by decide : 0 + 0 ≤ _), (by decide : 0 + 0 ≤ _)⟩)
    dsimp only [Pt.U, Pt.locs, Pt.cells, Pt.slots] at X13 l13 y13 z13 st13 hQ13
    subst l13 y13 z13
    obtain ⟨rfl, Nq13, e13⟩ := hQ13
    have N13 := Fr.app N0 Nq13
    refine Go.step st13 ?_
    show Go p e below _ (T13.setTop (mkF m 9 #[.val (.int p1), .val (.int (3 : Int32)), .unset, .unset, .unset] [(.ref a_BACKWARD_TRANSITIVE)]))
    refine Go.step (fun t_ k_ => XS.astoreN X13.here hx rfl (hb hby at_9) rfl rfl (l' := #[.val (.int p1), .val (.int (3 : Int32)), .val (.ref a_BACKWARD_TRANSITIVE), .unset, .unset]) rfl k_) ?_
    show Go p e below _ (T13.setTop (mkF m 10 #[.val (.int p1), .val (.int (3 : Int32)), .val (.ref a_BACKWARD_TRANSITIVE), .unset, .unset] []))
    refine Go.step (fun t_ k_ => XS.iloadN X13.here hx rfl (hb hby at_10) rfl k_) ?_
    show Go p e below _ (T13.setTop (mkF m 11 #[.val (.int p1), .val (.int (3 : Int32)), .val (.ref a_BACKWARD_TRANSITIVE), .unset, .unset] [(.int (3 : Int32))]))
    obtain ⟨_, _, ⟨T14, L14, k14, n14⟩, -, X14, ⟨Lc14, hQ14, l14, y14, z14⟩, st14⟩ := Jvm.LawKit.callS X13 hx (y := (⟨"com/example/onward_schema/onwardschema/model/CompatibilityStrategyReaderSidePinLaw", "expected", "(I)Lcom/example/onward_schema/onwardschema/model/CompatibilityStrategy;"⟩ : MethodName)) hown (mvT hZ (hw _ (List.mem_of_getElem? (i := 7) rfl))) (mvT hZ (hw _ (List.mem_of_getElem? (i := 8) rfl))) (mvT hZ (hw _ (List.mem_of_getElem? (i := 2) rfl))) (mvT hZ (hw _ (List.mem_of_getElem? (i := 9) rfl))) (by decide) (backOf (W := 0) (rm2 l Z a0 hw [] a_ALWAYS_COMPATIBLE a_BACKWARD_TRANSITIVE a_FULL a_BACKWARD a_FULL_TRANSITIVE a_ALWAYS_INCOMPATIBLE a_FORWARD a_FORWARD_TRANSITIVE HW (3 : Int32) a_BACKWARD_TRANSITIVE h0 n0 Ol (by simp)) hZ (hw _ (List.mem_of_getElem? (i := 9) rfl)) (hw _ (List.mem_of_getElem? (i := 2) rfl)) (by decide) (by decide)) (g := (mkF m 11 #[.val (.int p1), .val (.int (3 : Int32)), .val (.ref a_BACKWARD_TRANSITIVE), .unset, .unset] [(.int (3 : Int32))])) rfl (by rw [hml]; rfl) (argsL := [(.int (3 : Int32))]) (rest := []) (lenOf pd_0 rfl) rfl (by show 2 * 0 + _ ≤ _; exact Nat.le_of_eq rfl) (hb hby at_11) (fun _ _ => ⟨rfl, e13, (by decide : 0 + 0 ≤ _), (by decide : 0 + 0 ≤ _)⟩)
    dsimp only [Pt.U, Pt.locs, Pt.cells, Pt.slots] at X14 l14 y14 z14 st14 hQ14
    subst l14 y14 z14
    obtain ⟨rfl, Nq14, e14⟩ := hQ14
    have N14 := Fr.app N13 Nq14
    refine Go.step st14 ?_
    show Go p e below _ (T14.setTop (mkF m 14 #[.val (.int p1), .val (.int (3 : Int32)), .val (.ref a_BACKWARD_TRANSITIVE), .unset, .unset] [(.ref a_BACKWARD_TRANSITIVE)]))
    refine Go.step (fun t_ k_ => XS.astoreN X14.here hx rfl (hb hby at_14) rfl rfl (l' := #[.val (.int p1), .val (.int (3 : Int32)), .val (.ref a_BACKWARD_TRANSITIVE), .val (.ref a_BACKWARD_TRANSITIVE), .unset]) rfl k_) ?_
    show Go p e below _ (T14.setTop (mkF m 15 #[.val (.int p1), .val (.int (3 : Int32)), .val (.ref a_BACKWARD_TRANSITIVE), .val (.ref a_BACKWARD_TRANSITIVE), .unset] []))
    refine Go.step (fun t_ k_ => XS.aloadN X14.here hx rfl (hb hby at_15) rfl rfl k_) ?_
    show Go p e below _ (T14.setTop (mkF m 16 #[.val (.int p1), .val (.int (3 : Int32)), .val (.ref a_BACKWARD_TRANSITIVE), .val (.ref a_BACKWARD_TRANSITIVE), .unset] [(.ref a_BACKWARD_TRANSITIVE)]))
    obtain ⟨cq15, kq15, q15a, q15b, q15c⟩ := isOf hZ e14 (E_BACKWARD_TRANSITIVE.ext Ol.2)
    obtain ⟨_, _, ⟨T15, L15, k15, n15⟩, -, X15, ⟨Lc15, hQ15, l15, y15, z15⟩, st15⟩ := X14.virtualBack hx (y := (⟨"com/example/onward_schema/onwardschema/model/CompatibilityStrategy", "readerSide", "()Lcom/example/onward_schema/onwardschema/model/CompatibilityStrategy;"⟩ : MethodName)) (z := (⟨"com/example/onward_schema/onwardschema/model/CompatibilityStrategy", "readerSide", "()Lcom/example/onward_schema/onwardschema/model/CompatibilityStrategy;"⟩ : MethodName)) hown (mvT hZ (hw _ (List.mem_of_getElem? (i := 10) rfl))) (mvT hZ (hw _ (List.mem_of_getElem? (i := 11) rfl))) (notFace_of_selects (args := #[]) (mvT hZ (hw _ (List.mem_of_getElem? (i := 13) rfl)))) (mvT hZ (hw _ (List.mem_of_getElem? (i := 13) rfl))) (mvT hZ (hw _ (List.mem_of_getElem? (i := 12) rfl))) (by decide) (backOf (W := 0) (rm3 l Z a0 hw [] a_ALWAYS_COMPATIBLE a_BACKWARD_TRANSITIVE a_FULL a_BACKWARD a_FULL_TRANSITIVE a_ALWAYS_INCOMPATIBLE a_FORWARD a_FORWARD_TRANSITIVE HW a_BACKWARD_TRANSITIVE (1 : Int32) (0 : Int32) (1 : Int32) a_BACKWARD_TRANSITIVE h0 n0 Ol F_BACKWARD_TRANSITIVE_backward F_BACKWARD_TRANSITIVE_forward F_BACKWARD_TRANSITIVE_transitive (by simp)) hZ (hw _ (List.mem_of_getElem? (i := 14) rfl)) (hw _ (List.mem_of_getElem? (i := 5) rfl)) (by decide) (by decide)) q15a q15c (g := (mkF m 16 #[.val (.int p1), .val (.int (3 : Int32)), .val (.ref a_BACKWARD_TRANSITIVE), .val (.ref a_BACKWARD_TRANSITIVE), .unset] [(.ref a_BACKWARD_TRANSITIVE)])) rfl (by rw [hml]; rfl) (Steps.refl _) (argsL := []) (rest := []) (lenOf pd_1 rfl) rfl (by show 2 * 0 + _ ≤ _; exact Nat.le_of_eq rfl) (hb hby at_16) (fun _ _ => ⟨rfl, e14, (by decide : 0 + 0 ≤ _), (by decide : 0 + 0 ≤ _)⟩)
    dsimp only [Pt.U, Pt.locs, Pt.cells, Pt.slots] at X15 l15 y15 z15 st15 hQ15
    subst l15 y15 z15
    obtain ⟨rfl, Nq15, e15⟩ := hQ15
    have N15 := Fr.app N14 Nq15
    refine Go.step (fun t_ k_ => st15.trans k_) ?_
    show Go p e below _ (T15.setTop (mkF m 19 #[.val (.int p1), .val (.int (3 : Int32)), .val (.ref a_BACKWARD_TRANSITIVE), .val (.ref a_BACKWARD_TRANSITIVE), .unset] [(.ref a_BACKWARD_TRANSITIVE)]))
    refine Go.step (fun t_ k_ => XS.astore X15.here hx rfl (hb hby at_19) rfl rfl (l' := #[.val (.int p1), .val (.int (3 : Int32)), .val (.ref a_BACKWARD_TRANSITIVE), .val (.ref a_BACKWARD_TRANSITIVE), .val (.ref a_BACKWARD_TRANSITIVE)]) rfl k_) ?_
    show Go p e below _ (T15.setTop (mkF m 21 #[.val (.int p1), .val (.int (3 : Int32)), .val (.ref a_BACKWARD_TRANSITIVE), .val (.ref a_BACKWARD_TRANSITIVE), .val (.ref a_BACKWARD_TRANSITIVE)] []))
    refine Go.step (fun t_ k_ => XS.aload X15.here hx rfl (hb hby at_21) rfl rfl k_) ?_
    show Go p e below _ (T15.setTop (mkF m 23 #[.val (.int p1), .val (.int (3 : Int32)), .val (.ref a_BACKWARD_TRANSITIVE), .val (.ref a_BACKWARD_TRANSITIVE), .val (.ref a_BACKWARD_TRANSITIVE)] [(.ref a_BACKWARD_TRANSITIVE)]))
    refine Go.step (fun t_ k_ => XS.aloadN X15.here hx rfl (hb hby at_23) rfl rfl k_) ?_
    show Go p e below _ (T15.setTop (mkF m 24 #[.val (.int p1), .val (.int (3 : Int32)), .val (.ref a_BACKWARD_TRANSITIVE), .val (.ref a_BACKWARD_TRANSITIVE), .val (.ref a_BACKWARD_TRANSITIVE)] [(.ref a_BACKWARD_TRANSITIVE), (.ref a_BACKWARD_TRANSITIVE)]))
    refine Go.step (fun t_ k_ => Jvm.RoadKit.acmp (g := (mkF m 24 #[.val (.int p1), .val (.int (3 : Int32)), .val (.ref a_BACKWARD_TRANSITIVE), .val (.ref a_BACKWARD_TRANSITIVE), .val (.ref a_BACKWARD_TRANSITIVE)] [(.ref a_BACKWARD_TRANSITIVE), (.ref a_BACKWARD_TRANSITIVE)])) X15 hx rfl rfl rfl (pc0 := 24) (pc' := 27) (same := true) rfl (hb hby at_24) rfl (decide_eq_true rfl) (by decide) (by decide) k_) ?_
    show Go p e below _ (T15.setTop (mkF m 27 #[.val (.int p1), .val (.int (3 : Int32)), .val (.ref a_BACKWARD_TRANSITIVE), .val (.ref a_BACKWARD_TRANSITIVE), .val (.ref a_BACKWARD_TRANSITIVE)] []))
    refine Go.step (fun t_ k_ => XS.aload X15.here hx rfl (hb hby at_27) rfl rfl k_) ?_
    show Go p e below _ (T15.setTop (mkF m 29 #[.val (.int p1), .val (.int (3 : Int32)), .val (.ref a_BACKWARD_TRANSITIVE), .val (.ref a_BACKWARD_TRANSITIVE), .val (.ref a_BACKWARD_TRANSITIVE)] [(.ref a_BACKWARD_TRANSITIVE)]))
    obtain ⟨cq16, kq16, q16a, q16b, q16c⟩ := isOf hZ e15 (E_BACKWARD_TRANSITIVE.ext Ol.2)
    obtain ⟨_, _, ⟨T16, L16, k16, n16⟩, -, X16, ⟨Lc16, hQ16, l16, y16, z16⟩, st16⟩ := X15.virtualBack hx (y := (⟨"com/example/onward_schema/onwardschema/model/CompatibilityStrategy", "readerSide", "()Lcom/example/onward_schema/onwardschema/model/CompatibilityStrategy;"⟩ : MethodName)) (z := (⟨"com/example/onward_schema/onwardschema/model/CompatibilityStrategy", "readerSide", "()Lcom/example/onward_schema/onwardschema/model/CompatibilityStrategy;"⟩ : MethodName)) hown (mvT hZ (hw _ (List.mem_of_getElem? (i := 10) rfl))) (mvT hZ (hw _ (List.mem_of_getElem? (i := 11) rfl))) (notFace_of_selects (args := #[]) (mvT hZ (hw _ (List.mem_of_getElem? (i := 13) rfl)))) (mvT hZ (hw _ (List.mem_of_getElem? (i := 13) rfl))) (mvT hZ (hw _ (List.mem_of_getElem? (i := 12) rfl))) (by decide) (backOf (W := 0) (rm3 l Z a0 hw [] a_ALWAYS_COMPATIBLE a_BACKWARD_TRANSITIVE a_FULL a_BACKWARD a_FULL_TRANSITIVE a_ALWAYS_INCOMPATIBLE a_FORWARD a_FORWARD_TRANSITIVE HW a_BACKWARD_TRANSITIVE (1 : Int32) (0 : Int32) (1 : Int32) a_BACKWARD_TRANSITIVE h0 n0 Ol F_BACKWARD_TRANSITIVE_backward F_BACKWARD_TRANSITIVE_forward F_BACKWARD_TRANSITIVE_transitive (by simp)) hZ (hw _ (List.mem_of_getElem? (i := 14) rfl)) (hw _ (List.mem_of_getElem? (i := 5) rfl)) (by decide) (by decide)) q16a q16c (g := (mkF m 29 #[.val (.int p1), .val (.int (3 : Int32)), .val (.ref a_BACKWARD_TRANSITIVE), .val (.ref a_BACKWARD_TRANSITIVE), .val (.ref a_BACKWARD_TRANSITIVE)] [(.ref a_BACKWARD_TRANSITIVE)])) rfl (by rw [hml]; rfl) (Steps.refl _) (argsL := []) (rest := []) (lenOf pd_1 rfl) rfl (by show 2 * 0 + _ ≤ _; exact Nat.le_of_eq rfl) (hb hby at_29) (fun _ _ => ⟨rfl, e15, (by decide : 0 + 0 ≤ _), (by decide : 0 + 0 ≤ _)⟩)
    dsimp only [Pt.U, Pt.locs, Pt.cells, Pt.slots] at X16 l16 y16 z16 st16 hQ16
    subst l16 y16 z16
    obtain ⟨rfl, Nq16, e16⟩ := hQ16
    have N16 := Fr.app N15 Nq16
    refine Go.step (fun t_ k_ => st16.trans k_) ?_
    show Go p e below _ (T16.setTop (mkF m 32 #[.val (.int p1), .val (.int (3 : Int32)), .val (.ref a_BACKWARD_TRANSITIVE), .val (.ref a_BACKWARD_TRANSITIVE), .val (.ref a_BACKWARD_TRANSITIVE)] [(.ref a_BACKWARD_TRANSITIVE)]))
    refine Go.step (fun t_ k_ => XS.aload X16.here hx rfl (hb hby at_32) rfl rfl k_) ?_
    show Go p e below _ (T16.setTop (mkF m 34 #[.val (.int p1), .val (.int (3 : Int32)), .val (.ref a_BACKWARD_TRANSITIVE), .val (.ref a_BACKWARD_TRANSITIVE), .val (.ref a_BACKWARD_TRANSITIVE)] [(.ref a_BACKWARD_TRANSITIVE), (.ref a_BACKWARD_TRANSITIVE)]))
    refine Go.step (fun t_ k_ => Jvm.RoadKit.acmp (g := (mkF m 34 #[.val (.int p1), .val (.int (3 : Int32)), .val (.ref a_BACKWARD_TRANSITIVE), .val (.ref a_BACKWARD_TRANSITIVE), .val (.ref a_BACKWARD_TRANSITIVE)] [(.ref a_BACKWARD_TRANSITIVE), (.ref a_BACKWARD_TRANSITIVE)])) X16 hx rfl rfl rfl (pc0 := 34) (pc' := 37) (same := true) rfl (hb hby at_34) rfl (decide_eq_true rfl) (by decide) (by decide) k_) ?_
    show Go p e below _ (T16.setTop (mkF m 37 #[.val (.int p1), .val (.int (3 : Int32)), .val (.ref a_BACKWARD_TRANSITIVE), .val (.ref a_BACKWARD_TRANSITIVE), .val (.ref a_BACKWARD_TRANSITIVE)] []))
    refine Go.step (fun t_ k_ => XS.iconst X16.here hx rfl (hb hby at_37) k_) ?_
    show Go p e below _ (T16.setTop (mkF m 38 #[.val (.int p1), .val (.int (3 : Int32)), .val (.ref a_BACKWARD_TRANSITIVE), .val (.ref a_BACKWARD_TRANSITIVE), .val (.ref a_BACKWARD_TRANSITIVE)] [(.int (1 : Int32))]))
    refine Go.step (fun t_ k_ => XS.goto X16.here hx rfl (pc0 := 38) (pc' := 42) rfl (hb hby at_38) (by decide) (by decide) k_) ?_
    show Go p e below _ (T16.setTop (mkF m 42 #[.val (.int p1), .val (.int (3 : Int32)), .val (.ref a_BACKWARD_TRANSITIVE), .val (.ref a_BACKWARD_TRANSITIVE), .val (.ref a_BACKWARD_TRANSITIVE)] [(.int (1 : Int32))]))
    refine Go.retZ X16 hx (t := .boolean) Bd.returns (by simp) Bd.notSynchronized (hb hby at_42) (by rw [e16]; exact ⟨rfl, N16⟩) (by decide) (by decide)
  next =>
    show Go p e below _ (s₁.setTop (mkF m 5 #[.val (.int p1), .val (.int (4 : Int32)), .unset, .unset, .unset] []))
    refine Go.step (fun t_ k_ => XS.iloadN X0.here hx rfl (hb hby at_5) rfl k_) ?_
    show Go p e below _ (s₁.setTop (mkF m 6 #[.val (.int p1), .val (.int (4 : Int32)), .unset, .unset, .unset] [(.int (4 : Int32))]))
    obtain ⟨_, _, ⟨T17, L17, k17, n17⟩, -, X17, ⟨Lc17, hQ17, l17, y17, z17⟩, st17⟩ := Jvm.LawKit.callS X0 hx (y := (⟨"com/example/onward_schema/onwardschema/model/CompatibilityStrategyReaderSidePinLaw", "pick", "(I)Lcom/example/onward_schema/onwardschema/model/CompatibilityStrategy;"⟩ : MethodName)) hown (mvT hZ (hw _ (List.mem_of_getElem? (i := 0) rfl))) (mvT hZ (hw _ (List.mem_of_getElem? (i := 1) rfl))) (mvT hZ (hw _ (List.mem_of_getElem? (i := 2) rfl))) (mvT hZ (hw _ (List.mem_of_getElem? (i := 3) rfl))) (by decide) (backOf (W := 0) (rm1 l Z a0 hw [] a_ALWAYS_COMPATIBLE a_BACKWARD_TRANSITIVE a_FULL a_BACKWARD a_FULL_TRANSITIVE a_ALWAYS_INCOMPATIBLE a_FORWARD a_FORWARD_TRANSITIVE HW (4 : Int32) a_FORWARD h0 n0 Ol (by simp)) hZ (hw _ (List.mem_of_getElem? (i := 3) rfl)) (hw _ (List.mem_of_getElem? (i := 2) rfl)) (by decide) (by decide)) (g := (mkF m 6 #[.val (.int p1), .val (.int (4 : Int32)), .unset, .unset, .unset] [(.int (4 : Int32))])) rfl (by rw [hml]; rfl) (argsL := [(.int (4 : Int32))]) (rest := []) (lenOf pd_0 rfl) rfl (by show 2 * 0 + _ ≤ _; exact Nat.le_of_eq rfl) (hb hby at_6) (fun _ _ => ⟨rfl, e0, (by decide : 0 + 0 ≤ _), (by decide : 0 + 0 ≤ _)⟩)
    dsimp only [Pt.U, Pt.locs, Pt.cells, Pt.slots] at X17 l17 y17 z17 st17 hQ17
    subst l17 y17 z17
    obtain ⟨rfl, Nq17, e17⟩ := hQ17
    have N17 := Fr.app N0 Nq17
    refine Go.step st17 ?_
    show Go p e below _ (T17.setTop (mkF m 9 #[.val (.int p1), .val (.int (4 : Int32)), .unset, .unset, .unset] [(.ref a_FORWARD)]))
    refine Go.step (fun t_ k_ => XS.astoreN X17.here hx rfl (hb hby at_9) rfl rfl (l' := #[.val (.int p1), .val (.int (4 : Int32)), .val (.ref a_FORWARD), .unset, .unset]) rfl k_) ?_
    show Go p e below _ (T17.setTop (mkF m 10 #[.val (.int p1), .val (.int (4 : Int32)), .val (.ref a_FORWARD), .unset, .unset] []))
    refine Go.step (fun t_ k_ => XS.iloadN X17.here hx rfl (hb hby at_10) rfl k_) ?_
    show Go p e below _ (T17.setTop (mkF m 11 #[.val (.int p1), .val (.int (4 : Int32)), .val (.ref a_FORWARD), .unset, .unset] [(.int (4 : Int32))]))
    obtain ⟨_, _, ⟨T18, L18, k18, n18⟩, -, X18, ⟨Lc18, hQ18, l18, y18, z18⟩, st18⟩ := Jvm.LawKit.callS X17 hx (y := (⟨"com/example/onward_schema/onwardschema/model/CompatibilityStrategyReaderSidePinLaw", "expected", "(I)Lcom/example/onward_schema/onwardschema/model/CompatibilityStrategy;"⟩ : MethodName)) hown (mvT hZ (hw _ (List.mem_of_getElem? (i := 7) rfl))) (mvT hZ (hw _ (List.mem_of_getElem? (i := 8) rfl))) (mvT hZ (hw _ (List.mem_of_getElem? (i := 2) rfl))) (mvT hZ (hw _ (List.mem_of_getElem? (i := 9) rfl))) (by decide) (backOf (W := 0) (rm2 l Z a0 hw [] a_ALWAYS_COMPATIBLE a_BACKWARD_TRANSITIVE a_FULL a_BACKWARD a_FULL_TRANSITIVE a_ALWAYS_INCOMPATIBLE a_FORWARD a_FORWARD_TRANSITIVE HW (4 : Int32) a_BACKWARD h0 n0 Ol (by simp)) hZ (hw _ (List.mem_of_getElem? (i := 9) rfl)) (hw _ (List.mem_of_getElem? (i := 2) rfl)) (by decide) (by decide)) (g := (mkF m 11 #[.val (.int p1), .val (.int (4 : Int32)), .val (.ref a_FORWARD), .unset, .unset] [(.int (4 : Int32))])) rfl (by rw [hml]; rfl) (argsL := [(.int (4 : Int32))]) (rest := []) (lenOf pd_0 rfl) rfl (by show 2 * 0 + _ ≤ _; exact Nat.le_of_eq rfl) (hb hby at_11) (fun _ _ => ⟨rfl, e17, (by decide : 0 + 0 ≤ _), (by decide : 0 + 0 ≤ _)⟩)
    dsimp only [Pt.U, Pt.locs, Pt.cells, Pt.slots] at X18 l18 y18 z18 st18 hQ18
    subst l18 y18 z18
    obtain ⟨rfl, Nq18, e18⟩ := hQ18
    have N18 := Fr.app N17 Nq18
    refine Go.step st18 ?_
    show Go p e below _ (T18.setTop (mkF m 14 #[.val (.int p1), .val (.int (4 : Int32)), .val (.ref a_FORWARD), .unset, .unset] [(.ref a_BACKWARD)]))
    refine Go.step (fun t_ k_ => XS.astoreN X18.here hx rfl (hb hby at_14) rfl rfl (l' := #[.val (.int p1), .val (.int (4 : Int32)), .val (.ref a_FORWARD), .val (.ref a_BACKWARD), .unset]) rfl k_) ?_
    show Go p e below _ (T18.setTop (mkF m 15 #[.val (.int p1), .val (.int (4 : Int32)), .val (.ref a_FORWARD), .val (.ref a_BACKWARD), .unset] []))
    refine Go.step (fun t_ k_ => XS.aloadN X18.here hx rfl (hb hby at_15) rfl rfl k_) ?_
    show Go p e below _ (T18.setTop (mkF m 16 #[.val (.int p1), .val (.int (4 : Int32)), .val (.ref a_FORWARD), .val (.ref a_BACKWARD), .unset] [(.ref a_FORWARD)]))
    obtain ⟨cq19, kq19, q19a, q19b, q19c⟩ := isOf hZ e18 (E_FORWARD.ext Ol.2)
    obtain ⟨_, _, ⟨T19, L19, k19, n19⟩, -, X19, ⟨Lc19, hQ19, l19, y19, z19⟩, st19⟩ := X18.virtualBack hx (y := (⟨"com/example/onward_schema/onwardschema/model/CompatibilityStrategy", "readerSide", "()Lcom/example/onward_schema/onwardschema/model/CompatibilityStrategy;"⟩ : MethodName)) (z := (⟨"com/example/onward_schema/onwardschema/model/CompatibilityStrategy", "readerSide", "()Lcom/example/onward_schema/onwardschema/model/CompatibilityStrategy;"⟩ : MethodName)) hown (mvT hZ (hw _ (List.mem_of_getElem? (i := 10) rfl))) (mvT hZ (hw _ (List.mem_of_getElem? (i := 11) rfl))) (notFace_of_selects (args := #[]) (mvT hZ (hw _ (List.mem_of_getElem? (i := 13) rfl)))) (mvT hZ (hw _ (List.mem_of_getElem? (i := 13) rfl))) (mvT hZ (hw _ (List.mem_of_getElem? (i := 12) rfl))) (by decide) (backOf (W := 0) (rm3 l Z a0 hw [] a_ALWAYS_COMPATIBLE a_BACKWARD_TRANSITIVE a_FULL a_BACKWARD a_FULL_TRANSITIVE a_ALWAYS_INCOMPATIBLE a_FORWARD a_FORWARD_TRANSITIVE HW a_FORWARD (0 : Int32) (1 : Int32) (0 : Int32) a_BACKWARD h0 n0 Ol F_FORWARD_backward F_FORWARD_forward F_FORWARD_transitive (by simp)) hZ (hw _ (List.mem_of_getElem? (i := 14) rfl)) (hw _ (List.mem_of_getElem? (i := 5) rfl)) (by decide) (by decide)) q19a q19c (g := (mkF m 16 #[.val (.int p1), .val (.int (4 : Int32)), .val (.ref a_FORWARD), .val (.ref a_BACKWARD), .unset] [(.ref a_FORWARD)])) rfl (by rw [hml]; rfl) (Steps.refl _) (argsL := []) (rest := []) (lenOf pd_1 rfl) rfl (by show 2 * 0 + _ ≤ _; exact Nat.le_of_eq rfl) (hb hby at_16) (fun _ _ => ⟨rfl, e18, (by decide : 0 + 0 ≤ _), (by decide : 0 + 0 ≤ _)⟩)
    dsimp only [Pt.U, Pt.locs, Pt.cells, Pt.slots] at X19 l19 y19 z19 st19 hQ19
    subst l19 y19 z19
    obtain ⟨rfl, Nq19, e19⟩ := hQ19
    have N19 := Fr.app N18 Nq19
    refine Go.step (fun t_ k_ => st19.trans k_) ?_
    show Go p e below _ (T19.setTop (mkF m 19 #[.val (.int p1), .val (.int (4 : Int32)), .val (.ref a_FORWARD), .val (.ref a_BACKWARD), .unset] [(.ref a_BACKWARD)]))
    refine Go.step (fun t_ k_ => XS.astore X19.here hx rfl (hb hby at_19) rfl rfl (l' := #[.val (.int p1), .val (.int (4 : Int32)), .val (.ref a_FORWARD), .val (.ref a_BACKWARD), .val (.ref a_BACKWARD)]) rfl k_) ?_
    show Go p e below _ (T19.setTop (mkF m 21 #[.val (.int p1), .val (.int (4 : Int32)), .val (.ref a_FORWARD), .val (.ref a_BACKWARD), .val (.ref a_BACKWARD)] []))
    refine Go.step (fun t_ k_ => XS.aload X19.here hx rfl (hb hby at_21) rfl rfl k_) ?_
    show Go p e below _ (T19.setTop (mkF m 23 #[.val (.int p1), .val (.int (4 : Int32)), .val (.ref a_FORWARD), .val (.ref a_BACKWARD), .val (.ref a_BACKWARD)] [(.ref a_BACKWARD)]))
    refine Go.step (fun t_ k_ => XS.aloadN X19.here hx rfl (hb hby at_23) rfl rfl k_) ?_
    show Go p e below _ (T19.setTop (mkF m 24 #[.val (.int p1), .val (.int (4 : Int32)), .val (.ref a_FORWARD), .val (.ref a_BACKWARD), .val (.ref a_BACKWARD)] [(.ref a_BACKWARD), (.ref a_BACKWARD)]))
    refine Go.step (fun t_ k_ => Jvm.RoadKit.acmp (g := (mkF m 24 #[.val (.int p1), .val (.int (4 : Int32)), .val (.ref a_FORWARD), .val (.ref a_BACKWARD), .val (.ref a_BACKWARD)] [(.ref a_BACKWARD), (.ref a_BACKWARD)])) X19 hx rfl rfl rfl (pc0 := 24) (pc' := 27) (same := true) rfl (hb hby at_24) rfl (decide_eq_true rfl) (by decide) (by decide) k_) ?_
    show Go p e below _ (T19.setTop (mkF m 27 #[.val (.int p1), .val (.int (4 : Int32)), .val (.ref a_FORWARD), .val (.ref a_BACKWARD), .val (.ref a_BACKWARD)] []))
    refine Go.step (fun t_ k_ => XS.aload X19.here hx rfl (hb hby at_27) rfl rfl k_) ?_
    show Go p e below _ (T19.setTop (mkF m 29 #[.val (.int p1), .val (.int (4 : Int32)), .val (.ref a_FORWARD), .val (.ref a_BACKWARD), .val (.ref a_BACKWARD)] [(.ref a_BACKWARD)]))
    obtain ⟨cq20, kq20, q20a, q20b, q20c⟩ := isOf hZ e19 (E_BACKWARD.ext Ol.2)
    obtain ⟨_, _, ⟨T20, L20, k20, n20⟩, -, X20, ⟨Lc20, hQ20, l20, y20, z20⟩, st20⟩ := X19.virtualBack hx (y := (⟨"com/example/onward_schema/onwardschema/model/CompatibilityStrategy", "readerSide", "()Lcom/example/onward_schema/onwardschema/model/CompatibilityStrategy;"⟩ : MethodName)) (z := (⟨"com/example/onward_schema/onwardschema/model/CompatibilityStrategy", "readerSide", "()Lcom/example/onward_schema/onwardschema/model/CompatibilityStrategy;"⟩ : MethodName)) hown (mvT hZ (hw _ (List.mem_of_getElem? (i := 10) rfl))) (mvT hZ (hw _ (List.mem_of_getElem? (i := 11) rfl))) (notFace_of_selects (args := #[]) (mvT hZ (hw _ (List.mem_of_getElem? (i := 13) rfl)))) (mvT hZ (hw _ (List.mem_of_getElem? (i := 13) rfl))) (mvT hZ (hw _ (List.mem_of_getElem? (i := 12) rfl))) (by decide) (backOf (W := 0) (rm3 l Z a0 hw [] a_ALWAYS_COMPATIBLE a_BACKWARD_TRANSITIVE a_FULL a_BACKWARD a_FULL_TRANSITIVE a_ALWAYS_INCOMPATIBLE a_FORWARD a_FORWARD_TRANSITIVE HW a_BACKWARD (1 : Int32) (0 : Int32) (0 : Int32) a_BACKWARD h0 n0 Ol F_BACKWARD_backward F_BACKWARD_forward F_BACKWARD_transitive (by simp)) hZ (hw _ (List.mem_of_getElem? (i := 14) rfl)) (hw _ (List.mem_of_getElem? (i := 5) rfl)) (by decide) (by decide)) q20a q20c (g := (mkF m 29 #[.val (.int p1), .val (.int (4 : Int32)), .val (.ref a_FORWARD), .val (.ref a_BACKWARD), .val (.ref a_BACKWARD)] [(.ref a_BACKWARD)])) rfl (by rw [hml]; rfl) (Steps.refl _) (argsL := []) (rest := []) (lenOf pd_1 rfl) rfl (by show 2 * 0 + _ ≤ _; exact Nat.le_of_eq rfl) (hb hby at_29) (fun _ _ => ⟨rfl, e19, (by decide : 0 + 0 ≤ _), (by decide : 0 + 0 ≤ _)⟩)
    dsimp only [Pt.U, Pt.locs, Pt.cells, Pt.slots] at X20 l20 y20 z20 st20 hQ20
    subst l20 y20 z20
    obtain ⟨rfl, Nq20, e20⟩ := hQ20
    have N20 := Fr.app N19 Nq20
    refine Go.step (fun t_ k_ => st20.trans k_) ?_
    show Go p e below _ (T20.setTop (mkF m 32 #[.val (.int p1), .val (.int (4 : Int32)), .val (.ref a_FORWARD), .val (.ref a_BACKWARD), .val (.ref a_BACKWARD)] [(.ref a_BACKWARD)]))
    refine Go.step (fun t_ k_ => XS.aload X20.here hx rfl (hb hby at_32) rfl rfl k_) ?_
    show Go p e below _ (T20.setTop (mkF m 34 #[.val (.int p1), .val (.int (4 : Int32)), .val (.ref a_FORWARD), .val (.ref a_BACKWARD), .val (.ref a_BACKWARD)] [(.ref a_BACKWARD), (.ref a_BACKWARD)]))
    refine Go.step (fun t_ k_ => Jvm.RoadKit.acmp (g := (mkF m 34 #[.val (.int p1), .val (.int (4 : Int32)), .val (.ref a_FORWARD), .val (.ref a_BACKWARD), .val (.ref a_BACKWARD)] [(.ref a_BACKWARD), (.ref a_BACKWARD)])) X20 hx rfl rfl rfl (pc0 := 34) (pc' := 37) (same := true) rfl (hb hby at_34) rfl (decide_eq_true rfl) (by decide) (by decide) k_) ?_
    show Go p e below _ (T20.setTop (mkF m 37 #[.val (.int p1), .val (.int (4 : Int32)), .val (.ref a_FORWARD), .val (.ref a_BACKWARD), .val (.ref a_BACKWARD)] []))
    refine Go.step (fun t_ k_ => XS.iconst X20.here hx rfl (hb hby at_37) k_) ?_
    show Go p e below _ (T20.setTop (mkF m 38 #[.val (.int p1), .val (.int (4 : Int32)), .val (.ref a_FORWARD), .val (.ref a_BACKWARD), .val (.ref a_BACKWARD)] [(.int (1 : Int32))]))
    refine Go.step (fun t_ k_ => XS.goto X20.here hx rfl (pc0 := 38) (pc' := 42) rfl (hb hby at_38) (by decide) (by decide) k_) ?_
    show Go p e below _ (T20.setTop (mkF m 42 #[.val (.int p1), .val (.int (4 : Int32)), .val (.ref a_FORWARD), .val (.ref a_BACKWARD), .val (.ref a_BACKWARD)] [(.int (1 : Int32))]))
    refine Go.retZ X20 hx (t := .boolean) Bd.returns (by simp) Bd.notSynchronized (hb hby at_42) (by rw [e20]; exact ⟨rfl, N20⟩) (by decide) (by decide)
  next =>
    show Go p e below _ (s₁.setTop (mkF m 5 #[.val (.int p1), .val (.int (5 : Int32)), .unset, .unset, .unset] []))
    refine Go.step (fun t_ k_ => XS.iloadN X0.here hx rfl (hb hby at_5) rfl k_) ?_
    show Go p e below _ (s₁.setTop (mkF m 6 #[.val (.int p1), .val (.int (5 : Int32)), .unset, .unset, .unset] [(.int (5 : Int32))]))
    obtain ⟨_, _, ⟨T21, L21, k21, n21⟩, -, X21, ⟨Lc21, hQ21, l21, y21, z21⟩, st21⟩ := Jvm.LawKit.callS X0 hx (y := (⟨"com/example/onward_schema/onwardschema/model/CompatibilityStrategyReaderSidePinLaw", "pick", "(I)Lcom/example/onward_schema/onwardschema/model/CompatibilityStrategy;"⟩ : MethodName)) hown (mvT hZ (hw _ (List.mem_of_getElem? (i := 0) rfl))) (mvT hZ (hw _ (List.mem_of_getElem? (i := 1) rfl))) (mvT hZ (hw _ (List.mem_of_getElem? (i := 2) rfl))) (mvT hZ (hw _ (List.mem_of_getElem? (i := 3) rfl))) (by decide) (backOf (W := 0) (rm1 l Z a0 hw [] a_ALWAYS_COMPATIBLE a_BACKWARD_TRANSITIVE a_FULL a_BACKWARD a_FULL_TRANSITIVE a_ALWAYS_INCOMPATIBLE a_FORWARD a_FORWARD_TRANSITIVE HW (5 : Int32) a_FORWARD_TRANSITIVE h0 n0 Ol (by simp)) hZ (hw _ (List.mem_of_getElem? (i := 3) rfl)) (hw _ (List.mem_of_getElem? (i := 2) rfl)) (by decide) (by decide)) (g := (mkF m 6 #[.val (.int p1), .val (.int (5 : Int32)), .unset, .unset, .unset] [(.int (5 : Int32))])) rfl (by rw [hml]; rfl) (argsL := [(.int (5 : Int32))]) (rest := []) (lenOf pd_0 rfl) rfl (by show 2 * 0 + _ ≤ _; exact Nat.le_of_eq rfl) (hb hby at_6) (fun _ _ => ⟨rfl, e0, (by decide : 0 + 0 ≤ _), (by decide : 0 + 0 ≤ _)⟩)
    dsimp only [Pt.U, Pt.locs, Pt.cells, Pt.slots] at X21 l21 y21 z21 st21 hQ21
    subst l21 y21 z21
    obtain ⟨rfl, Nq21, e21⟩ := hQ21
    have N21 := Fr.app N0 Nq21
    refine Go.step st21 ?_
    show Go p e below _ (T21.setTop (mkF m 9 #[.val (.int p1), .val (.int (5 : Int32)), .unset, .unset, .unset] [(.ref a_FORWARD_TRANSITIVE)]))
    refine Go.step (fun t_ k_ => XS.astoreN X21.here hx rfl (hb hby at_9) rfl rfl (l' := #[.val (.int p1), .val (.int (5 : Int32)), .val (.ref a_FORWARD_TRANSITIVE), .unset, .unset]) rfl k_) ?_
    show Go p e below _ (T21.setTop (mkF m 10 #[.val (.int p1), .val (.int (5 : Int32)), .val (.ref a_FORWARD_TRANSITIVE), .unset, .unset] []))
    refine Go.step (fun t_ k_ => XS.iloadN X21.here hx rfl (hb hby at_10) rfl k_) ?_
    show Go p e below _ (T21.setTop (mkF m 11 #[.val (.int p1), .val (.int (5 : Int32)), .val (.ref a_FORWARD_TRANSITIVE), .unset, .unset] [(.int (5 : Int32))]))
    obtain ⟨_, _, ⟨T22, L22, k22, n22⟩, -, X22, ⟨Lc22, hQ22, l22, y22, z22⟩, st22⟩ := Jvm.LawKit.callS X21 hx (y := (⟨"com/example/onward_schema/onwardschema/model/CompatibilityStrategyReaderSidePinLaw", "expected", "(I)Lcom/example/onward_schema/onwardschema/model/CompatibilityStrategy;"⟩ : MethodName)) hown (mvT hZ (hw _ (List.mem_of_getElem? (i := 7) rfl))) (mvT hZ (hw _ (List.mem_of_getElem? (i := 8) rfl))) (mvT hZ (hw _ (List.mem_of_getElem? (i := 2) rfl))) (mvT hZ (hw _ (List.mem_of_getElem? (i := 9) rfl))) (by decide) (backOf (W := 0) (rm2 l Z a0 hw [] a_ALWAYS_COMPATIBLE a_BACKWARD_TRANSITIVE a_FULL a_BACKWARD a_FULL_TRANSITIVE a_ALWAYS_INCOMPATIBLE a_FORWARD a_FORWARD_TRANSITIVE HW (5 : Int32) a_BACKWARD_TRANSITIVE h0 n0 Ol (by simp)) hZ (hw _ (List.mem_of_getElem? (i := 9) rfl)) (hw _ (List.mem_of_getElem? (i := 2) rfl)) (by decide) (by decide)) (g := (mkF m 11 #[.val (.int p1), .val (.int (5 : Int32)), .val (.ref a_FORWARD_TRANSITIVE), .unset, .unset] [(.int (5 : Int32))])) rfl (by rw [hml]; rfl) (argsL := [(.int (5 : Int32))]) (rest := []) (lenOf pd_0 rfl) rfl (by show 2 * 0 + _ ≤ _; exact Nat.le_of_eq rfl) (hb hby at_11) (fun _ _ => ⟨rfl, e21, (by decide : 0 + 0 ≤ _), (by decide : 0 + 0 ≤ _)⟩)
    dsimp only [Pt.U, Pt.locs, Pt.cells, Pt.slots] at X22 l22 y22 z22 st22 hQ22
    subst l22 y22 z22
    obtain ⟨rfl, Nq22, e22⟩ := hQ22
    have N22 := Fr.app N21 Nq22
    refine Go.step st22 ?_
    show Go p e below _ (T22.setTop (mkF m 14 #[.val (.int p1), .val (.int (5 : Int32)), .val (.ref a_FORWARD_TRANSITIVE), .unset, .unset] [(.ref a_BACKWARD_TRANSITIVE)]))
    refine Go.step (fun t_ k_ => XS.astoreN X22.here hx rfl (hb hby at_14) rfl rfl (l' := #[.val (.int p1), .val (.int (5 : Int32)), .val (.ref a_FORWARD_TRANSITIVE), .val (.ref a_BACKWARD_TRANSITIVE), .unset]) rfl k_) ?_
    show Go p e below _ (T22.setTop (mkF m 15 #[.val (.int p1), .val (.int (5 : Int32)), .val (.ref a_FORWARD_TRANSITIVE), .val (.ref a_BACKWARD_TRANSITIVE), .unset] []))
    refine Go.step (fun t_ k_ => XS.aloadN X22.here hx rfl (hb hby at_15) rfl rfl k_) ?_
    show Go p e below _ (T22.setTop (mkF m 16 #[.val (.int p1), .val (.int (5 : Int32)), .val (.ref a_FORWARD_TRANSITIVE), .val (.ref a_BACKWARD_TRANSITIVE), .unset] [(.ref a_FORWARD_TRANSITIVE)]))
    obtain ⟨cq23, kq23, q23a, q23b, q23c⟩ := isOf hZ e22 (E_FORWARD_TRANSITIVE.ext Ol.2)
    obtain ⟨_, _, ⟨T23, L23, k23, n23⟩, -, X23, ⟨Lc23, hQ23, l23, y23, z23⟩, st23⟩ := X22.virtualBack hx (y := (⟨"com/example/onward_schema/onwardschema/model/CompatibilityStrategy", "readerSide", "()Lcom/example/onward_schema/onwardschema/model/CompatibilityStrategy;"⟩ : MethodName)) (z := (⟨"com/example/onward_schema/onwardschema/model/CompatibilityStrategy", "readerSide", "()Lcom/example/onward_schema/onwardschema/model/CompatibilityStrategy;"⟩ : MethodName)) hown (mvT hZ (hw _ (List.mem_of_getElem? (i := 10) rfl))) (mvT hZ (hw _ (List.mem_of_getElem? (i := 11) rfl))) (notFace_of_selects (args := #[]) (mvT hZ (hw _ (List.mem_of_getElem? (i := 13) rfl)))) (mvT hZ (hw _ (List.mem_of_getElem? (i := 13) rfl))) (mvT hZ (hw _ (List.mem_of_getElem? (i := 12) rfl))) (by decide) (backOf (W := 0) (rm3 l Z a0 hw [] a_ALWAYS_COMPATIBLE a_BACKWARD_TRANSITIVE a_FULL a_BACKWARD a_FULL_TRANSITIVE a_ALWAYS_INCOMPATIBLE a_FORWARD a_FORWARD_TRANSITIVE HW a_FORWARD_TRANSITIVE (0 : Int32) (1 : Int32) (1 : Int32) a_BACKWARD_TRANSITIVE h0 n0 Ol F_FORWARD_TRANSITIVE_backward F_FORWARD_TRANSITIVE_forward F_FORWARD_TRANSITIVE_transitive (by simp)) hZ (hw _ (List.mem_of_getElem? (i := 14) rfl)) (hw _ (List.mem_of_getElem? (i := 5) rfl)) (by decide) (by decide)) q23a q23c (g := (mkF m 16 #[.val (.int p1), .val (.int (5 : Int32)), .val (.ref a_FORWARD_TRANSITIVE), .val (.ref a_BACKWARD_TRANSITIVE), .unset] [(.ref a_FORWARD_TRANSITIVE)])) rfl (by rw [hml]; rfl) (Steps.refl _) (argsL := []) (rest := []) (lenOf pd_1 rfl) rfl (by show 2 * 0 + _ ≤ _; exact Nat.le_of_eq rfl) (hb hby at_16) (fun _ _ => ⟨rfl, e22, (by decide : 0 + 0 ≤ _), (by decide : 0 + 0 ≤ _)⟩)
    dsimp only [Pt.U, Pt.locs, Pt.cells, Pt.slots] at X23 l23 y23 z23 st23 hQ23
    subst l23 y23 z23
    obtain ⟨rfl, Nq23, e23⟩ := hQ23
    have N23 := Fr.app N22 Nq23
    refine Go.step (fun t_ k_ => st23.trans k_) ?_
    show Go p e below _ (T23.setTop (mkF m 19 #[.val (.int p1), .val (.int (5 : Int32)), .val (.ref a_FORWARD_TRANSITIVE), .val (.ref a_BACKWARD_TRANSITIVE), .unset] [(.ref a_BACKWARD_TRANSITIVE)]))
    refine Go.step (fun t_ k_ => XS.astore X23.here hx rfl (hb hby at_19) rfl rfl (l' := #[.val (.int p1), .val (.int (5 : Int32)), .val (.ref a_FORWARD_TRANSITIVE), .val (.ref a_BACKWARD_TRANSITIVE), .val (.ref a_BACKWARD_TRANSITIVE)]) rfl k_) ?_
    show Go p e below _ (T23.setTop (mkF m 21 #[.val (.int p1), .val (.int (5 : Int32)), .val (.ref a_FORWARD_TRANSITIVE), .val (.ref a_BACKWARD_TRANSITIVE), .val (.ref a_BACKWARD_TRANSITIVE)] []))
    refine Go.step (fun t_ k_ => XS.aload X23.here hx rfl (hb hby at_21) rfl rfl k_) ?_
    show Go p e below _ (T23.setTop (mkF m 23 #[.val (.int p1), .val (.int (5 : Int32)), .val (.ref a_FORWARD_TRANSITIVE), .val (.ref a_BACKWARD_TRANSITIVE), .val (.ref a_BACKWARD_TRANSITIVE)] [(.ref a_BACKWARD_TRANSITIVE)]))
    refine Go.step (fun t_ k_ => XS.aloadN X23.here hx rfl (hb hby at_23) rfl rfl k_) ?_
    show Go p e below _ (T23.setTop (mkF m 24 #[.val (.int p1), .val (.int (5 : Int32)), .val (.ref a_FORWARD_TRANSITIVE), .val (.ref a_BACKWARD_TRANSITIVE), .val (.ref a_BACKWARD_TRANSITIVE)] [(.ref a_BACKWARD_TRANSITIVE), (.ref a_BACKWARD_TRANSITIVE)]))
    refine Go.step (fun t_ k_ => Jvm.RoadKit.acmp (g := (mkF m 24 #[.val (.int p1), .val (.int (5 : Int32)), .val (.ref a_FORWARD_TRANSITIVE), .val (.ref a_BACKWARD_TRANSITIVE), .val (.ref a_BACKWARD_TRANSITIVE)] [(.ref a_BACKWARD_TRANSITIVE), (.ref a_BACKWARD_TRANSITIVE)])) X23 hx rfl rfl rfl (pc0 := 24) (pc' := 27) (same := true) rfl (hb hby at_24) rfl (decide_eq_true rfl) (by decide) (by decide) k_) ?_
    show Go p e below _ (T23.setTop (mkF m 27 #[.val (.int p1), .val (.int (5 : Int32)), .val (.ref a_FORWARD_TRANSITIVE), .val (.ref a_BACKWARD_TRANSITIVE), .val (.ref a_BACKWARD_TRANSITIVE)] []))
    refine Go.step (fun t_ k_ => XS.aload X23.here hx rfl (hb hby at_27) rfl rfl k_) ?_
    show Go p e below _ (T23.setTop (mkF m 29 #[.val (.int p1), .val (.int (5 : Int32)), .val (.ref a_FORWARD_TRANSITIVE), .val (.ref a_BACKWARD_TRANSITIVE), .val (.ref a_BACKWARD_TRANSITIVE)] [(.ref a_BACKWARD_TRANSITIVE)]))
    obtain ⟨cq24, kq24, q24a, q24b, q24c⟩ := isOf hZ e23 (E_BACKWARD_TRANSITIVE.ext Ol.2)
    obtain ⟨_, _, ⟨T24, L24, k24, n24⟩, -, X24, ⟨Lc24, hQ24, l24, y24, z24⟩, st24⟩ := X23.virtualBack hx (y := (⟨"com/example/onward_schema/onwardschema/model/CompatibilityStrategy", "readerSide", "()Lcom/example/onward_schema/onwardschema/model/CompatibilityStrategy;"⟩ : MethodName)) (z := (⟨"com/example/onward_schema/onwardschema/model/CompatibilityStrategy", "readerSide", "()Lcom/example/onward_schema/onwardschema/model/CompatibilityStrategy;"⟩ : MethodName)) hown (mvT hZ (hw _ (List.mem_of_getElem? (i := 10) rfl))) (mvT hZ (hw _ (List.mem_of_getElem? (i := 11) rfl))) (notFace_of_selects (args := #[]) (mvT hZ (hw _ (List.mem_of_getElem? (i := 13) rfl)))) (mvT hZ (hw _ (List.mem_of_getElem? (i := 13) rfl))) (mvT hZ (hw _ (List.mem_of_getElem? (i := 12) rfl))) (by decide) (backOf (W := 0) (rm3 l Z a0 hw [] a_ALWAYS_COMPATIBLE a_BACKWARD_TRANSITIVE a_FULL a_BACKWARD a_FULL_TRANSITIVE a_ALWAYS_INCOMPATIBLE a_FORWARD a_FORWARD_TRANSITIVE HW a_BACKWARD_TRANSITIVE (1 : Int32) (0 : Int32) (1 : Int32) a_BACKWARD_TRANSITIVE h0 n0 Ol F_BACKWARD_TRANSITIVE_backward F_BACKWARD_TRANSITIVE_forward F_BACKWARD_TRANSITIVE_transitive (by simp)) hZ (hw _ (List.mem_of_getElem? (i := 14) rfl)) (hw _ (List.mem_of_getElem? (i := 5) rfl)) (by decide) (by decide)) q24a q24c (g := (mkF m 29 #[.val (.int p1), .val (.int (5 : Int32)), .val (.ref a_FORWARD_TRANSITIVE), .val (.ref a_BACKWARD_TRANSITIVE), .val (.ref a_BACKWARD_TRANSITIVE)] [(.ref a_BACKWARD_TRANSITIVE)])) rfl (by rw [hml]; rfl) (Steps.refl _) (argsL := []) (rest := []) (lenOf pd_1 rfl) rfl (by show 2 * 0 + _ ≤ _; exact Nat.le_of_eq rfl) (hb hby at_29) (fun _ _ => ⟨rfl, e23, (by decide : 0 + 0 ≤ _), (by decide : 0 + 0 ≤ _)⟩)
    dsimp only [Pt.U, Pt.locs, Pt.cells, Pt.slots] at X24 l24 y24 z24 st24 hQ24
    subst l24 y24 z24
    obtain ⟨rfl, Nq24, e24⟩ := hQ24
    have N24 := Fr.app N23 Nq24
    refine Go.step (fun t_ k_ => st24.trans k_) ?_
    show Go p e below _ (T24.setTop (mkF m 32 #[.val (.int p1), .val (.int (5 : Int32)), .val (.ref a_FORWARD_TRANSITIVE), .val (.ref a_BACKWARD_TRANSITIVE), .val (.ref a_BACKWARD_TRANSITIVE)] [(.ref a_BACKWARD_TRANSITIVE)]))
    refine Go.step (fun t_ k_ => XS.aload X24.here hx rfl (hb hby at_32) rfl rfl k_) ?_
    show Go p e below _ (T24.setTop (mkF m 34 #[.val (.int p1), .val (.int (5 : Int32)), .val (.ref a_FORWARD_TRANSITIVE), .val (.ref a_BACKWARD_TRANSITIVE), .val (.ref a_BACKWARD_TRANSITIVE)] [(.ref a_BACKWARD_TRANSITIVE), (.ref a_BACKWARD_TRANSITIVE)]))
    refine Go.step (fun t_ k_ => Jvm.RoadKit.acmp (g := (mkF m 34 #[.val (.int p1), .val (.int (5 : Int32)), .val (.ref a_FORWARD_TRANSITIVE), .val (.ref a_BACKWARD_TRANSITIVE), .val (.ref a_BACKWARD_TRANSITIVE)] [(.ref a_BACKWARD_TRANSITIVE), (.ref a_BACKWARD_TRANSITIVE)])) X24 hx rfl rfl rfl (pc0 := 34) (pc' := 37) (same := true) rfl (hb hby at_34) rfl (decide_eq_true rfl) (by decide) (by decide) k_) ?_
    show Go p e below _ (T24.setTop (mkF m 37 #[.val (.int p1), .val (.int (5 : Int32)), .val (.ref a_FORWARD_TRANSITIVE), .val (.ref a_BACKWARD_TRANSITIVE), .val (.ref a_BACKWARD_TRANSITIVE)] []))
    refine Go.step (fun t_ k_ => XS.iconst X24.here hx rfl (hb hby at_37) k_) ?_
    show Go p e below _ (T24.setTop (mkF m 38 #[.val (.int p1), .val (.int (5 : Int32)), .val (.ref a_FORWARD_TRANSITIVE), .val (.ref a_BACKWARD_TRANSITIVE), .val (.ref a_BACKWARD_TRANSITIVE)] [(.int (1 : Int32))]))
    refine Go.step (fun t_ k_ => XS.goto X24.here hx rfl (pc0 := 38) (pc' := 42) rfl (hb hby at_38) (by decide) (by decide) k_) ?_
    show Go p e below _ (T24.setTop (mkF m 42 #[.val (.int p1), .val (.int (5 : Int32)), .val (.ref a_FORWARD_TRANSITIVE), .val (.ref a_BACKWARD_TRANSITIVE), .val (.ref a_BACKWARD_TRANSITIVE)] [(.int (1 : Int32))]))
    refine Go.retZ X24 hx (t := .boolean) Bd.returns (by simp) Bd.notSynchronized (hb hby at_42) (by rw [e24]; exact ⟨rfl, N24⟩) (by decide) (by decide)
  next =>
    show Go p e below _ (s₁.setTop (mkF m 5 #[.val (.int p1), .val (.int (6 : Int32)), .unset, .unset, .unset] []))
    refine Go.step (fun t_ k_ => XS.iloadN X0.here hx rfl (hb hby at_5) rfl k_) ?_
    show Go p e below _ (s₁.setTop (mkF m 6 #[.val (.int p1), .val (.int (6 : Int32)), .unset, .unset, .unset] [(.int (6 : Int32))]))
    obtain ⟨_, _, ⟨T25, L25, k25, n25⟩, -, X25, ⟨Lc25, hQ25, l25, y25, z25⟩, st25⟩ := Jvm.LawKit.callS X0 hx (y := (⟨"com/example/onward_schema/onwardschema/model/CompatibilityStrategyReaderSidePinLaw", "pick", "(I)Lcom/example/onward_schema/onwardschema/model/CompatibilityStrategy;"⟩ : MethodName)) hown (mvT hZ (hw _ (List.mem_of_getElem? (i := 0) rfl))) (mvT hZ (hw _ (List.mem_of_getElem? (i := 1) rfl))) (mvT hZ (hw _ (List.mem_of_getElem? (i := 2) rfl))) (mvT hZ (hw _ (List.mem_of_getElem? (i := 3) rfl))) (by decide) (backOf (W := 0) (rm1 l Z a0 hw [] a_ALWAYS_COMPATIBLE a_BACKWARD_TRANSITIVE a_FULL a_BACKWARD a_FULL_TRANSITIVE a_ALWAYS_INCOMPATIBLE a_FORWARD a_FORWARD_TRANSITIVE HW (6 : Int32) a_FULL h0 n0 Ol (by simp)) hZ (hw _ (List.mem_of_getElem? (i := 3) rfl)) (hw _ (List.mem_of_getElem? (i := 2) rfl)) (by decide) (by decide)) (g := (mkF m 6 #[.val (.int p1), .val (.int (6 : Int32)), .unset, .unset, .unset] [(.int (6 : Int32))])) rfl (by rw [hml]; rfl) (argsL := [(.int (6 : Int32))]) (rest := []) (lenOf pd_0 rfl) rfl (by show 2 * 0 + _ ≤ _; exact Nat.le_of_eq rfl) (hb hby at_6) (fun _ _ => ⟨rfl, e0, (by decide : 0 + 0 ≤ _), (by decide : 0 + 0 ≤ _)⟩)
    dsimp only [Pt.U, Pt.locs, Pt.cells, Pt.slots] at X25 l25 y25 z25 st25 hQ25
    subst l25 y25 z25
    obtain ⟨rfl, Nq25, e25⟩ := hQ25
    have N25 := Fr.app N0 Nq25
    refine Go.step st25 ?_
    show Go p e below _ (T25.setTop (mkF m 9 #[.val (.int p1), .val (.int (6 : Int32)), .unset, .unset, .unset] [(.ref a_FULL)]))
    refine Go.step (fun t_ k_ => XS.astoreN X25.here hx rfl (hb hby at_9) rfl rfl (l' := #[.val (.int p1), .val (.int (6 : Int32)), .val (.ref a_FULL), .unset, .unset]) rfl k_) ?_
    show Go p e below _ (T25.setTop (mkF m 10 #[.val (.int p1), .val (.int (6 : Int32)), .val (.ref a_FULL), .unset, .unset] []))
    refine Go.step (fun t_ k_ => XS.iloadN X25.here hx rfl (hb hby at_10) rfl k_) ?_
    show Go p e below _ (T25.setTop (mkF m 11 #[.val (.int p1), .val (.int (6 : Int32)), .val (.ref a_FULL), .unset, .unset] [(.int (6 : Int32))]))
    obtain ⟨_, _, ⟨T26, L26, k26, n26⟩, -, X26, ⟨Lc26, hQ26, l26, y26, z26⟩, st26⟩ := Jvm.LawKit.callS X25 hx (y := (⟨"com/example/onward_schema/onwardschema/model/CompatibilityStrategyReaderSidePinLaw", "expected", "(I)Lcom/example/onward_schema/onwardschema/model/CompatibilityStrategy;"⟩ : MethodName)) hown (mvT hZ (hw _ (List.mem_of_getElem? (i := 7) rfl))) (mvT hZ (hw _ (List.mem_of_getElem? (i := 8) rfl))) (mvT hZ (hw _ (List.mem_of_getElem? (i := 2) rfl))) (mvT hZ (hw _ (List.mem_of_getElem? (i := 9) rfl))) (by decide) (backOf (W := 0) (rm2 l Z a0 hw [] a_ALWAYS_COMPATIBLE a_BACKWARD_TRANSITIVE a_FULL a_BACKWARD a_FULL_TRANSITIVE a_ALWAYS_INCOMPATIBLE a_FORWARD a_FORWARD_TRANSITIVE HW (6 : Int32) a_BACKWARD h0 n0 Ol (by simp)) hZ (hw _ (List.mem_of_getElem? (i := 9) rfl)) (hw _ (List.mem_of_getElem? (i := 2) rfl)) (by decide) (by decide)) (g := (mkF m 11 #[.val (.int p1), .val (.int (6 : Int32)), .val (.ref a_FULL), .unset, .unset] [(.int (6 : Int32))])) rfl (by rw [hml]; rfl) (argsL := [(.int (6 : Int32))]) (rest := []) (lenOf pd_0 rfl) rfl (by show 2 * 0 + _ ≤ _; exact Nat.le_of_eq rfl) (hb hby at_11) (fun _ _ => ⟨rfl, e25, (by decide : 0 + 0 ≤ _), (by decide : 0 + 0 ≤ _)⟩)
    dsimp only [Pt.U, Pt.locs, Pt.cells, Pt.slots] at X26 l26 y26 z26 st26 hQ26
    subst l26 y26 z26
    obtain ⟨rfl, Nq26, e26⟩ := hQ26
    have N26 := Fr.app N25 Nq26
    refine Go.step st26 ?_
    show Go p e below _ (T26.setTop (mkF m 14 #[.val (.int p1), .val (.int (6 : Int32)), .val (.ref a_FULL), .unset, .unset] [(.ref a_BACKWARD)]))
    refine Go.step (fun t_ k_ => XS.astoreN X26.here hx rfl (hb hby at_14) rfl rfl (l' := #[.val (.int p1), .val (.int (6 : Int32)), .val (.ref a_FULL), .val (.ref a_BACKWARD), .unset]) rfl k_) ?_
    show Go p e below _ (T26.setTop (mkF m 15 #[.val (.int p1), .val (.int (6 : Int32)), .val (.ref a_FULL), .val (.ref a_BACKWARD), .unset] []))
    refine Go.step (fun t_ k_ => XS.aloadN X26.here hx rfl (hb hby at_15) rfl rfl k_) ?_
    show Go p e below _ (T26.setTop (mkF m 16 #[.val (.int p1), .val (.int (6 : Int32)), .val (.ref a_FULL), .val (.ref a_BACKWARD), .unset] [(.ref a_FULL)]))
    obtain ⟨cq27, kq27, q27a, q27b, q27c⟩ := isOf hZ e26 (E_FULL.ext Ol.2)
    obtain ⟨_, _, ⟨T27, L27, k27, n27⟩, -, X27, ⟨Lc27, hQ27, l27, y27, z27⟩, st27⟩ := X26.virtualBack hx (y := (⟨"com/example/onward_schema/onwardschema/model/CompatibilityStrategy", "readerSide", "()Lcom/example/onward_schema/onwardschema/model/CompatibilityStrategy;"⟩ : MethodName)) (z := (⟨"com/example/onward_schema/onwardschema/model/CompatibilityStrategy", "readerSide", "()Lcom/example/onward_schema/onwardschema/model/CompatibilityStrategy;"⟩ : MethodName)) hown (mvT hZ (hw _ (List.mem_of_getElem? (i := 10) rfl))) (mvT hZ (hw _ (List.mem_of_getElem? (i := 11) rfl))) (notFace_of_selects (args := #[]) (mvT hZ (hw _ (List.mem_of_getElem? (i := 13) rfl)))) (mvT hZ (hw _ (List.mem_of_getElem? (i := 13) rfl))) (mvT hZ (hw _ (List.mem_of_getElem? (i := 12) rfl))) (by decide) (backOf (W := 0) (rm3 l Z a0 hw [] a_ALWAYS_COMPATIBLE a_BACKWARD_TRANSITIVE a_FULL a_BACKWARD a_FULL_TRANSITIVE a_ALWAYS_INCOMPATIBLE a_FORWARD a_FORWARD_TRANSITIVE HW a_FULL (1 : Int32) (1 : Int32) (0 : Int32) a_BACKWARD h0 n0 Ol F_FULL_backward F_FULL_forward F_FULL_transitive (by simp)) hZ (hw _ (List.mem_of_getElem? (i := 14) rfl)) (hw _ (List.mem_of_getElem? (i := 5) rfl)) (by decide) (by decide)) q27a q27c (g := (mkF m 16 #[.val (.int p1), .val (.int (6 : Int32)), .val (.ref a_FULL), .val (.ref a_BACKWARD), .unset] [(.ref a_FULL)])) rfl (by rw [hml]; rfl) (Steps.refl _) (argsL := []) (rest := []) (lenOf pd_1 rfl) rfl (by show 2 * 0 + _ ≤ _; exact Nat.le_of_eq rfl) (hb hby at_16) (fun _ _ => ⟨rfl, e26, (by decide : 0 + 0 ≤ _), (by decide : 0 + 0 ≤ _)⟩)
    dsimp only [Pt.U, Pt.locs, Pt.cells, Pt.slots] at X27 l27 y27 z27 st27 hQ27
    subst l27 y27 z27
    obtain ⟨rfl, Nq27, e27⟩ := hQ27
    have N27 := Fr.app N26 Nq27
    refine Go.step (fun t_ k_ => st27.trans k_) ?_
    show Go p e below _ (T27.setTop (mkF m 19 #[.val (.int p1), .val (.int (6 : Int32)), .val (.ref a_FULL), .val (.ref a_BACKWARD), .unset] [(.ref a_BACKWARD)]))
    refine Go.step (fun t_ k_ => XS.astore X27.here hx rfl (hb hby at_19) rfl rfl (l' := #[.val (.int p1), .val (.int (6 : Int32)), .val (.ref a_FULL), .val (.ref a_BACKWARD), .val (.ref a_BACKWARD)]) rfl k_) ?_
    show Go p e below _ (T27.setTop (mkF m 21 #[.val (.int p1), .val (.int (6 : Int32)), .val (.ref a_FULL), .val (.ref a_BACKWARD), .val (.ref a_BACKWARD)] []))
    refine Go.step (fun t_ k_ => XS.aload X27.here hx rfl (hb hby at_21) rfl rfl k_) ?_
    show Go p e below _ (T27.setTop (mkF m 23 #[.val (.int p1), .val (.int (6 : Int32)), .val (.ref a_FULL), .val (.ref a_BACKWARD), .val (.ref a_BACKWARD)] [(.ref a_BACKWARD)]))
    refine Go.step (fun t_ k_ => XS.aloadN X27.here hx rfl (hb hby at_23) rfl rfl k_) ?_
    show Go p e below _ (T27.setTop (mkF m 24 #[.val (.int p1), .val (.int (6 : Int32)), .val (.ref a_FULL), .val (.ref a_BACKWARD), .val (.ref a_BACKWARD)] [(.ref a_BACKWARD), (.ref a_BACKWARD)]))
    refine Go.step (fun t_ k_ => Jvm.RoadKit.acmp (g := (mkF m 24 #[.val (.int p1), .val (.int (6 : Int32)), .val (.ref a_FULL), .val (.ref a_BACKWARD), .val (.ref a_BACKWARD)] [(.ref a_BACKWARD), (.ref a_BACKWARD)])) X27 hx rfl rfl rfl (pc0 := 24) (pc' := 27) (same := true) rfl (hb hby at_24) rfl (decide_eq_true rfl) (by decide) (by decide) k_) ?_
    show Go p e below _ (T27.setTop (mkF m 27 #[.val (.int p1), .val (.int (6 : Int32)), .val (.ref a_FULL), .val (.ref a_BACKWARD), .val (.ref a_BACKWARD)] []))
    refine Go.step (fun t_ k_ => XS.aload X27.here hx rfl (hb hby at_27) rfl rfl k_) ?_
    show Go p e below _ (T27.setTop (mkF m 29 #[.val (.int p1), .val (.int (6 : Int32)), .val (.ref a_FULL), .val (.ref a_BACKWARD), .val (.ref a_BACKWARD)] [(.ref a_BACKWARD)]))
    obtain ⟨cq28, kq28, q28a, q28b, q28c⟩ := isOf hZ e27 (E_BACKWARD.ext Ol.2)
    obtain ⟨_, _, ⟨T28, L28, k28, n28⟩, -, X28, ⟨Lc28, hQ28, l28, y28, z28⟩, st28⟩ := X27.virtualBack hx (y := (⟨"com/example/onward_schema/onwardschema/model/CompatibilityStrategy", "readerSide", "()Lcom/example/onward_schema/onwardschema/model/CompatibilityStrategy;"⟩ : MethodName)) (z := (⟨"com/example/onward_schema/onwardschema/model/CompatibilityStrategy", "readerSide", "()Lcom/example/onward_schema/onwardschema/model/CompatibilityStrategy;"⟩ : MethodName)) hown (mvT hZ (hw _ (List.mem_of_getElem? (i := 10) rfl))) (mvT hZ (hw _ (List.mem_of_getElem? (i := 11) rfl))) (notFace_of_selects (args := #[]) (mvT hZ (hw _ (List.mem_of_getElem? (i := 13) rfl)))) (mvT hZ (hw _ (List.mem_of_getElem? (i := 13) rfl))) (mvT hZ (hw _ (List.mem_of_getElem? (i := 12) rfl))) (by decide) (backOf (W := 0) (rm3 l Z a0 hw [] a_ALWAYS_COMPATIBLE a_BACKWARD_TRANSITIVE a_FULL a_BACKWARD a_FULL_TRANSITIVE a_ALWAYS_INCOMPATIBLE a_FORWARD a_FORWARD_TRANSITIVE HW a_BACKWARD (1 : Int32) (0 : Int32) (0 : Int32) a_BACKWARD h0 n0 Ol F_BACKWARD_backward F_BACKWARD_forward F_BACKWARD_transitive (by simp)) hZ (hw _ (List.mem_of_getElem? (i := 14) rfl)) (hw _ (List.mem_of_getElem? (i := 5) rfl)) (by decide) (by decide)) q28a q28c (g := (mkF m 29 #[.val (.int p1), .val (.int (6 : Int32)), .val (.ref a_FULL), .val (.ref a_BACKWARD), .val (.ref a_BACKWARD)] [(.ref a_BACKWARD)])) rfl (by rw [hml]; rfl) (Steps.refl _) (argsL := []) (rest := []) (lenOf pd_1 rfl) rfl (by show 2 * 0 + _ ≤ _; exact Nat.le_of_eq rfl) (hb hby at_29) (fun _ _ => ⟨rfl, e27, (by decide : 0 + 0 ≤ _), (by decide : 0 + 0 ≤ _)⟩)
    dsimp only [Pt.U, Pt.locs, Pt.cells, Pt.slots] at X28 l28 y28 z28 st28 hQ28
    subst l28 y28 z28
    obtain ⟨rfl, Nq28, e28⟩ := hQ28
    have N28 := Fr.app N27 Nq28
    refine Go.step (fun t_ k_ => st28.trans k_) ?_
    show Go p e below _ (T28.setTop (mkF m 32 #[.val (.int p1), .val (.int (6 : Int32)), .val (.ref a_FULL), .val (.ref a_BACKWARD), .val (.ref a_BACKWARD)] [(.ref a_BACKWARD)]))
    refine Go.step (fun t_ k_ => XS.aload X28.here hx rfl (hb hby at_32) rfl rfl k_) ?_
    show Go p e below _ (T28.setTop (mkF m 34 #[.val (.int p1), .val (.int (6 : Int32)), .val (.ref a_FULL), .val (.ref a_BACKWARD), .val (.ref a_BACKWARD)] [(.ref a_BACKWARD), (.ref a_BACKWARD)]))
    refine Go.step (fun t_ k_ => Jvm.RoadKit.acmp (g := (mkF m 34 #[.val (.int p1), .val (.int (6 : Int32)), .val (.ref a_FULL), .val (.ref a_BACKWARD), .val (.ref a_BACKWARD)] [(.ref a_BACKWARD), (.ref a_BACKWARD)])) X28 hx rfl rfl rfl (pc0 := 34) (pc' := 37) (same := true) rfl (hb hby at_34) rfl (decide_eq_true rfl) (by decide) (by decide) k_) ?_
    show Go p e below _ (T28.setTop (mkF m 37 #[.val (.int p1), .val (.int (6 : Int32)), .val (.ref a_FULL), .val (.ref a_BACKWARD), .val (.ref a_BACKWARD)] []))
    refine Go.step (fun t_ k_ => XS.iconst X28.here hx rfl (hb hby at_37) k_) ?_
    show Go p e below _ (T28.setTop (mkF m 38 #[.val (.int p1), .val (.int (6 : Int32)), .val (.ref a_FULL), .val (.ref a_BACKWARD), .val (.ref a_BACKWARD)] [(.int (1 : Int32))]))
    refine Go.step (fun t_ k_ => XS.goto X28.here hx rfl (pc0 := 38) (pc' := 42) rfl (hb hby at_38) (by decide) (by decide) k_) ?_
    show Go p e below _ (T28.setTop (mkF m 42 #[.val (.int p1), .val (.int (6 : Int32)), .val (.ref a_FULL), .val (.ref a_BACKWARD), .val (.ref a_BACKWARD)] [(.int (1 : Int32))]))
    refine Go.retZ X28 hx (t := .boolean) Bd.returns (by simp) Bd.notSynchronized (hb hby at_42) (by rw [e28]; exact ⟨rfl, N28⟩) (by decide) (by decide)
  next =>
    show Go p e below _ (s₁.setTop (mkF m 5 #[.val (.int p1), .val (.int (7 : Int32)), .unset, .unset, .unset] []))
    refine Go.step (fun t_ k_ => XS.iloadN X0.here hx rfl (hb hby at_5) rfl k_) ?_
    show Go p e below _ (s₁.setTop (mkF m 6 #[.val (.int p1), .val (.int (7 : Int32)), .unset, .unset, .unset] [(.int (7 : Int32))]))
    obtain ⟨_, _, ⟨T29, L29, k29, n29⟩, -, X29, ⟨Lc29, hQ29, l29, y29, z29⟩, st29⟩ := Jvm.LawKit.callS X0 hx (y := (⟨"com/example/onward_schema/onwardschema/model/CompatibilityStrategyReaderSidePinLaw", "pick", "(I)Lcom/example/onward_schema/onwardschema/model/CompatibilityStrategy;"⟩ : MethodName)) hown (mvT hZ (hw _ (List.mem_of_getElem? (i := 0) rfl))) (mvT hZ (hw _ (List.mem_of_getElem? (i := 1) rfl))) (mvT hZ (hw _ (List.mem_of_getElem? (i := 2) rfl))) (mvT hZ (hw _ (List.mem_of_getElem? (i := 3) rfl))) (by decide) (backOf (W := 0) (rm1 l Z a0 hw [] a_ALWAYS_COMPATIBLE a_BACKWARD_TRANSITIVE a_FULL a_BACKWARD a_FULL_TRANSITIVE a_ALWAYS_INCOMPATIBLE a_FORWARD a_FORWARD_TRANSITIVE HW (7 : Int32) a_FULL_TRANSITIVE h0 n0 Ol (by simp)) hZ (hw _ (List.mem_of_getElem? (i := 3) rfl)) (hw _ (List.mem_of_getElem? (i := 2) rfl)) (by decide) (by decide)) (g := (mkF m 6 #[.val (.int p1), .val (.int (7 : Int32)), .unset, .unset, .unset] [(.int (7 : Int32))])) rfl (by rw [hml]; rfl) (argsL := [(.int (7 : Int32))]) (rest := []) (lenOf pd_0 rfl) rfl (by show 2 * 0 + _ ≤ _; exact Nat.le_of_eq rfl) (hb hby at_6) (fun _ _ => ⟨rfl, e0, (by decide : 0 + 0 ≤ _), (by decide : 0 + 0 ≤ _)⟩)
    dsimp only [Pt.U, Pt.locs, Pt.cells, Pt.slots] at X29 l29 y29 z29 st29 hQ29
    subst l29 y29 z29
    obtain ⟨rfl, Nq29, e29⟩ := hQ29
    have N29 := Fr.app N0 Nq29
    refine Go.step st29 ?_
    show Go p e below _ (T29.setTop (mkF m 9 #[.val (.int p1), .val (.int (7 : Int32)), .unset, .unset, .unset] [(.ref a_FULL_TRANSITIVE)]))
    refine Go.step (fun t_ k_ => XS.astoreN X29.here hx rfl (hb hby at_9) rfl rfl (l' := #[.val (.int p1), .val (.int (7 : Int32)), .val (.ref a_FULL_TRANSITIVE), .unset, .unset]) rfl k_) ?_
    show Go p e below _ (T29.setTop (mkF m 10 #[.val (.int p1), .val (.int (7 : Int32)), .val (.ref a_FULL_TRANSITIVE), .unset, .unset] []))
    refine Go.step (fun t_ k_ => XS.iloadN X29.here hx rfl (hb hby at_10) rfl k_) ?_
    show Go p e below _ (T29.setTop (mkF m 11 #[.val (.int p1), .val (.int (7 : Int32)), .val (.ref a_FULL_TRANSITIVE), .unset, .unset] [(.int (7 : Int32))]))
    obtain ⟨_, _, ⟨T30, L30, k30, n30⟩, -, X30, ⟨Lc30, hQ30, l30, y30, z30⟩, st30⟩ := Jvm.LawKit.callS X29 hx (y := (⟨"com/example/onward_schema/onwardschema/model/CompatibilityStrategyReaderSidePinLaw", "expected", "(I)Lcom/example/onward_schema/onwardschema/model/CompatibilityStrategy;"⟩ : MethodName)) hown (mvT hZ (hw _ (List.mem_of_getElem? (i := 7) rfl))) (mvT hZ (hw _ (List.mem_of_getElem? (i := 8) rfl))) (mvT hZ (hw _ (List.mem_of_getElem? (i := 2) rfl))) (mvT hZ (hw _ (List.mem_of_getElem? (i := 9) rfl))) (by decide) (backOf (W := 0) (rm2 l Z a0 hw [] a_ALWAYS_COMPATIBLE a_BACKWARD_TRANSITIVE a_FULL a_BACKWARD a_FULL_TRANSITIVE a_ALWAYS_INCOMPATIBLE a_FORWARD a_FORWARD_TRANSITIVE HW (7 : Int32) a_BACKWARD_TRANSITIVE h0 n0 Ol (by simp)) hZ (hw _ (List.mem_of_getElem? (i := 9) rfl)) (hw _ (List.mem_of_getElem? (i := 2) rfl)) (by decide) (by decide)) (g := (mkF m 11 #[.val (.int p1), .val (.int (7 : Int32)), .val (.ref a_FULL_TRANSITIVE), .unset, .unset] [(.int (7 : Int32))])) rfl (by rw [hml]; rfl) (argsL := [(.int (7 : Int32))]) (rest := []) (lenOf pd_0 rfl) rfl (by show 2 * 0 + _ ≤ _; exact Nat.le_of_eq rfl) (hb hby at_11) (fun _ _ => ⟨rfl, e29, (by decide : 0 + 0 ≤ _), (by decide : 0 + 0 ≤ _)⟩)
    dsimp only [Pt.U, Pt.locs, Pt.cells, Pt.slots] at X30 l30 y30 z30 st30 hQ30
    subst l30 y30 z30
    obtain ⟨rfl, Nq30, e30⟩ := hQ30
    have N30 := Fr.app N29 Nq30
    refine Go.step st30 ?_
    show Go p e below _ (T30.setTop (mkF m 14 #[.val (.int p1), .val (.int (7 : Int32)), .val (.ref a_FULL_TRANSITIVE), .unset, .unset] [(.ref a_BACKWARD_TRANSITIVE)]))
    refine Go.step (fun t_ k_ => XS.astoreN X30.here hx rfl (hb hby at_14) rfl rfl (l' := #[.val (.int p1), .val (.int (7 : Int32)), .val (.ref a_FULL_TRANSITIVE), .val (.ref a_BACKWARD_TRANSITIVE), .unset]) rfl k_) ?_
    show Go p e below _ (T30.setTop (mkF m 15 #[.val (.int p1), .val (.int (7 : Int32)), .val (.ref a_FULL_TRANSITIVE), .val (.ref a_BACKWARD_TRANSITIVE), .unset] []))
    refine Go.step (fun t_ k_ => XS.aloadN X30.here hx rfl (hb hby at_15) rfl rfl k_) ?_
    show Go p e below _ (T30.setTop (mkF m 16 #[.val (.int p1), .val (.int (7 : Int32)), .val (.ref a_FULL_TRANSITIVE), .val (.ref a_BACKWARD_TRANSITIVE), .unset] [(.ref a_FULL_TRANSITIVE)]))
    obtain ⟨cq31, kq31, q31a, q31b, q31c⟩ := isOf hZ e30 (E_FULL_TRANSITIVE.ext Ol.2)
    obtain ⟨_, _, ⟨T31, L31, k31, n31⟩, -, X31, ⟨Lc31, hQ31, l31, y31, z31⟩, st31⟩ := X30.virtualBack hx (y := (⟨"com/example/onward_schema/onwardschema/model/CompatibilityStrategy", "readerSide", "()Lcom/example/onward_schema/onwardschema/model/CompatibilityStrategy;"⟩ : MethodName)) (z := (⟨"com/example/onward_schema/onwardschema/model/CompatibilityStrategy", "readerSide", "()Lcom/example/onward_schema/onwardschema/model/CompatibilityStrategy;"⟩ : MethodName)) hown (mvT hZ (hw _ (List.mem_of_getElem? (i := 10) rfl))) (mvT hZ (hw _ (List.mem_of_getElem? (i := 11) rfl))) (notFace_of_selects (args := #[]) (mvT hZ (hw _ (List.mem_of_getElem? (i := 13) rfl)))) (mvT hZ (hw _ (List.mem_of_getElem? (i := 13) rfl))) (mvT hZ (hw _ (List.mem_of_getElem? (i := 12) rfl))) (by decide) (backOf (W := 0) (rm3 l Z a0 hw [] a_ALWAYS_COMPATIBLE a_BACKWARD_TRANSITIVE a_FULL a_BACKWARD a_FULL_TRANSITIVE a_ALWAYS_INCOMPATIBLE a_FORWARD a_FORWARD_TRANSITIVE HW a_FULL_TRANSITIVE (1 : Int32) (1 : Int32) (1 : Int32) a_BACKWARD_TRANSITIVE h0 n0 Ol F_FULL_TRANSITIVE_backward F_FULL_TRANSITIVE_forward F_FULL_TRANSITIVE_transitive (by simp)) hZ (hw _ (List.mem_of_getElem? (i := 14) rfl)) (hw _ (List.mem_of_getElem? (i := 5) rfl)) (by decide) (by decide)) q31a q31c (g := (mkF m 16 #[.val (.int p1), .val (.int (7 : Int32)), .val (.ref a_FULL_TRANSITIVE), .val (.ref a_BACKWARD_TRANSITIVE), .unset] [(.ref a_FULL_TRANSITIVE)])) rfl (by rw [hml]; rfl) (Steps.refl _) (argsL := []) (rest := []) (lenOf pd_1 rfl) rfl (by show 2 * 0 + _ ≤ _; exact Nat.le_of_eq rfl) (hb hby at_16) (fun _ _ => ⟨rfl, e30, (by decide : 0 + 0 ≤ _), (by decide : 0 + 0 ≤ _)⟩)
    dsimp only [Pt.U, Pt.locs, Pt.cells, Pt.slots] at X31 l31 y31 z31 st31 hQ31
    subst l31 y31 z31
    obtain ⟨rfl, Nq31, e31⟩ := hQ31
    have N31 := Fr.app N30 Nq31
    refine Go.step (fun t_ k_ => st31.trans k_) ?_
    show Go p e below _ (T31.setTop (mkF m 19 #[.val (.int p1), .val (.int (7 : Int32)), .val (.ref a_FULL_TRANSITIVE), .val (.ref a_BACKWARD_TRANSITIVE), .unset] [(.ref a_BACKWARD_TRANSITIVE)]))
    refine Go.step (fun t_ k_ => XS.astore X31.here hx rfl (hb hby at_19) rfl rfl (l' := #[.val (.int p1), .val (.int (7 : Int32)), .val (.ref a_FULL_TRANSITIVE), .val (.ref a_BACKWARD_TRANSITIVE), .val (.ref a_BACKWARD_TRANSITIVE)]) rfl k_) ?_
    show Go p e below _ (T31.setTop (mkF m 21 #[.val (.int p1), .val (.int (7 : Int32)), .val (.ref a_FULL_TRANSITIVE), .val (.ref a_BACKWARD_TRANSITIVE), .val (.ref a_BACKWARD_TRANSITIVE)] []))
    refine Go.step (fun t_ k_ => XS.aload X31.here hx rfl (hb hby at_21) rfl rfl k_) ?_
    show Go p e below _ (T31.setTop (mkF m 23 #[.val (.int p1), .val (.int (7 : Int32)), .val (.ref a_FULL_TRANSITIVE), .val (.ref a_BACKWARD_TRANSITIVE), .val (.ref a_BACKWARD_TRANSITIVE)] [(.ref a_BACKWARD_TRANSITIVE)]))
    refine Go.step (fun t_ k_ => XS.aloadN X31.here hx rfl (hb hby at_23) rfl rfl k_) ?_
    show Go p e below _ (T31.setTop (mkF m 24 #[.val (.int p1), .val (.int (7 : Int32)), .val (.ref a_FULL_TRANSITIVE), .val (.ref a_BACKWARD_TRANSITIVE), .val (.ref a_BACKWARD_TRANSITIVE)] [(.ref a_BACKWARD_TRANSITIVE), (.ref a_BACKWARD_TRANSITIVE)]))
    refine Go.step (fun t_ k_ => Jvm.RoadKit.acmp (g := (mkF m 24 #[.val (.int p1), .val (.int (7 : Int32)), .val (.ref a_FULL_TRANSITIVE), .val (.ref a_BACKWARD_TRANSITIVE), .val (.ref a_BACKWARD_TRANSITIVE)] [(.ref a_BACKWARD_TRANSITIVE), (.ref a_BACKWARD_TRANSITIVE)])) X31 hx rfl rfl rfl (pc0 := 24) (pc' := 27) (same := true) rfl (hb hby at_24) rfl (decide_eq_true rfl) (by decide) (by decide) k_) ?_
    show Go p e below _ (T31.setTop (mkF m 27 #[.val (.int p1), .val (.int (7 : Int32)), .val (.ref a_FULL_TRANSITIVE), .val (.ref a_BACKWARD_TRANSITIVE), .val (.ref a_BACKWARD_TRANSITIVE)] []))
    refine Go.step (fun t_ k_ => XS.aload X31.here hx rfl (hb hby at_27) rfl rfl k_) ?_
    show Go p e below _ (T31.setTop (mkF m 29 #[.val (.int p1), .val (.int (7 : Int32)), .val (.ref a_FULL_TRANSITIVE), .val (.ref a_BACKWARD_TRANSITIVE), .val (.ref a_BACKWARD_TRANSITIVE)] [(.ref a_BACKWARD_TRANSITIVE)]))
    obtain ⟨cq32, kq32, q32a, q32b, q32c⟩ := isOf hZ e31 (E_BACKWARD_TRANSITIVE.ext Ol.2)
    obtain ⟨_, _, ⟨T32, L32, k32, n32⟩, -, X32, ⟨Lc32, hQ32, l32, y32, z32⟩, st32⟩ := X31.virtualBack hx (y := (⟨"com/example/onward_schema/onwardschema/model/CompatibilityStrategy", "readerSide", "()Lcom/example/onward_schema/onwardschema/model/CompatibilityStrategy;"⟩ : MethodName)) (z := (⟨"com/example/onward_schema/onwardschema/model/CompatibilityStrategy", "readerSide", "()Lcom/example/onward_schema/onwardschema/model/CompatibilityStrategy;"⟩ : MethodName)) hown (mvT hZ (hw _ (List.mem_of_getElem? (i := 10) rfl))) (mvT hZ (hw _ (List.mem_of_getElem? (i := 11) rfl))) (notFace_of_selects (args := #[]) (mvT hZ (hw _ (List.mem_of_getElem? (i := 13) rfl)))) (mvT hZ (hw _ (List.mem_of_getElem? (i := 13) rfl))) (mvT hZ (hw _ (List.mem_of_getElem? (i := 12) rfl))) (by decide) (backOf (W := 0) (rm3 l Z a0 hw [] a_ALWAYS_COMPATIBLE a_BACKWARD_TRANSITIVE a_FULL a_BACKWARD a_FULL_TRANSITIVE a_ALWAYS_INCOMPATIBLE a_FORWARD a_FORWARD_TRANSITIVE HW a_BACKWARD_TRANSITIVE (1 : Int32) (0 : Int32) (1 : Int32) a_BACKWARD_TRANSITIVE h0 n0 Ol F_BACKWARD_TRANSITIVE_backward F_BACKWARD_TRANSITIVE_forward F_BACKWARD_TRANSITIVE_transitive (by simp)) hZ (hw _ (List.mem_of_getElem? (i := 14) rfl)) (hw _ (List.mem_of_getElem? (i := 5) rfl)) (by decide) (by decide)) q32a q32c (g := (mkF m 29 #[.val (.int p1), .val (.int (7 : Int32)), .val (.ref a_FULL_TRANSITIVE), .val (.ref a_BACKWARD_TRANSITIVE), .val (.ref a_BACKWARD_TRANSITIVE)] [(.ref a_BACKWARD_TRANSITIVE)])) rfl (by rw [hml]; rfl) (Steps.refl _) (argsL := []) (rest := []) (lenOf pd_1 rfl) rfl (by show 2 * 0 + _ ≤ _; exact Nat.le_of_eq rfl) (hb hby at_29) (fun _ _ => ⟨rfl, e31, (by decide : 0 + 0 ≤ _), (by decide : 0 + 0 ≤ _)⟩)
    dsimp only [Pt.U, Pt.locs, Pt.cells, Pt.slots] at X32 l32 y32 z32 st32 hQ32
    subst l32 y32 z32
    obtain ⟨rfl, Nq32, e32⟩ := hQ32
    have N32 := Fr.app N31 Nq32
    refine Go.step (fun t_ k_ => st32.trans k_) ?_
    show Go p e below _ (T32.setTop (mkF m 32 #[.val (.int p1), .val (.int (7 : Int32)), .val (.ref a_FULL_TRANSITIVE), .val (.ref a_BACKWARD_TRANSITIVE), .val (.ref a_BACKWARD_TRANSITIVE)] [(.ref a_BACKWARD_TRANSITIVE)]))
    refine Go.step (fun t_ k_ => XS.aload X32.here hx rfl (hb hby at_32) rfl rfl k_) ?_
    show Go p e below _ (T32.setTop (mkF m 34 #[.val (.int p1), .val (.int (7 : Int32)), .val (.ref a_FULL_TRANSITIVE), .val (.ref a_BACKWARD_TRANSITIVE), .val (.ref a_BACKWARD_TRANSITIVE)] [(.ref a_BACKWARD_TRANSITIVE), (.ref a_BACKWARD_TRANSITIVE)]))
    refine Go.step (fun t_ k_ => Jvm.RoadKit.acmp (g := (mkF m 34 #[.val (.int p1), .val (.int (7 : Int32)), .val (.ref a_FULL_TRANSITIVE), .val (.ref a_BACKWARD_TRANSITIVE), .val (.ref a_BACKWARD_TRANSITIVE)] [(.ref a_BACKWARD_TRANSITIVE), (.ref a_BACKWARD_TRANSITIVE)])) X32 hx rfl rfl rfl (pc0 := 34) (pc' := 37) (same := true) rfl (hb hby at_34) rfl (decide_eq_true rfl) (by decide) (by decide) k_) ?_
    show Go p e below _ (T32.setTop (mkF m 37 #[.val (.int p1), .val (.int (7 : Int32)), .val (.ref a_FULL_TRANSITIVE), .val (.ref a_BACKWARD_TRANSITIVE), .val (.ref a_BACKWARD_TRANSITIVE)] []))
    refine Go.step (fun t_ k_ => XS.iconst X32.here hx rfl (hb hby at_37) k_) ?_
    show Go p e below _ (T32.setTop (mkF m 38 #[.val (.int p1), .val (.int (7 : Int32)), .val (.ref a_FULL_TRANSITIVE), .val (.ref a_BACKWARD_TRANSITIVE), .val (.ref a_BACKWARD_TRANSITIVE)] [(.int (1 : Int32))]))
    refine Go.step (fun t_ k_ => XS.goto X32.here hx rfl (pc0 := 38) (pc' := 42) rfl (hb hby at_38) (by decide) (by decide) k_) ?_
    show Go p e below _ (T32.setTop (mkF m 42 #[.val (.int p1), .val (.int (7 : Int32)), .val (.ref a_FULL_TRANSITIVE), .val (.ref a_BACKWARD_TRANSITIVE), .val (.ref a_BACKWARD_TRANSITIVE)] [(.int (1 : Int32))]))
    refine Go.retZ X32 hx (t := .boolean) Bd.returns (by simp) Bd.notSynchronized (hb hby at_42) (by rw [e32]; exact ⟨rfl, N32⟩) (by decide) (by decide)
set_option maxRecDepth 65536 in
set_option maxHeartbeats 40000000 in
theorem comes_1 {Post : Tables → Env → Array Value → State → Outcome → State → Prop} (hpost : ∀ tb e args s v u, (limb_1_1.after args s (.returned v) u = true ∧ limb_1_2.after args s (.returned v) u = true ∧ True) → FrameEnd s (.returned v) u (Jvm.fieldLocs frame_1_writes args s ++ Jvm.arrayLocs frame_1_arrays args s ++ Jvm.staticLocs frame_1_statics s) 0 0 → Post tb e args s (.returned v) u) :
    ArmFor flags0 classFile x code maxLocals ret World_1 tables_1 room_1 Calls_1 rest_1 Pre_1 Post := by
  intro l hfl _ _ p e ha hc hk s m args below hf hA hF happ hP
  obtain ⟨hcalls, hrest, hpre⟩ := hP
  obtain ⟨-, -, -, hnamed, -, -, -, hat⟩ := (Spec.applies_iff hf).mp happ
  obtain ⟨hg, hn⟩ := and_e (Cond.before_iff.mp (show (Jvm.Cond.and given_1 narrow_1).before args s = true from hpre))
  obtain ⟨hgl, hgr⟩ := and_e hg
  obtain ⟨w0, rfl⟩ : ∃ w0 : Value, args = #[w0] := by
    have hs : args.size = 1 := by simpa [Cond.value, given_1] using hgl
    obtain ⟨L⟩ := args
    match L, hs with
    | [w0], _ => exact ⟨w0, rfl⟩
  have hw := fun d (hd : d ∈ tables_1) => atoms_spec (ws := Jvm.Cond.code x code maxLocals ret :: tables_1) hat d (List.mem_cons_of_mem _ hd)
  have hfit : Fit s := fun {y c} hc i hi => by
    obtain ⟨ha, rfl⟩ := Array.getElem?_eq_some_iff.mp hc
    have q := List.all_eq_true.mp ((Array.all_eq_true_iff_forall_mem.mp hF) _ (Array.getElem_mem ha)) i (List.mem_range.mpr hi)
    simpa [Array.getElem?_eq_getElem hi] using q
  obtain ⟨i0, ei0⟩ := is_v hgr
  obtain rfl : w0 = (.int i0) := Option.some.inj ei0
  obtain ⟨hnl, hnr⟩ := and_e hn
  obtain ⟨hnrl, hnrr⟩ := and_e hnr
  obtain ⟨hnrrl, hnrrr⟩ := and_e hnrr
  obtain ⟨hnrrrl, hnrrrr⟩ := and_e hnrrr
  obtain ⟨hnrrrrl, hnrrrrr⟩ := and_e hnrrrr
  obtain ⟨hnrrrrrl, hnrrrrrr⟩ := and_e hnrrrrr
  obtain ⟨hnrrrrrrl, hnrrrrrrr⟩ := and_e hnrrrrrr
  obtain ⟨hnrrrrrrrl, hnrrrrrrrr⟩ := and_e hnrrrrrrr
  obtain ⟨hnrrrrrrrrl, hnrrrrrrrrr⟩ := and_e hnrrrrrrrr
  obtain ⟨hnrrrrrrrrrl, hnrrrrrrrrrr⟩ := and_e hnrrrrrrrrr
  obtain ⟨hnrrrrrrrrrrl, hnrrrrrrrrrrr⟩ := and_e hnrrrrrrrrrr
  obtain ⟨hnrrrrrrrrrrrl, hnrrrrrrrrrrrr⟩ := and_e hnrrrrrrrrrrr
  obtain ⟨hnrrrrrrrrrrrrl, hnrrrrrrrrrrrrr⟩ := and_e hnrrrrrrrrrrrr
  obtain ⟨hnrrrrrrrrrrrrrl, hnrrrrrrrrrrrrrr⟩ := and_e hnrrrrrrrrrrrrr
  obtain ⟨hnrrrrrrrrrrrrrrl, hnrrrrrrrrrrrrrrr⟩ := and_e hnrrrrrrrrrrrrrr
  obtain ⟨hnrrrrrrrrrrrrrrrl, hnrrrrrrrrrrrrrrrr⟩ := and_e hnrrrrrrrrrrrrrrr
  obtain ⟨hnrrrrrrrrrrrrrrrrl, hnrrrrrrrrrrrrrrrrr⟩ := and_e hnrrrrrrrrrrrrrrrr
  obtain ⟨hnrrrrrrrrrrrrrrrrrl, hnrrrrrrrrrrrrrrrrrr⟩ := and_e hnrrrrrrrrrrrrrrrrr
  obtain ⟨hnrrrrrrrrrrrrrrrrrrl, hnrrrrrrrrrrrrrrrrrrr⟩ := and_e hnrrrrrrrrrrrrrrrrrr
  obtain ⟨hnrrrrrrrrrrrrrrrrrrrl, hnrrrrrrrrrrrrrrrrrrrr⟩ := and_e hnrrrrrrrrrrrrrrrrrrr
  obtain ⟨hnrrrrrrrrrrrrrrrrrrrrl, hnrrrrrrrrrrrrrrrrrrrrr⟩ := and_e hnrrrrrrrrrrrrrrrrrrrr
  obtain ⟨hnrrrrrrrrrrrrrrrrrrrrrl, hnrrrrrrrrrrrrrrrrrrrrrr⟩ := and_e hnrrrrrrrrrrrrrrrrrrrrr
  obtain ⟨hnrrrrrrrrrrrrrrrrrrrrrrl, hnrrrrrrrrrrrrrrrrrrrrrrr⟩ := and_e hnrrrrrrrrrrrrrrrrrrrrrr
  obtain ⟨hnrrrrrrrrrrrrrrrrrrrrrrrl, hnrrrrrrrrrrrrrrrrrrrrrrrr⟩ := and_e hnrrrrrrrrrrrrrrrrrrrrrrr
  obtain ⟨hnrrrrrrrrrrrrrrrrrrrrrrrrl, hnrrrrrrrrrrrrrrrrrrrrrrrrr⟩ := and_e hnrrrrrrrrrrrrrrrrrrrrrrrr
  obtain ⟨hnrrrrrrrrrrrrrrrrrrrrrrrrrl, hnrrrrrrrrrrrrrrrrrrrrrrrrrr⟩ := and_e hnrrrrrrrrrrrrrrrrrrrrrrrrr
  obtain ⟨hnrrrrrrrrrrrrrrrrrrrrrrrrrrl, hnrrrrrrrrrrrrrrrrrrrrrrrrrrr⟩ := and_e hnrrrrrrrrrrrrrrrrrrrrrrrrrr
  obtain ⟨hnrrrrrrrrrrrrrrrrrrrrrrrrrrrl, hnrrrrrrrrrrrrrrrrrrrrrrrrrrrr⟩ := and_e hnrrrrrrrrrrrrrrrrrrrrrrrrrrr
  obtain ⟨hnrrrrrrrrrrrrrrrrrrrrrrrrrrrrl, hnrrrrrrrrrrrrrrrrrrrrrrrrrrrrr⟩ := and_e hnrrrrrrrrrrrrrrrrrrrrrrrrrrrr
  obtain ⟨hnrrrrrrrrrrrrrrrrrrrrrrrrrrrrrl, hnrrrrrrrrrrrrrrrrrrrrrrrrrrrrrr⟩ := and_e hnrrrrrrrrrrrrrrrrrrrrrrrrrrrrr
  obtain ⟨hnrrrrrrrrrrrrrrrrrrrrrrrrrrrrrrl, hnrrrrrrrrrrrrrrrrrrrrrrrrrrrrrrr⟩ := and_e hnrrrrrrrrrrrrrrrrrrrrrrrrrrrrrr
  obtain ⟨a_ALWAYS_COMPATIBLE, ev_ALWAYS_COMPATIBLE⟩ := exa_v hnl
  obtain ⟨a_BACKWARD_TRANSITIVE, ev_BACKWARD_TRANSITIVE⟩ := exa_v hnrrrl
  obtain ⟨a_FULL, ev_FULL⟩ := exa_v hnrrrrrrl
  obtain ⟨a_BACKWARD, ev_BACKWARD⟩ := exa_v hnrrrrrrrl
  obtain ⟨a_FULL_TRANSITIVE, ev_FULL_TRANSITIVE⟩ := exa_v hnrrrrrrrrrrrrl
  obtain ⟨a_ALWAYS_INCOMPATIBLE, ev_ALWAYS_INCOMPATIBLE⟩ := exa_v hnrrrrrrrrrrrrrrrl
  obtain ⟨a_FORWARD, ev_FORWARD⟩ := exa_v hnrrrrrrrrrrrrrrrrrrl
  obtain ⟨a_FORWARD_TRANSITIVE, ev_FORWARD_TRANSITIVE⟩ := exa_v hnrrrrrrrrrrrrrrrrrrrrrrl
  have HW : Wd s a_ALWAYS_COMPATIBLE a_BACKWARD_TRANSITIVE a_FULL a_BACKWARD a_FULL_TRANSITIVE a_ALWAYS_INCOMPATIBLE a_FORWARD a_FORWARD_TRANSITIVE := ⟨Sta.start ev_ALWAYS_COMPATIBLE (Or.inr ⟨(hw _ (List.mem_of_getElem? (i := 5) rfl)), (hw _ (List.mem_of_getElem? (i := 6) rfl))⟩), Exa.start ev_ALWAYS_COMPATIBLE hnl, Sta.start ev_BACKWARD_TRANSITIVE (Or.inr ⟨(hw _ (List.mem_of_getElem? (i := 5) rfl)), (hw _ (List.mem_of_getElem? (i := 20) rfl))⟩), Exa.start ev_BACKWARD_TRANSITIVE hnrrrl, Sta.start ev_FULL (Or.inr ⟨(hw _ (List.mem_of_getElem? (i := 5) rfl)), (hw _ (List.mem_of_getElem? (i := 25) rfl))⟩), Exa.start ev_FULL hnrrrrrrl, Sta.start ev_BACKWARD (Or.inr ⟨(hw _ (List.mem_of_getElem? (i := 5) rfl)), (hw _ (List.mem_of_getElem? (i := 27) rfl))⟩), Exa.start ev_BACKWARD hnrrrrrrrl, Sta.start ev_FULL_TRANSITIVE (Or.inr ⟨(hw _ (List.mem_of_getElem? (i := 5) rfl)), (hw _ (List.mem_of_getElem? (i := 30) rfl))⟩), Exa.start ev_FULL_TRANSITIVE hnrrrrrrrrrrrrl, Sta.start ev_ALWAYS_INCOMPATIBLE (Or.inr ⟨(hw _ (List.mem_of_getElem? (i := 5) rfl)), (hw _ (List.mem_of_getElem? (i := 32) rfl))⟩), Exa.start ev_ALWAYS_INCOMPATIBLE hnrrrrrrrrrrrrrrrl, Sta.start ev_FORWARD (Or.inr ⟨(hw _ (List.mem_of_getElem? (i := 5) rfl)), (hw _ (List.mem_of_getElem? (i := 34) rfl))⟩), Exa.start ev_FORWARD hnrrrrrrrrrrrrrrrrrrl, Sta.start ev_FORWARD_TRANSITIVE (Or.inr ⟨(hw _ (List.mem_of_getElem? (i := 5) rfl)), (hw _ (List.mem_of_getElem? (i := 36) rfl))⟩), Exa.start ev_FORWARD_TRANSITIVE hnrrrrrrrrrrrrrrrrrrrrrrl, Fld.start ((fld_at ev_ALWAYS_COMPATIBLE).symm.trans (eq_int hnrl)), Fld.start ((fld_at ev_ALWAYS_COMPATIBLE).symm.trans (eq_int hnrrl)), Fld.start ((fld_at ev_BACKWARD_TRANSITIVE).symm.trans (eq_int hnrrrrl)), Fld.start ((fld_at ev_BACKWARD_TRANSITIVE).symm.trans (eq_int hnrrrrrl)), Fld.start ((fld_at ev_FULL).symm.trans (eq_int hnrrrrrrrrl)), Fld.start ((fld_at ev_FULL).symm.trans (eq_int hnrrrrrrrrrl)), Fld.start ((fld_at ev_BACKWARD).symm.trans (eq_int hnrrrrrrrrrrl)), Fld.start ((fld_at ev_BACKWARD).symm.trans (eq_int hnrrrrrrrrrrrl)), Fld.start ((fld_at ev_FULL_TRANSITIVE).symm.trans (eq_int hnrrrrrrrrrrrrrl)), Fld.start ((fld_at ev_FULL_TRANSITIVE).symm.trans (eq_int hnrrrrrrrrrrrrrrl)), Fld.start ((fld_at ev_ALWAYS_INCOMPATIBLE).symm.trans (eq_int hnrrrrrrrrrrrrrrrrl)), Fld.start ((fld_at ev_ALWAYS_INCOMPATIBLE).symm.trans (eq_int hnrrrrrrrrrrrrrrrrrl)), Fld.start ((fld_at ev_FORWARD).symm.trans (eq_int hnrrrrrrrrrrrrrrrrrrrl)), Fld.start ((fld_at ev_FORWARD).symm.trans (eq_int hnrrrrrrrrrrrrrrrrrrrrl)), Fld.start ((fld_at ev_FORWARD).symm.trans (eq_int hnrrrrrrrrrrrrrrrrrrrrrl)), Fld.start ((fld_at ev_FORWARD_TRANSITIVE).symm.trans (eq_int hnrrrrrrrrrrrrrrrrrrrrrrrl)), Fld.start ((fld_at ev_FORWARD_TRANSITIVE).symm.trans (eq_int hnrrrrrrrrrrrrrrrrrrrrrrrrl)), Fld.start ((fld_at ev_FORWARD_TRANSITIVE).symm.trans (eq_int hnrrrrrrrrrrrrrrrrrrrrrrrrrl)), Fld.start ((fld_at ev_ALWAYS_COMPATIBLE).symm.trans (eq_int hnrrrrrrrrrrrrrrrrrrrrrrrrrrl)), Fld.start ((fld_at ev_BACKWARD_TRANSITIVE).symm.trans (eq_int hnrrrrrrrrrrrrrrrrrrrrrrrrrrrl)), Fld.start ((fld_at ev_FULL).symm.trans (eq_int hnrrrrrrrrrrrrrrrrrrrrrrrrrrrrl)), Fld.start ((fld_at ev_BACKWARD).symm.trans (eq_int hnrrrrrrrrrrrrrrrrrrrrrrrrrrrrrl)), Fld.start ((fld_at ev_FULL_TRANSITIVE).symm.trans (eq_int hnrrrrrrrrrrrrrrrrrrrrrrrrrrrrrrl)), Fld.start ((fld_at ev_ALWAYS_INCOMPATIBLE).symm.trans (eq_int hnrrrrrrrrrrrrrrrrrrrrrrrrrrrrrrr))⟩
  obtain ⟨n, o, h1, h2, h3, _, L, rfl, ⟨rfl, N⟩, hq⟩ := rm0 l s _ hw tables_1 a_ALWAYS_COMPATIBLE a_BACKWARD_TRANSITIVE a_FULL a_BACKWARD a_FULL_TRANSITIVE a_ALWAYS_INCOMPATIBLE a_FORWARD a_FORWARD_TRANSITIVE HW i0 s.heap s.heap.size (Old.start s)  p e ha hc hk s m _ below hf ((Spec.applies_iff_loose hf).mp happ).1 ⟨rfl, State.Warmed39.refl s, rfl⟩ trivial
  refine ⟨n, _, h1, h2, h3, hpost _ _ _ _ _ _ ⟨Cond.after_iff.mpr rfl, Cond.after_iff.mpr (eq_i res_at (Term.int_eval (1)) rfl), trivial⟩ ⟨hq.1, hq.2.1, (hq.2.2.sift fun y hy => Or.inr (N y hy)).mono (by decide) (by decide)⟩⟩
theorem main_1_1 : Claimed_1_1 := comes_1 fun _ _ _ _ _ _ h hF => ⟨h.1, hF⟩
theorem main_1_2 : Claimed_1_2 := comes_1 fun _ _ _ _ _ _ h hF => ⟨h.2.1, hF⟩
end Jvm.Pilot.@@N@@
namespace Jvm.Pilot.@@N@@
open Jvm Jvm.ClassFile Sem Op Lib Jvm.Free Jvm.Stand Jvm.Pilot.@@N@@.Jvm.D
/-! MADE BY PROGRAM (witnessworld.py) out of the Statement's table words and the real class files: 10 classes; the members and pool entries that the words name. The judged class is class 1, her method 3. -/
namespace start1
open Jvm.ClassFile
def u (s : String) : CpInfo := .utf8 (stringToUtf16 s)
/-- a pool by its gaps: so many unusable entries, then the entry; so many at the end -/
def gap : Nat → List CpInfo → List CpInfo
  | 0, r => r
  | n + 1, r => .unusable :: gap n r
def poolList (es : List (Nat × CpInfo)) (last : Nat) : List CpInfo := es.foldr (fun e r => gap e.1 (e.2 :: r)) (gap last [])
def pool (es : List (Nat × CpInfo)) (last : Nat) : Array CpInfo := ⟨poolList es last⟩
def fileOf (pool : Array CpInfo) (this : Nat) (attrs : Array Attribute := #[]) (ms : Array MethodInfo := #[]) (fl : Nat := 33) (sup : Nat := 0) (ifs : Array Nat := #[]) (fds : Array FieldInfo := #[]) : ClassFile where
  minorVersion := 0
  majorVersion := 65
  constantPool := pool
  accessFlags := fl
  thisClass := this
  superClass := sup
  interfaces := ifs
  fields := fds
  methods := ms
  attributes := attrs
def plain (name : String) (sup : Option ClassId) : Class where
  name := name
  kind := .ordinary
  loader := none
  accessFlags := 33
  super := sup
  interfaces := #[]
  cf := none
  fields := #[]
  methods := #[]
  instanceTypes := #[]
  staticTypes := #[]
  resolved := #[]
  callSites := []
  init := .initialized
  statics := none
  mirror := none

def pool0 : Array CpInfo := pool [(5, u "<init>"), (0, u "()V"), (1, .class_ 10), (1, u "java/lang/Object")] 113

def k0m0 : Method := { name := "<init>", desc := "()V", sig := { parameters := [], returnType := none }, accessFlags := 1, code := none }
/-- java/lang/Object -/
def k0 : Class := { plain "java/lang/Object" none with
  accessFlags := 33
  interfaces := #[]
  cf := some (fileOf pool0 8 #[] #[{ accessFlags := 1, nameIndex := 5, descriptorIndex := 6, attributes := #[] }] 33 0 #[] #[])
  fields := #[]
  methods := #[k0m0]
  instanceTypes := #[]
  staticTypes := #[]
  resolved := Array.replicate 124 none
  statics := none }

def pool1 : Array CpInfo := pool [(2, .class_ 4), (1, u "java/lang/Object"), (0, u "<init>"), (0, u "()V"), (0, .fieldref 8 9), (0, .class_ 10), (0, .nameAndType 11 12), (0, u "com/example/onward_schema/onwardschema/model/CompatibilityStrategy"), (0, u "ALWAYS_COMPATIBLE"), (0, u "Lcom/example/onward_schema/onwardschema/model/CompatibilityStrategy;"), (0, .fieldref 8 14), (0, .nameAndType 15 12), (0, u "ALWAYS_INCOMPATIBLE"), (0, .fieldref 8 17), (0, .nameAndType 18 12), (0, u "BACKWARD"), (0, .fieldref 8 20), (0, .nameAndType 21 12), (0, u "BACKWARD_TRANSITIVE"), (0, .fieldref 8 23), (0, .nameAndType 24 12), (0, u "FORWARD"), (0, .fieldref 8 26), (0, .nameAndType 27 12), (0, u "FORWARD_TRANSITIVE"), (0, .fieldref 8 29), (0, .nameAndType 30 12), (0, u "FULL"), (0, .fieldref 8 32), (0, .nameAndType 33 12), (0, u "FULL_TRANSITIVE"), (0, .methodref 35 36), (0, .class_ 37), (0, .nameAndType 38 39), (0, u "com/example/onward_schema/onwardschema/model/CompatibilityStrategyReaderSidePinLaw"), (0, u "pick"), (0, u "(I)Lcom/example/onward_schema/onwardschema/model/CompatibilityStrategy;"), (0, .methodref 35 41), (0, .nameAndType 42 39), (0, u "expected"), (0, .methodref 8 44), (0, .nameAndType 45 46), (0, u "readerSide"), (0, u "()Lcom/example/onward_schema/onwardschema/model/CompatibilityStrategy;"), (3, u "law"), (0, u "(I)Z")] 2

def k1m0 : Method := { name := "<init>", desc := "()V", sig := { parameters := [], returnType := none }, accessFlags := 1, code := none }
def k1c1 : Code := { maxStack := 2, maxLocals := 1, code := method_2_code, exceptionTable := #[], attributes := #[] }
def k1m1 : Method := { name := "pick", desc := "(I)Lcom/example/onward_schema/onwardschema/model/CompatibilityStrategy;", sig := { parameters := [.int], returnType := some (.object "com/example/onward_schema/onwardschema/model/CompatibilityStrategy") }, accessFlags := 10, code := some k1c1 }
def k1c2 : Code := { maxStack := 2, maxLocals := 1, code := method_3_code, exceptionTable := #[], attributes := #[] }
def k1m2 : Method := { name := "expected", desc := "(I)Lcom/example/onward_schema/onwardschema/model/CompatibilityStrategy;", sig := { parameters := [.int], returnType := some (.object "com/example/onward_schema/onwardschema/model/CompatibilityStrategy") }, accessFlags := 10, code := some k1c2 }
def k1c3 : Code := { maxStack := 2, maxLocals := 5, code := code, exceptionTable := #[], attributes := #[] }
def k1m3 : Method := { name := "law", desc := "(I)Z", sig := { parameters := [.int], returnType := some .boolean }, accessFlags := 9, code := some k1c3 }
/-- com/example/onward_schema/onwardschema/model/CompatibilityStrategyReaderSidePinLaw -/
def k1 : Class := { plain "com/example/onward_schema/onwardschema/model/CompatibilityStrategyReaderSidePinLaw" (some 0) with
  accessFlags := 49
  interfaces := #[]
  cf := some (fileOf pool1 35 #[] #[{ accessFlags := 1, nameIndex := 5, descriptorIndex := 6, attributes := #[] }, { accessFlags := 10, nameIndex := 38, descriptorIndex := 39, attributes := #[] }, { accessFlags := 10, nameIndex := 42, descriptorIndex := 39, attributes := #[] }, { accessFlags := 9, nameIndex := 50, descriptorIndex := 51, attributes := #[] }] 49 2 #[] #[])
  fields := #[]
  methods := #[k1m0, k1m1, k1m2, k1m3]
  instanceTypes := #[]
  staticTypes := #[]
  resolved := Array.replicate 54 none
  statics := none }

def pool2 : Array CpInfo := pool [(1, .class_ 2), (0, u "java/lang/constant/Constable"), (0, .class_ 4), (0, u "java/lang/Object")] 6

/-- java/lang/constant/Constable -/
def k2 : Class := { plain "java/lang/constant/Constable" (some 0) with
  accessFlags := 1537
  interfaces := #[]
  cf := some (fileOf pool2 1 #[] #[] 1537 3 #[] #[])
  fields := #[]
  methods := #[]
  instanceTypes := #[]
  staticTypes := #[]
  resolved := Array.replicate 11 none
  statics := none }

def pool3 : Array CpInfo := pool [(1, .class_ 2), (0, u "java/lang/Comparable"), (0, .class_ 4), (0, u "java/lang/Object")] 7

/-- java/lang/Comparable -/
def k3 : Class := { plain "java/lang/Comparable" (some 0) with
  accessFlags := 1537
  interfaces := #[]
  cf := some (fileOf pool3 1 #[] #[] 1537 3 #[] #[])
  fields := #[]
  methods := #[]
  instanceTypes := #[]
  staticTypes := #[]
  resolved := Array.replicate 12 none
  statics := none }

def pool4 : Array CpInfo := pool [(1, .class_ 2), (0, u "java/io/Serializable"), (0, .class_ 4), (0, u "java/lang/Object")] 2

/-- java/io/Serializable -/
def k4 : Class := { plain "java/io/Serializable" (some 0) with
  accessFlags := 1537
  interfaces := #[]
  cf := some (fileOf pool4 1 #[] #[] 1537 3 #[] #[])
  fields := #[]
  methods := #[]
  instanceTypes := #[]
  staticTypes := #[]
  resolved := Array.replicate 7 none
  statics := none }

def pool5 : Array CpInfo := pool [(2, .class_ 4), (1, u "java/lang/Enum"), (0, u "name"), (0, u "Ljava/lang/String;"), (2, u "ordinal"), (0, u "I"), (1, .class_ 14), (1, u "java/lang/Object"), (4, u "hash"), (86, .class_ 108), (1, u "java/lang/Enum$EnumDesc"), (2, .class_ 112), (0, u "java/lang/constant/Constable"), (0, .class_ 114), (0, u "java/lang/Comparable"), (0, .class_ 116), (0, u "java/io/Serializable")] 87

/-- java/lang/Enum -/
def k5 : Class := { plain "java/lang/Enum" (some 0) with
  accessFlags := 1057
  interfaces := #[2, 3, 4]
  cf := some (fileOf pool5 2 #[.nestMembers #[106]] #[] 1057 12 #[111, 113, 115] #[{ accessFlags := 18, nameIndex := 5, descriptorIndex := 6, attributes := #[] }, { accessFlags := 18, nameIndex := 9, descriptorIndex := 10, attributes := #[] }, { accessFlags := 2, nameIndex := 19, descriptorIndex := 10, attributes := #[] }])
  fields := #[{ name := "name", type := (.object "java/lang/String"), accessFlags := 18, slot := 0, constantValue := 0 }, { name := "ordinal", type := .int, accessFlags := 18, slot := 1, constantValue := 0 }, { name := "hash", type := .int, accessFlags := 2, slot := 2, constantValue := 0 }]
  methods := #[]
  instanceTypes := #[(.object "java/lang/String"), .int, .int]
  staticTypes := #[]
  resolved := Array.replicate 204 none
  statics := none }

def pool6 : Array CpInfo := pool [(1, .class_ 2), (0, u "com/example/onward_schema/onwardschema/model/CompatibilityStrategy"), (2, u "ALWAYS_COMPATIBLE"), (0, u "Lcom/example/onward_schema/onwardschema/model/CompatibilityStrategy;"), (2, u "ALWAYS_INCOMPATIBLE"), (0, .fieldref 1 11), (0, .nameAndType 12 6), (0, u "BACKWARD"), (0, .fieldref 1 14), (0, .nameAndType 15 6), (0, u "BACKWARD_TRANSITIVE"), (2, u "FORWARD"), (2, u "FORWARD_TRANSITIVE"), (2, u "FULL"), (2, u "FULL_TRANSITIVE"), (2, u "$VALUES"), (0, u "[Lcom/example/onward_schema/onwardschema/model/CompatibilityStrategy;"), (6, .class_ 40), (1, u "java/lang/Enum"), (6, .fieldref 1 48), (0, .nameAndType 49 50), (0, u "backward"), (0, u "Z"), (0, .fieldref 1 52), (0, .nameAndType 53 50), (0, u "forward"), (0, .fieldref 1 55), (0, .nameAndType 56 50), (0, u "transitive"), (83, u "readerSide"), (0, u "()Lcom/example/onward_schema/onwardschema/model/CompatibilityStrategy;")] 5

def k6c0 : Code := { maxStack := 1, maxLocals := 1, code := prog_26_method_8_code, exceptionTable := #[], attributes := #[] }
def k6m0 : Method := { name := "readerSide", desc := "()Lcom/example/onward_schema/onwardschema/model/CompatibilityStrategy;", sig := { parameters := [], returnType := some (.object "com/example/onward_schema/onwardschema/model/CompatibilityStrategy") }, accessFlags := 1, code := some k6c0 }
/-- com/example/onward_schema/onwardschema/model/CompatibilityStrategy -/
def k6 : Class := { plain "com/example/onward_schema/onwardschema/model/CompatibilityStrategy" (some 5) with
  accessFlags := 16433
  interfaces := #[]
  cf := some (fileOf pool6 1 #[] #[{ accessFlags := 1, nameIndex := 140, descriptorIndex := 141, attributes := #[] }] 16433 38 #[] #[{ accessFlags := 16409, nameIndex := 5, descriptorIndex := 6, attributes := #[] }, { accessFlags := 16409, nameIndex := 9, descriptorIndex := 6, attributes := #[] }, { accessFlags := 16409, nameIndex := 12, descriptorIndex := 6, attributes := #[] }, { accessFlags := 16409, nameIndex := 15, descriptorIndex := 6, attributes := #[] }, { accessFlags := 16409, nameIndex := 18, descriptorIndex := 6, attributes := #[] }, { accessFlags := 16409, nameIndex := 21, descriptorIndex := 6, attributes := #[] }, { accessFlags := 16409, nameIndex := 24, descriptorIndex := 6, attributes := #[] }, { accessFlags := 16409, nameIndex := 27, descriptorIndex := 6, attributes := #[] }, { accessFlags := 18, nameIndex := 49, descriptorIndex := 50, attributes := #[] }, { accessFlags := 18, nameIndex := 53, descriptorIndex := 50, attributes := #[] }, { accessFlags := 18, nameIndex := 56, descriptorIndex := 50, attributes := #[] }, { accessFlags := 4122, nameIndex := 30, descriptorIndex := 31, attributes := #[] }])
  fields := #[{ name := "ALWAYS_COMPATIBLE", type := (.object "com/example/onward_schema/onwardschema/model/CompatibilityStrategy"), accessFlags := 16409, slot := 0, constantValue := 0 }, { name := "ALWAYS_INCOMPATIBLE", type := (.object "com/example/onward_schema/onwardschema/model/CompatibilityStrategy"), accessFlags := 16409, slot := 1, constantValue := 0 }, { name := "BACKWARD", type := (.object "com/example/onward_schema/onwardschema/model/CompatibilityStrategy"), accessFlags := 16409, slot := 2, constantValue := 0 }, { name := "BACKWARD_TRANSITIVE", type := (.object "com/example/onward_schema/onwardschema/model/CompatibilityStrategy"), accessFlags := 16409, slot := 3, constantValue := 0 }, { name := "FORWARD", type := (.object "com/example/onward_schema/onwardschema/model/CompatibilityStrategy"), accessFlags := 16409, slot := 4, constantValue := 0 }, { name := "FORWARD_TRANSITIVE", type := (.object "com/example/onward_schema/onwardschema/model/CompatibilityStrategy"), accessFlags := 16409, slot := 5, constantValue := 0 }, { name := "FULL", type := (.object "com/example/onward_schema/onwardschema/model/CompatibilityStrategy"), accessFlags := 16409, slot := 6, constantValue := 0 }, { name := "FULL_TRANSITIVE", type := (.object "com/example/onward_schema/onwardschema/model/CompatibilityStrategy"), accessFlags := 16409, slot := 7, constantValue := 0 }, { name := "backward", type := .boolean, accessFlags := 18, slot := 3, constantValue := 0 }, { name := "forward", type := .boolean, accessFlags := 18, slot := 4, constantValue := 0 }, { name := "transitive", type := .boolean, accessFlags := 18, slot := 5, constantValue := 0 }, { name := "$VALUES", type := (.array (.object "com/example/onward_schema/onwardschema/model/CompatibilityStrategy")), accessFlags := 4122, slot := 8, constantValue := 0 }]
  methods := #[k6m0]
  instanceTypes := #[(.object "java/lang/String"), .int, .int, .boolean, .boolean, .boolean]
  staticTypes := #[(.object "com/example/onward_schema/onwardschema/model/CompatibilityStrategy"), (.object "com/example/onward_schema/onwardschema/model/CompatibilityStrategy"), (.object "com/example/onward_schema/onwardschema/model/CompatibilityStrategy"), (.object "com/example/onward_schema/onwardschema/model/CompatibilityStrategy"), (.object "com/example/onward_schema/onwardschema/model/CompatibilityStrategy"), (.object "com/example/onward_schema/onwardschema/model/CompatibilityStrategy"), (.object "com/example/onward_schema/onwardschema/model/CompatibilityStrategy"), (.object "com/example/onward_schema/onwardschema/model/CompatibilityStrategy"), (.array (.object "com/example/onward_schema/onwardschema/model/CompatibilityStrategy"))]
  resolved := Array.replicate 147 none
  statics := some 0 }

def pool7 : Array CpInfo := pool [(1, u "java/lang/Cloneable"), (0, .class_ 1), (0, u "java/lang/Object"), (0, .class_ 3)] 3

/-- java/lang/Cloneable -/
def k7 : Class := { plain "java/lang/Cloneable" (some 0) with
  accessFlags := 1537
  interfaces := #[]
  cf := some (fileOf pool7 2 #[] #[] 1537 4 #[] #[])
  fields := #[]
  methods := #[]
  instanceTypes := #[]
  staticTypes := #[]
  resolved := Array.replicate 8 none
  statics := none }

/-- the primitive byte -/
def k8 : Class := { plain "byte" none with kind := .primitive 'B', accessFlags := 0x411 }
/-- [B -/
def k9 : Class := { plain "[B" (some 0) with kind := .array 8 .byte, interfaces := #[7, 4], accessFlags := 1041 }

def heap : Heap := #[{ cls := 6, slots := #[.ref 1, .ref 6, .ref 4, .ref 2, .ref 7, .ref 8, .ref 3, .ref 5, .null], vm := .statics 6 },
  { cls := 6, slots := #[.null, .int 0, .int 0, .int 0, .int 0, .int 0], vm := .none },
  { cls := 6, slots := #[.null, .int 0, .int 0, .int 1, .int 0, .int 1], vm := .none },
  { cls := 6, slots := #[.null, .int 0, .int 0, .int 1, .int 1, .int 0], vm := .none },
  { cls := 6, slots := #[.null, .int 0, .int 0, .int 1, .int 0, .int 0], vm := .none },
  { cls := 6, slots := #[.null, .int 0, .int 0, .int 1, .int 1, .int 1], vm := .none },
  { cls := 6, slots := #[.null, .int 0, .int 0, .int 0, .int 0, .int 0], vm := .none },
  { cls := 6, slots := #[.null, .int 0, .int 0, .int 0, .int 1, .int 0], vm := .none },
  { cls := 6, slots := #[.null, .int 0, .int 0, .int 0, .int 1, .int 1], vm := .none }]
def classes : Array Class := #[k0, k1, k2, k3, k4, k5, k6, k7, k8, k9]
def interned : List (Array UInt16 × Addr) := []
def slotsUsed : Nat := 57
def theMethod : MethodId := ⟨1, 3⟩
def args0 : Array Value := #[.int 5]
def aboutOver (below : List Frame) : State where
  vm := { classes := classes, interned := interned.toArray }
  heap := heap
  slotsUsed := slotsUsed
  threads := #[{ frames := .invoking theMethod args0 :: below }]
def below0 : List Frame := [.native { method := ⟨0, 0⟩, args := #[] }]
def about1 : State := aboutOver below0
def p0 : Program := .bare "" "" ""
def e0 : Env := launch0.env 0 0 0
theorem w_frames : about1.frames = Frame.invoking theMethod args0 :: below0 := rfl
set_option maxRecDepth 65536 in
theorem w_args : argsFit about1.vm theMethod args0 = true := by decide +kernel
set_option maxRecDepth 65536 in
theorem w_heap : heapFits about1 = true := by decide +kernel
set_option maxRecDepth 65536 in
theorem w_runnable : about1.curStatus? = some .runnable := by decide +kernel
set_option maxRecDepth 65536 in
theorem w_alone : about1.alone = true := by decide +kernel
set_option maxRecDepth 65536 in
theorem w_named : about1.methodNamed? x = some theMethod := by decide +kernel
set_option maxRecDepth 65536 in
theorem w_hears : about1.hears theMethod below0 = true := by decide +kernel
set_option maxRecDepth 65536 in
theorem w_ripe : about1.ripe theMethod args0 below0 = true := by decide +kernel
theorem w_running : about1.status = .running := rfl
set_option maxRecDepth 65536 in
theorem w_room : about1.hasRoom e0.platform room_1 = true :=
  launch0.hasRoom_least _ room_1 (by decide +kernel) (by decide +kernel) (by decide +kernel) (by decide +kernel) (by decide +kernel) (by decide +kernel)
theorem allAtoms_all (ts : List Jvm.Cond) (a : Array Jvm.Value) (st : Jvm.State) : (allAtoms ts).before a st = ts.all (fun c => c.before a st) := by
  induction ts with
  | nil => rfl
  | cons c t ih =>
    show (Jvm.Cond.and c (allAtoms t)).before a st = _
    rw [Jvm.Cond.before_and, ih, List.all_cons]
def words1 : List Jvm.Cond := Jvm.Cond.code x code maxLocals ret :: tables_1
/-- a 'code' word, met by the world's own term for the bytes: nothing is compared byte by byte -/
theorem code_word {y : MethodName} {bytes : ByteArray} {mx : Nat} {rt : Option FieldType} {a : Array Value} {s : State} {m : MethodId} {meth : Method} {c : Code} (h1 : s.methodNamed? y = some m) (h2 : s.vm.method? m = some meth) (h3 : meth.code = some c) (h4 : c.code = bytes)
    (h5 : (c.maxLocals == mx && c.exceptionTable.isEmpty && decide (c.maxStack ≤ mostOperands) && decide (meth.sig.returnType = rt) && !meth.locks && decide (parseMethodDescriptor y.desc = some meth.sig)) = true) : (Jvm.Cond.code y bytes mx rt).before a s = true := by
  simp only [Bool.and_eq_true, beq_iff_eq, Bool.not_eq_true', decide_eq_true_eq] at h5
  obtain ⟨⟨⟨⟨⟨g1, g2⟩, g3⟩, g4⟩, g5⟩, g6⟩ := h5
  simp [Cond.before, Cond.holds, Cond.value, h1, h2, h3, h4, g1, g2, g3, g4, g5, g6]
def isCode : Jvm.Cond → Bool
  | .code _ _ _ _ => true
  | _ => false
theorem all_split {L : List Jvm.Cond} {P : Jvm.Cond → Bool} (h1 : L.all (fun c => isCode c || P c) = true) (h2 : ∀ c ∈ L.filter isCode, P c = true) : L.all P = true := by
  refine List.all_eq_true.mpr fun c hc => ?_
  have h := List.all_eq_true.mp h1 c hc
  rcases Bool.eq_false_or_eq_true (isCode c) with hi | hi
  · exact h2 c (List.mem_filter.mpr ⟨hc, hi⟩)
  · simpa [hi] using h
set_option maxRecDepth 65536 in
theorem w_c0 : (Jvm.Cond.code x code maxLocals ret).before args0 about1 = true := code_word (m := ⟨1, 3⟩) (meth := k1m3) (c := k1c3) (by decide +kernel) rfl rfl rfl (by decide +kernel)
set_option maxRecDepth 65536 in
theorem w_c1 : (Jvm.Cond.code ({ cls := "com/example/onward_schema/onwardschema/model/CompatibilityStrategyReaderSidePinLaw", name := "pick", desc := "(I)Lcom/example/onward_schema/onwardschema/model/CompatibilityStrategy;" } : Jvm.MethodName) method_2_code (1 : Nat) (Option.some (Jvm.ClassFile.FieldType.object "com/example/onward_schema/onwardschema/model/CompatibilityStrategy"))).before args0 about1 = true := code_word (m := ⟨1, 1⟩) (meth := k1m1) (c := k1c1) (by decide +kernel) rfl rfl rfl (by decide +kernel)
set_option maxRecDepth 65536 in
theorem w_c2 : (Jvm.Cond.code ({ cls := "com/example/onward_schema/onwardschema/model/CompatibilityStrategyReaderSidePinLaw", name := "expected", desc := "(I)Lcom/example/onward_schema/onwardschema/model/CompatibilityStrategy;" } : Jvm.MethodName) method_3_code (1 : Nat) (Option.some (Jvm.ClassFile.FieldType.object "com/example/onward_schema/onwardschema/model/CompatibilityStrategy"))).before args0 about1 = true := code_word (m := ⟨1, 2⟩) (meth := k1m2) (c := k1c2) (by decide +kernel) rfl rfl rfl (by decide +kernel)
set_option maxRecDepth 65536 in
theorem w_c3 : (Jvm.Cond.code ({ cls := "com/example/onward_schema/onwardschema/model/CompatibilityStrategy", name := "readerSide", desc := "()Lcom/example/onward_schema/onwardschema/model/CompatibilityStrategy;" } : Jvm.MethodName) prog_26_method_8_code (1 : Nat) (Option.some (Jvm.ClassFile.FieldType.object "com/example/onward_schema/onwardschema/model/CompatibilityStrategy"))).before args0 about1 = true := code_word (m := ⟨6, 0⟩) (meth := k6m0) (c := k6c0) (by decide +kernel) rfl rfl rfl (by decide +kernel)
def codes1 : List Jvm.Cond := [Jvm.Cond.code x code maxLocals ret, Jvm.Cond.code ({ cls := "com/example/onward_schema/onwardschema/model/CompatibilityStrategyReaderSidePinLaw", name := "pick", desc := "(I)Lcom/example/onward_schema/onwardschema/model/CompatibilityStrategy;" } : Jvm.MethodName) method_2_code (1 : Nat) (Option.some (Jvm.ClassFile.FieldType.object "com/example/onward_schema/onwardschema/model/CompatibilityStrategy")), Jvm.Cond.code ({ cls := "com/example/onward_schema/onwardschema/model/CompatibilityStrategyReaderSidePinLaw", name := "expected", desc := "(I)Lcom/example/onward_schema/onwardschema/model/CompatibilityStrategy;" } : Jvm.MethodName) method_3_code (1 : Nat) (Option.some (Jvm.ClassFile.FieldType.object "com/example/onward_schema/onwardschema/model/CompatibilityStrategy")), Jvm.Cond.code ({ cls := "com/example/onward_schema/onwardschema/model/CompatibilityStrategy", name := "readerSide", desc := "()Lcom/example/onward_schema/onwardschema/model/CompatibilityStrategy;" } : Jvm.MethodName) prog_26_method_8_code (1 : Nat) (Option.some (Jvm.ClassFile.FieldType.object "com/example/onward_schema/onwardschema/model/CompatibilityStrategy"))]
set_option maxRecDepth 65536 in
theorem codes_eq : words1.filter isCode = codes1 := rfl
theorem w_codes : ∀ c ∈ words1.filter isCode, c.before args0 about1 = true := by
  rw [codes_eq]
  intro c hc
  simp only [codes1, List.mem_cons, List.not_mem_nil, or_false] at hc
  rcases hc with rfl | rfl | rfl | rfl
  · exact w_c0
  · exact w_c1
  · exact w_c2
  · exact w_c3
set_option maxRecDepth 65536 in
theorem w_t1 : (words1.take 24).all (fun c => isCode c || c.before args0 about1) = true := by decide +kernel
set_option maxRecDepth 65536 in
theorem w_t2 : (words1.drop 24).all (fun c => isCode c || c.before args0 about1) = true := by decide +kernel
theorem w_tables : (allAtoms (Jvm.Cond.code x code maxLocals ret :: tables_1)).before args0 about1 = true := by
  rw [allAtoms_all]
  show words1.all (fun c => c.before args0 about1) = true
  refine all_split ?_ w_codes
  rw [← List.take_append_drop 24 words1, List.all_append, w_t1, w_t2]
  rfl
set_option maxRecDepth 65536 in
theorem w_case : (Jvm.Cond.and given_1 narrow_1).before args0 about1 = true := by decide +kernel
theorem w_applies : (headSpec (Jvm.Cond.code x code maxLocals ret :: tables_1) room_1).applies x e0.platform about1 = true :=
  (Spec.applies_iff w_frames).mpr ⟨w_running, w_runnable, w_alone, w_named, w_hears, w_ripe, w_room, w_tables⟩
theorem atStart : AtStart classFile x code maxLocals ret World_1 tables_1 room_1 Calls_1 rest_1 Pre_1 launch0 p0 e0 about1 theMethod args0 below0 :=
  ⟨lists_1, trivial, launch0.admits_env _ _ _, launch0.least_env, fairChoices_fair.cas, fairChoices_fair.clock, w_frames, w_args, w_heap, w_applies, trivial, trivial, w_case⟩
end start1
theorem witness_1 : WitnessClaimed_1 := ⟨start1.p0, start1.e0, start1.about1, start1.theMethod, start1.args0, start1.below0, start1.atStart⟩
end Jvm.Pilot.@@N@@
