import JvmDerived
import JvmDerived.Pilot.@@N@@Statement
import JvmDerived.Pilot.@@N@@Code
set_option linter.unusedVariables false
set_option linter.unusedSimpArgs false
@@BLOCK:NumsL.lean.txt@@
namespace Jvm.RoadKit
open Sem ClassFile Op Lib Jvm.Stand Jvm.Free Jvm.LawKit
section New
variable {p : Program} {l : Launch} {e : Env} {R : Room} {s : State} {m : MethodId} {args : Array Value} {below : List Frame} {meth : Method} {c : Code} {T : State} {locs : List Loc} {cells slots : Nat}
theorem retI (X : Stand p l e R s m args below meth c T locs cells slots) (hx : p.tables.exec = Jvm.exec) {pc : Nat} {Ls : Array Slot} {z : Int32} {rest : List Value} (hret : meth.sig.returnType = some .int) (hd : decode c.code pc = .ok (.ireturn, 1)) {fs : List Frame}
    (hl : ∀ (f : JFrame) (acts : List Action), f.method = m → f.locked = none → f.entered = [] → (doReturn e (T.setTop f) acts (some (.int z))).1 = T.setFrames fs) : Steps p.tables e below (T.setTop (mkF m pc Ls (.int z :: rest))) (T.setFrames fs) := by
  have hm' : T.vm.method? m = some meth := X.method'
  have hn : narrow .int (.int z) = .int z := rfl
  show Steps p.tables e below (T.setTop { method := m, pc := pc, locals := Ls, stack := _ :: rest, locked := none }) _
  jvm_step X.here [X.here.top, hx, hd, hm', hret, hn]
  first | (intro acts; rw [hl _ acts rfl rfl rfl]) | rw [hl _ _ rfl rfl rfl]
  exact Steps.refl _
end New
end Jvm.RoadKit
namespace Jvm.Pilot.@@N@@
open Jvm Jvm.ClassFile Sem Op Lib Jvm.Free Jvm.Stand Jvm.LawKit Jvm.RoadKit Bundle Jvm.Pilot.@@N@@.Jvm.D
/-- what a walk comes to, said forward -/
def Go (p : Program) (e : Env) (below : List Frame) (R : State → Outcome → Prop) (A : State) : Prop := ∃ t o, Steps p.tables e below A t ∧ R t o
def Fin1 (s : State) (below : List Frame) (Q : Option Value → Heap → List Loc → Prop) (K N : Nat) (t : State) (o : Outcome) : Prop := t.status = .running ∧ Ended t below o ∧ ∃ v L, o = .returned v ∧ Q v t.heap L ∧ FrameEnd s o t L K N
theorem Go.step {p : Program} {e : Env} {below : List Frame} {R : State → Outcome → Prop} {A B : State} (k : ∀ t, Steps p.tables e below A t → Steps p.tables e below B t) (h : Go p e below R A) : Go p e below R B := by
  obtain ⟨t, o, h1, h2⟩ := h
  exact ⟨t, o, k t h1, h2⟩
section GoRet
variable {p : Program} {l : Launch} {e : Env} {R : Room} {s : State} {m : MethodId} {args : Array Value} {below : List Frame} {meth : Method} {c : Code} {T : State} {locs : List Loc} {cells slots : Nat} {Q : Option Value → Heap → List Loc → Prop} {K N pc : Nat} {Ls : Array Slot} {rest : List Value}
theorem Go.retZ (X : Stand p l e R s m args below meth c T locs cells slots) (hx : p.tables.exec = Jvm.exec) {z : Int32} {t : FieldType} (hret : meth.sig.returnType = some t) (ht : t = .boolean ∨ t = .byte ∨ t = .char ∨ t = .short) (hlk : meth.locks = false) (hd : decode c.code pc = .ok (.ireturn, 1)) (hq : Q (some (.int (nar t z))) T.heap locs) (hc : cells ≤ K) (hn : slots ≤ N) : Go p e below (Fin1 s below Q K N) (T.setTop (mkF m pc Ls (.int z :: rest))) := by
  obtain ⟨fs, hr, hrun, hended, hW, hsame⟩ := X.leave (v := some (.int (nar t z))) (fun h => by rw [hret] at h; cases h) hlk
  exact ⟨_, _, retN X hx hret ht hd hr, hrun, hended, _, _, rfl, hq, ⟨_, rfl⟩, hW, hsame.mono hc hn⟩
theorem Go.retI (X : Stand p l e R s m args below meth c T locs cells slots) (hx : p.tables.exec = Jvm.exec) {z : Int32} (hret : meth.sig.returnType = some .int) (hlk : meth.locks = false) (hd : decode c.code pc = .ok (.ireturn, 1)) (hq : Q (some (.int z)) T.heap locs) (hc : cells ≤ K) (hn : slots ≤ N) : Go p e below (Fin1 s below Q K N) (T.setTop (mkF m pc Ls (.int z :: rest))) := by
  obtain ⟨fs, hr, hrun, hended, hW, hsame⟩ := X.leave (v := some (.int z)) (fun h => by rw [hret] at h; cases h) hlk
  exact ⟨_, _, Jvm.RoadKit.retI X hx hret hd hr, hrun, hended, _, _, rfl, hq, ⟨_, rfl⟩, hW, hsame.mono hc hn⟩
theorem Go.retJ (X : Stand p l e R s m args below meth c T locs cells slots) (hx : p.tables.exec = Jvm.exec) {z : Int64} (hret : meth.sig.returnType = some .long) (hlk : meth.locks = false) (hd : decode c.code pc = .ok (.lreturn, 1)) (hq : Q (some (.long z)) T.heap locs) (hc : cells ≤ K) (hn : slots ≤ N) : Go p e below (Fin1 s below Q K N) (T.setTop (mkF m pc Ls (.long z :: rest))) := by
  obtain ⟨fs, hr, hrun, hended, hW, hsame⟩ := X.leave (v := some (.long z)) (fun h => by rw [hret] at h; cases h) hlk
  exact ⟨_, _, retOut X hx hret rfl (Or.inr (Or.inl ⟨rfl, rfl, _, rfl⟩)) hd hr, hrun, hended, _, _, rfl, hq, ⟨_, rfl⟩, hW, hsame.mono hc hn⟩
theorem Go.retR (X : Stand p l e R s m args below meth c T locs cells slots) (hx : p.tables.exec = Jvm.exec) {w : Value} {t : FieldType} (hret : meth.sig.returnType = some t) (ht : t.isReference = true) (hw : w.isRef = true) (hlk : meth.locks = false) (hd : decode c.code pc = .ok (.areturn, 1)) (hq : Q (some w) T.heap locs) (hc : cells ≤ K) (hn : slots ≤ N) : Go p e below (Fin1 s below Q K N) (T.setTop (mkF m pc Ls (w :: rest))) := by
  obtain ⟨fs, hr, hrun, hended, hW, hsame⟩ := X.leave (v := some w) (fun h => by rw [hret] at h; cases h) hlk
  have hnw : narrow t w = w := by rcases ref_cases hw with rfl | ⟨a, rfl⟩ <;> cases t <;> first | rfl | (cases ht)
  exact ⟨_, _, retOut X hx hret hnw (Or.inr (Or.inr (Or.inr (Or.inr ⟨rfl, ht, hw⟩)))) hd hr, hrun, hended, _, _, rfl, hq, ⟨_, rfl⟩, hW, hsame.mono hc hn⟩
theorem Go.retV (X : Stand p l e R s m args below meth c T locs cells slots) (hx : p.tables.exec = Jvm.exec) (hret : meth.sig.returnType = none) (hlk : meth.locks = false) (hd : decode c.code pc = .ok (.return_, 1)) (hq : Q none T.heap locs) (hc : cells ≤ K) (hn : slots ≤ N) : Go p e below (Fin1 s below Q K N) (T.setTop (mkF m pc Ls [])) := by
  obtain ⟨fs, hr, hrun, hended, hW, hsame⟩ := X.leave (v := none) (fun _ => rfl) hlk
  exact ⟨_, _, X.returnOut hx hret hd hr, hrun, hended, _, _, rfl, hq, ⟨_, rfl⟩, hW, hsame.mono hc hn⟩
end GoRet
def Fin2 (s : State) (below : List Frame) (Q : Option Value → Heap → List Loc → Prop) (K N : Nat) (t : State) (o : Outcome) : Prop := t.status = .running ∧ Ended t below o ∧ ∃ v L, o = .returned v ∧ Q v t.heap L ∧ ReturnedEndW s o t L K N
theorem wmono {s t : State} {o : Outcome} {L : List Loc} {k n k' n' : Nat} (h : ReturnedEndW s o t L k n) (h1 : k ≤ k') (h2 : n ≤ n') : ReturnedEndW s o t L k' n' := ⟨h.1, h.2.1, h.2.2.1, h.2.2.2.mono h1 h2⟩
section GoRetW
variable {p : Program} {l : Launch} {e : Env} {R : Room} {s : State} {vm0 : Vm} {m : MethodId} {args : Array Value} {below : List Frame} {meth : Method} {c : Code} {T : State} {locs : List Loc} {cells slots : Nat} {Q : Option Value → Heap → List Loc → Prop} {K N pc k0 : Nat} {Ls : Array Slot} {rest : List Value}
theorem GoW.retZ (X : Stand p l e R (s.setVm vm0) m args below meth c T locs cells slots) (hS : s.Since vm0 k0) (hk : k0 ≤ T.heap.size) (hx : p.tables.exec = Jvm.exec) {z : Int32} {t : FieldType} (hret : meth.sig.returnType = some t) (ht : t = .boolean ∨ t = .byte ∨ t = .char ∨ t = .short) (hlk : meth.locks = false) (hd : decode c.code pc = .ok (.ireturn, 1)) (hq : Q (some (.int (nar t z))) T.heap locs) (hc : cells ≤ K) (hn : slots ≤ N) : Go p e below (Fin2 s below Q K N) (T.setTop (mkF m pc Ls (.int z :: rest))) := by
  obtain ⟨fs, hr, hrun, hended, hW⟩ := X.leaveW hS hk (v := some (.int (nar t z))) (fun h => by rw [hret] at h; cases h) hlk
  exact ⟨_, _, retN X hx hret ht hd hr, hrun, hended, _, _, rfl, hq, wmono hW hc hn⟩
theorem GoW.retI (X : Stand p l e R (s.setVm vm0) m args below meth c T locs cells slots) (hS : s.Since vm0 k0) (hk : k0 ≤ T.heap.size) (hx : p.tables.exec = Jvm.exec) {z : Int32} (hret : meth.sig.returnType = some .int) (hlk : meth.locks = false) (hd : decode c.code pc = .ok (.ireturn, 1)) (hq : Q (some (.int z)) T.heap locs) (hc : cells ≤ K) (hn : slots ≤ N) : Go p e below (Fin2 s below Q K N) (T.setTop (mkF m pc Ls (.int z :: rest))) := by
  obtain ⟨fs, hr, hrun, hended, hW⟩ := X.leaveW hS hk (v := some (.int z)) (fun h => by rw [hret] at h; cases h) hlk
  exact ⟨_, _, Jvm.RoadKit.retI X hx hret hd hr, hrun, hended, _, _, rfl, hq, wmono hW hc hn⟩
theorem GoW.retR (X : Stand p l e R (s.setVm vm0) m args below meth c T locs cells slots) (hS : s.Since vm0 k0) (hk : k0 ≤ T.heap.size) (hx : p.tables.exec = Jvm.exec) {w : Value} {t : FieldType} (hret : meth.sig.returnType = some t) (ht : t.isReference = true) (hw : w.isRef = true) (hlk : meth.locks = false) (hd : decode c.code pc = .ok (.areturn, 1)) (hq : Q (some w) T.heap locs) (hc : cells ≤ K) (hn : slots ≤ N) : Go p e below (Fin2 s below Q K N) (T.setTop (mkF m pc Ls (w :: rest))) := by
  obtain ⟨fs, hr, hrun, hended, hW⟩ := X.leaveW hS hk (v := some w) (fun h => by rw [hret] at h; cases h) hlk
  have hnw : narrow t w = w := by rcases ref_cases hw with rfl | ⟨a, rfl⟩ <;> cases t <;> first | rfl | (cases ht)
  exact ⟨_, _, retOut X hx hret hnw (Or.inr (Or.inr (Or.inr (Or.inr ⟨rfl, ht, hw⟩)))) hd hr, hrun, hended, _, _, rfl, hq, wmono hW hc hn⟩
theorem GoW.retV (X : Stand p l e R (s.setVm vm0) m args below meth c T locs cells slots) (hS : s.Since vm0 k0) (hk : k0 ≤ T.heap.size) (hx : p.tables.exec = Jvm.exec) (hret : meth.sig.returnType = none) (hlk : meth.locks = false) (hd : decode c.code pc = .ok (.return_, 1)) (hq : Q none T.heap locs) (hc : cells ≤ K) (hn : slots ≤ N) : Go p e below (Fin2 s below Q K N) (T.setTop (mkF m pc Ls [])) := by
  obtain ⟨fs, hr, hrun, hended, hW⟩ := X.leaveW hS hk (v := none) (fun _ => rfl) hlk
  exact ⟨_, _, X.returnOut hx hret hd hr, hrun, hended, _, _, rfl, hq, wmono hW hc hn⟩
end GoRetW
theorem old_z0 {Z : State} {n0 : Nat} {h : Heap} (O : Old Z n0 h) : n0 ≤ h.size := O.1 ▸ O.2.1
theorem eq_long {args : Array Value} {s : State} {t : Term} {z : Int64} (h : (Jvm.Cond.eq t (.long z)).value args s none s [] = some true) : t.eval args s none [] s = some (.long z) := by
  simp only [Cond.value, Term.eval] at h
  cases e : t.eval args s none [] s with
  | none => simp [e] at h
  | some v => cases v <;> simp_all
theorem eq_int {args : Array Value} {s : State} {t : Term} {z : Int32} (h : (Jvm.Cond.eq t (.int z)).value args s none s [] = some true) : t.eval args s none [] s = some (.int z) := by
  simp only [Cond.value, Term.eval] at h
  cases e : t.eval args s none [] s with
  | none => simp [e] at h
  | some v => cases v <;> simp_all
theorem i32_is {k : Int32} (z : Int32) (h : k.toInt = z.toInt) : k = z := Int32.toInt_inj.mp h
theorem rem_bd (x m : Int32) (hm : 0 < m.toInt) : 0 ≤ ((x &&& (2147483647 : Int32)) % m).toInt ∧ ((x &&& (2147483647 : Int32)) % m).toInt < m.toInt := by
  have e1 : (x &&& (2147483647 : Int32)).toInt = x.toInt % 2 ^ 31 := Jvm.Kit.i32_mask x 2147483647 (k := 31) (by decide) (by decide)
  have h0 : 0 ≤ (x &&& (2147483647 : Int32)).toInt := by rw [e1]; exact Int.emod_nonneg _ (by decide)
  rw [Jvm.Kit.i32_rem_nonneg h0]
  exact ⟨Int.emod_nonneg _ (by omega), Int.emod_lt_of_pos _ hm⟩

theorem eq_ref {args : Array Value} {s : State} {t u : Term} {b : Addr} (h : (Jvm.Cond.eq t u).value args s none s [] = some true) (hu : u.eval args s none [] s = some (.ref b)) : t.eval args s none [] s = some (.ref b) := by
  simp only [Cond.value, hu] at h
  cases e : t.eval args s none [] s with
  | none => simp [e] at h
  | some v => cases v <;> simp_all
theorem len_start {args : Array Value} {s : State} {t : Term} {a : Addr} {cl : Cell} {ty : FieldType} {z : Int32} (A : Arr s s.heap a cl ty) (ev : t.eval args s none [] s = some (.ref a)) (h : (Term.length t).eval args s none [] s = some (.int z)) : cl.slots.size < 2 ^ 31 ∧ cl.slots.size.toInt32 = z := by
  have ha := Arr.fin (Vm.Alike.refl s.vm) A
  have h' : (if cl.slots.size < 2147483648 then some (Value.int cl.slots.size.toInt32) else none) = some (Value.int z) := by simpa [Term.eval, ev, ha] using h
  by_cases q : cl.slots.size < 2147483648
  · rw [if_pos q] at h'; exact ⟨q, by simpa using h'⟩
  · rw [if_neg q] at h'; cases h'
theorem elem_start {args : Array Value} {s : State} {t : Term} {a b : Addr} {cl : Cell} {ty : FieldType} {j : Int32} {n : Nat} (A : Arr s s.heap a cl ty) (ev : t.eval args s none [] s = some (.ref a)) (h : (Term.elem t (.int j)).eval args s none [] s = some (.ref b)) (hj : ¬ j < 0 ∧ j.toNatClampNeg = n) : cl.slots[n]? = some (.ref b) := by
  have ha := Arr.fin (Vm.Alike.refl s.vm) A
  have q := elem_f (a := .int j) ev (Term.int_eval j) ha hj.1
  rw [hj.2] at q
  exact q.symm.trans h
def Wd (Z : State) (a__VALUES : Addr) (a_GROUP_1 : Addr) (a_GROUP_2 : Addr) (a_GROUP_3 : Addr) (a_EMPTY : Addr) (ka__VALUES : ClassId) : Prop := (Exa Z Z.heap a__VALUES "[Lcom/example/overcap/overcap/plans/ManagementGroup;") ∧ (Sta Z Z.heap "com/example/overcap/overcap/plans/ManagementGroup" "$VALUES" "[Lcom/example/overcap/overcap/plans/ManagementGroup;" (.ref a__VALUES)) ∧ (Exa Z Z.heap a_GROUP_1 "com/example/overcap/overcap/plans/ManagementGroup") ∧ (Sta Z Z.heap "com/example/overcap/overcap/plans/ManagementGroup" "GROUP_1" "Lcom/example/overcap/overcap/plans/ManagementGroup;" (.ref a_GROUP_1)) ∧ (Exa Z Z.heap a_GROUP_2 "com/example/overcap/overcap/plans/ManagementGroup") ∧ (Sta Z Z.heap "com/example/overcap/overcap/plans/ManagementGroup" "GROUP_2" "Lcom/example/overcap/overcap/plans/ManagementGroup;" (.ref a_GROUP_2)) ∧ (Exa Z Z.heap a_GROUP_3 "com/example/overcap/overcap/plans/ManagementGroup") ∧ (Sta Z Z.heap "com/example/overcap/overcap/plans/ManagementGroup" "GROUP_3" "Lcom/example/overcap/overcap/plans/ManagementGroup;" (.ref a_GROUP_3)) ∧ (Exa Z Z.heap a_EMPTY "java/util/Optional") ∧ (Sta Z Z.heap "java/util/Optional" "EMPTY" "Ljava/util/Optional;" (.ref a_EMPTY)) ∧ (Fld Z Z.heap a_GROUP_1 "com/example/overcap/overcap/plans/ManagementGroup" "number" "I" (.int (1 : Int32))) ∧ (Fld Z Z.heap a_GROUP_2 "com/example/overcap/overcap/plans/ManagementGroup" "number" "I" (.int (2 : Int32))) ∧ (Fld Z Z.heap a_GROUP_3 "com/example/overcap/overcap/plans/ManagementGroup" "number" "I" (.int (3 : Int32))) ∧ (Fld Z Z.heap a_EMPTY "java/util/Optional" "value" "Ljava/lang/Object;" .null) ∧ (Arv Z Z.heap a__VALUES ka__VALUES (.object "com/example/overcap/overcap/plans/ManagementGroup") (3 : Int32) [(.ref a_GROUP_1), (.ref a_GROUP_2), (.ref a_GROUP_3)] .null)
theorem d2_0 : decode prog_44_method_1_code 0 = .ok (.getstatic 13, 3) := by decide +kernel
theorem d2_3 : decode prog_44_method_1_code 3 = .ok (.invokevirtual 17, 3) := by decide +kernel
theorem d2_6 : decode prog_44_method_1_code 6 = .ok (.checkcast 18, 3) := by decide +kernel
theorem d2_9 : decode prog_44_method_1_code 9 = .ok (.areturn, 1) := by decide +kernel
theorem pn_0 : plainName "com/example/overcap/overcap/plans/ManagementGroup" = true := by first | (simp [plainName, overriddenIn]; done) | decide +kernel
theorem ef_rm2 (m : MethodId)   : entryFrame m #[] 0 = mkF m 0 #[] [] := by first | (simp [entryFrame, mkF, argsToLocals, Value.category]; done) | rfl
def Q_rm2 (Z : State) (a__VALUES : Addr) (a_GROUP_1 : Addr) (a_GROUP_2 : Addr) (a_GROUP_3 : Addr) (a_EMPTY : Addr) (ka__VALUES : ClassId)  (h0 : Heap) (n0 : Nat) (v : Option Value) (h : Heap) (L : List Loc) : Prop := ∃ b : Addr, v = some (.ref b) ∧ h0.size ≤ b ∧ Fr n0 L ∧ Keep h0 h [] ∧ (Exa Z h b "[Lcom/example/overcap/overcap/plans/ManagementGroup;") ∧ (Arv Z h b ka__VALUES (.object "com/example/overcap/overcap/plans/ManagementGroup") (3 : Int32) [(.ref a_GROUP_1), (.ref a_GROUP_2), (.ref a_GROUP_3)] .null)
set_option maxRecDepth 65536 in
set_option maxHeartbeats 40000000 in
theorem rm2 (l : Launch) (Z : State) (a0 : Array Value) (hw : ∀ d ∈ tables_1, d.before a0 Z = true) (ws : List Jvm.Cond) (a__VALUES : Addr) (a_GROUP_1 : Addr) (a_GROUP_2 : Addr) (a_GROUP_3 : Addr) (a_EMPTY : Addr) (ka__VALUES : ClassId) (HW : Wd Z a__VALUES a_GROUP_1 a_GROUP_2 a_GROUP_3 a_EMPTY ka__VALUES)  (h0 : Heap) (n0 : Nat) (Ol : Old Z n0 h0)  :
    MetFree l (⟨"com/example/overcap/overcap/plans/ManagementGroup", "values", "()[Lcom/example/overcap/overcap/plans/ManagementGroup;"⟩ : MethodName) (head1 (Jvm.Cond.code (⟨"com/example/overcap/overcap/plans/ManagementGroup", "values", "()[Lcom/example/overcap/overcap/plans/ManagementGroup;"⟩ : MethodName) prog_44_method_1_code 0 (some (.array (.object "com/example/overcap/overcap/plans/ManagementGroup"))) :: ws) ({ frames := 1, cells := 1, slots := 3, locals := 14 } : Room)) (fun a_ U_ => a_ = #[] ∧ Z.Warmed39 U_.vm ∧ U_.heap = h0) (fun _ _ _ _ _ => True) (fun _ U_ o_ V_ => ∃ v_ L_, o_ = .returned v_ ∧ Q_rm2 Z a__VALUES a_GROUP_1 a_GROUP_2 a_GROUP_3 a_EMPTY ka__VALUES  h0 n0 v_ V_.heap L_ ∧ FrameEnd U_ o_ V_ L_ ({ frames := 1, cells := 1, slots := 3, locals := 14 } : Room).cells ({ frames := 1, cells := 1, slots := 3, locals := 14 } : Room).slots) := by
  refine MetFree.of_bodySF (plainFor_of_name pn_0) hisR ?_
  intro p e s m args below meth c s₁ Bd hml0 hP hK
  obtain ⟨rfl, hZ, hh⟩ := hP
  have hx := Bd.exec
  have hby := Bd.bytes
  have hml : c.maxLocals = 0 := hml0
  have hown : s.vm.findClass "com/example/overcap/overcap/plans/ManagementGroup" = some m.cls := findClass_of_methodNamed Bd.named
  have hnm := (name_of_methodNamed Bd.named Bd.method).1
  have X0 : Stand p l e ({ frames := 1, cells := 1, slots := 3, locals := 14 } : Room) s m #[] below meth c s₁ [] 0 0 := Stand.of_body Bd
  have e0 : s₁.heap = h0 := by rw [← hh, Bd.state]; rfl
  have N0 := Fr.nil n0
  have kp0 := Keep.refl h0 []
  show Go p e below (Fin1 s below (Q_rm2 Z a__VALUES a_GROUP_1 a_GROUP_2 a_GROUP_3 a_EMPTY ka__VALUES  h0 n0) ({ frames := 1, cells := 1, slots := 3, locals := 14 } : Room).cells ({ frames := 1, cells := 1, slots := 3, locals := 14 } : Room).slots) _
  refine Go.step (fun t_ k_ => castTop (ef_rm2 m ) k_) ?_
  obtain ⟨Ea__VALUES, Sa__VALUES, Ea_GROUP_1, Sa_GROUP_1, Ea_GROUP_2, Sa_GROUP_2, Ea_GROUP_3, Sa_GROUP_3, Ea_EMPTY, Sa_EMPTY, Fa_GROUP_1_number, Fa_GROUP_2_number, Fa_GROUP_3_number, Fa_EMPTY_value, Aa__VALUES⟩ := id HW
  show Go p e below _ (s₁.setTop (mkF m 0 #[] []))
  obtain ⟨T1, X1, e1, st1⟩ := getS2 X0 hx hZ hown (host := "") (Or.inl (hw _ (List.mem_of_getElem? (i := 7) rfl))) Via.refl e0 (Sa__VALUES.ext Ol.2) (g := (mkF m 0 #[] [])) rfl (hb hby d2_0)
  refine Go.step st1 ?_
  show Go p e below _ (T1.setTop (mkF m 3 #[] [(.ref a__VALUES)]))
  obtain ⟨T2, h2, X2, e2, E2, A2, B2, st2⟩ := cloneH X1 hx hZ hown (hw _ (List.mem_of_getElem? (i := 9) rfl)) (hw _ (List.mem_of_getElem? (i := 10) rfl)) (hw _ (List.mem_of_getElem? (i := 14) rfl)) (hw _ (List.mem_of_getElem? (i := 12) rfl)) (hw _ (List.mem_of_getElem? (i := 13) rfl)) (hw _ (List.mem_of_getElem? (i := 15) rfl)) e1 (Arv.arh (Aa__VALUES.ext Ol.2)) (Ea__VALUES.ext Ol.2) (g := (mkF m 3 #[] [(.ref a__VALUES)])) rfl (by rw [hml]; rfl) rfl (hb hby d2_3) (by decide) (W := 0) (by show 2 * 0 + _ ≤ _; exact Nat.le_of_eq rfl) (by decide) (cap := 3) (by decide) (by decide) (by decide)
  obtain ⟨b2, g2⟩ : ∃ z, z = h0.size := ⟨_, rfl⟩
  rw [← g2] at A2 B2 st2
  have nn_b2 : n0 ≤ b2 := Nat.le_trans (old_z0 Ol) (Nat.le_of_eq g2.symm)
  have sz_b2 : h0.size ≤ b2 := Nat.le_trans kp0.1 (Nat.le_of_eq g2.symm)
  have old2 := Ol.ext E2
  have kp2 := kp0.ext E2
  have V2 : Arv Z h2 b2 ka__VALUES (.object "com/example/overcap/overcap/plans/ManagementGroup") (3 : Int32) [(.ref a_GROUP_1), (.ref a_GROUP_2), (.ref a_GROUP_3)] .null := A2
  refine Go.step st2 ?_
  show Go p e below _ (T2.setTop (mkF m 6 #[] [(.ref b2)]))
  obtain ⟨T3, X3, e3, st3⟩ := castY X2 hx hZ hown (hw _ (List.mem_of_getElem? (i := 20) rfl)) e2 (Ins.self B2) (g := (mkF m 6 #[] [(.ref b2)])) rfl rfl (hb hby d2_6)
  refine Go.step st3 ?_
  show Go p e below _ (T3.setTop (mkF m 9 #[] [(.ref b2)]))
  refine Go.retR X3 hx Bd.returns rfl rfl Bd.notSynchronized (hb hby d2_9) (by rw [e3]; exact ⟨b2, rfl, sz_b2, N0, kp2, B2, V2⟩) (by decide) (by decide)
theorem d3_0 : decode jdk_32_method_1_code 0 = .ok (.getstatic 1, 3) := by decide +kernel
theorem d3_3 : decode jdk_32_method_1_code 3 = .ok (.astore_n 0, 1) := by decide +kernel
theorem d3_4 : decode jdk_32_method_1_code 4 = .ok (.aload_n 0, 1) := by decide +kernel
theorem d3_5 : decode jdk_32_method_1_code 5 = .ok (.areturn, 1) := by decide +kernel
theorem pn_1 : plainName "java/util/Optional" = true := by first | (simp [plainName, overriddenIn]; done) | decide +kernel
theorem ef_rm3 (m : MethodId)   : entryFrame m #[] 1 = mkF m 0 #[.unset] [] := by first | (simp [entryFrame, mkF, argsToLocals, Value.category]; done) | rfl
def Q_rm3 (Z : State) (a__VALUES : Addr) (a_GROUP_1 : Addr) (a_GROUP_2 : Addr) (a_GROUP_3 : Addr) (a_EMPTY : Addr) (ka__VALUES : ClassId)  (h0 : Heap) (n0 : Nat) (v : Option Value) (h : Heap) (L : List Loc) : Prop := v = some (.ref a_EMPTY) ∧ Fr n0 L ∧ h = h0
set_option maxRecDepth 65536 in
set_option maxHeartbeats 40000000 in
theorem rm3 (l : Launch) (Z : State) (a0 : Array Value) (hw : ∀ d ∈ tables_1, d.before a0 Z = true) (ws : List Jvm.Cond) (a__VALUES : Addr) (a_GROUP_1 : Addr) (a_GROUP_2 : Addr) (a_GROUP_3 : Addr) (a_EMPTY : Addr) (ka__VALUES : ClassId) (HW : Wd Z a__VALUES a_GROUP_1 a_GROUP_2 a_GROUP_3 a_EMPTY ka__VALUES)  (h0 : Heap) (n0 : Nat) (Ol : Old Z n0 h0)  :
    MetFree l (⟨"java/util/Optional", "empty", "()Ljava/util/Optional;"⟩ : MethodName) (head1 (Jvm.Cond.code (⟨"java/util/Optional", "empty", "()Ljava/util/Optional;"⟩ : MethodName) jdk_32_method_1_code 1 (some (.object "java/util/Optional")) :: ws) ({ frames := 0, cells := 0, slots := 0, locals := 0 } : Room)) (fun a_ U_ => a_ = #[] ∧ Z.Warmed39 U_.vm ∧ U_.heap = h0) (fun _ _ _ _ _ => True) (fun _ U_ o_ V_ => ∃ v_ L_, o_ = .returned v_ ∧ Q_rm3 Z a__VALUES a_GROUP_1 a_GROUP_2 a_GROUP_3 a_EMPTY ka__VALUES  h0 n0 v_ V_.heap L_ ∧ FrameEnd U_ o_ V_ L_ ({ frames := 0, cells := 0, slots := 0, locals := 0 } : Room).cells ({ frames := 0, cells := 0, slots := 0, locals := 0 } : Room).slots) := by
  refine MetFree.of_bodySF (plainFor_of_name pn_1) hisR ?_
  intro p e s m args below meth c s₁ Bd hml0 hP hK
  obtain ⟨rfl, hZ, hh⟩ := hP
  have hx := Bd.exec
  have hby := Bd.bytes
  have hml : c.maxLocals = 1 := hml0
  have hown : s.vm.findClass "java/util/Optional" = some m.cls := findClass_of_methodNamed Bd.named
  have hnm := (name_of_methodNamed Bd.named Bd.method).1
  have X0 : Stand p l e ({ frames := 0, cells := 0, slots := 0, locals := 0 } : Room) s m #[] below meth c s₁ [] 0 0 := Stand.of_body Bd
  have e0 : s₁.heap = h0 := by rw [← hh, Bd.state]; rfl
  have N0 := Fr.nil n0
  have kp0 := Keep.refl h0 []
  show Go p e below (Fin1 s below (Q_rm3 Z a__VALUES a_GROUP_1 a_GROUP_2 a_GROUP_3 a_EMPTY ka__VALUES  h0 n0) ({ frames := 0, cells := 0, slots := 0, locals := 0 } : Room).cells ({ frames := 0, cells := 0, slots := 0, locals := 0 } : Room).slots) _
  refine Go.step (fun t_ k_ => castTop (ef_rm3 m ) k_) ?_
  obtain ⟨Ea__VALUES, Sa__VALUES, Ea_GROUP_1, Sa_GROUP_1, Ea_GROUP_2, Sa_GROUP_2, Ea_GROUP_3, Sa_GROUP_3, Ea_EMPTY, Sa_EMPTY, Fa_GROUP_1_number, Fa_GROUP_2_number, Fa_GROUP_3_number, Fa_EMPTY_value, Aa__VALUES⟩ := id HW
  show Go p e below _ (s₁.setTop (mkF m 0 #[.unset] []))
  obtain ⟨T1, X1, e1, st1⟩ := getS2 X0 hx hZ hown (host := "") (Or.inl (hw _ (List.mem_of_getElem? (i := 28) rfl))) Via.refl e0 (Sa_EMPTY.ext Ol.2) (g := (mkF m 0 #[.unset] [])) rfl (hb hby d3_0)
  refine Go.step st1 ?_
  show Go p e below _ (T1.setTop (mkF m 3 #[.unset] [(.ref a_EMPTY)]))
  refine Go.step (fun t_ k_ => XS.astoreN X1.here hx rfl (hb hby d3_3) rfl rfl (l' := #[.val (.ref a_EMPTY)]) rfl k_) ?_
  show Go p e below _ (T1.setTop (mkF m 4 #[.val (.ref a_EMPTY)] []))
  refine Go.step (fun t_ k_ => XS.aloadN X1.here hx rfl (hb hby d3_4) rfl rfl k_) ?_
  show Go p e below _ (T1.setTop (mkF m 5 #[.val (.ref a_EMPTY)] [(.ref a_EMPTY)]))
  refine Go.retR X1 hx Bd.returns rfl rfl Bd.notSynchronized (hb hby d3_5) (by rw [e1]; exact ⟨rfl, N0, rfl⟩) (by decide) (by decide)
theorem d7_0 : decode jdk_31_method_10_code 0 = .ok (.aload_n 0, 1) := by decide +kernel
theorem d7_1 : decode jdk_31_method_10_code 1 = .ok (.ifnonnull 11, 3) := by decide +kernel
theorem d7_12 : decode jdk_31_method_10_code 12 = .ok (.aload_n 0, 1) := by decide +kernel
theorem d7_13 : decode jdk_31_method_10_code 13 = .ok (.areturn, 1) := by decide +kernel
theorem pn_2 : plainName "java/util/Objects" = true := by first | (simp [plainName, overriddenIn]; done) | decide +kernel
theorem ef_rm7 (m : MethodId) (x0 : Addr)  : entryFrame m #[(.ref x0)] 1 = mkF m 0 #[.val (.ref x0)] [] := by first | (simp [entryFrame, mkF, argsToLocals, Value.category]; done) | rfl
def Q_rm7 (Z : State) (a__VALUES : Addr) (a_GROUP_1 : Addr) (a_GROUP_2 : Addr) (a_GROUP_3 : Addr) (a_EMPTY : Addr) (ka__VALUES : ClassId) (x0 : Addr) (h0 : Heap) (n0 : Nat) (v : Option Value) (h : Heap) (L : List Loc) : Prop := v = some (.ref x0) ∧ Fr n0 L ∧ h = h0
set_option maxRecDepth 65536 in
set_option maxHeartbeats 40000000 in
theorem rm7 (l : Launch) (Z : State) (a0 : Array Value) (hw : ∀ d ∈ tables_1, d.before a0 Z = true) (ws : List Jvm.Cond) (a__VALUES : Addr) (a_GROUP_1 : Addr) (a_GROUP_2 : Addr) (a_GROUP_3 : Addr) (a_EMPTY : Addr) (ka__VALUES : ClassId) (HW : Wd Z a__VALUES a_GROUP_1 a_GROUP_2 a_GROUP_3 a_EMPTY ka__VALUES) (x0 : Addr) (h0 : Heap) (n0 : Nat) (Ol : Old Z n0 h0)  :
    MetFree l (⟨"java/util/Objects", "requireNonNull", "(Ljava/lang/Object;)Ljava/lang/Object;"⟩ : MethodName) (head1 (Jvm.Cond.code (⟨"java/util/Objects", "requireNonNull", "(Ljava/lang/Object;)Ljava/lang/Object;"⟩ : MethodName) jdk_31_method_10_code 1 (some (.object "java/lang/Object")) :: ws) ({ frames := 0, cells := 0, slots := 0, locals := 0 } : Room)) (fun a_ U_ => a_ = #[(.ref x0)] ∧ Z.Warmed39 U_.vm ∧ U_.heap = h0) (fun _ _ _ _ _ => True) (fun _ U_ o_ V_ => ∃ v_ L_, o_ = .returned v_ ∧ Q_rm7 Z a__VALUES a_GROUP_1 a_GROUP_2 a_GROUP_3 a_EMPTY ka__VALUES x0 h0 n0 v_ V_.heap L_ ∧ FrameEnd U_ o_ V_ L_ ({ frames := 0, cells := 0, slots := 0, locals := 0 } : Room).cells ({ frames := 0, cells := 0, slots := 0, locals := 0 } : Room).slots) := by
  refine MetFree.of_bodySF (plainFor_of_name pn_2) hisR ?_
  intro p e s m args below meth c s₁ Bd hml0 hP hK
  obtain ⟨rfl, hZ, hh⟩ := hP
  have hx := Bd.exec
  have hby := Bd.bytes
  have hml : c.maxLocals = 1 := hml0
  have hown : s.vm.findClass "java/util/Objects" = some m.cls := findClass_of_methodNamed Bd.named
  have hnm := (name_of_methodNamed Bd.named Bd.method).1
  have X0 : Stand p l e ({ frames := 0, cells := 0, slots := 0, locals := 0 } : Room) s m #[(.ref x0)] below meth c s₁ [] 0 0 := Stand.of_body Bd
  have e0 : s₁.heap = h0 := by rw [← hh, Bd.state]; rfl
  have N0 := Fr.nil n0
  have kp0 := Keep.refl h0 []
  show Go p e below (Fin1 s below (Q_rm7 Z a__VALUES a_GROUP_1 a_GROUP_2 a_GROUP_3 a_EMPTY ka__VALUES x0 h0 n0) ({ frames := 0, cells := 0, slots := 0, locals := 0 } : Room).cells ({ frames := 0, cells := 0, slots := 0, locals := 0 } : Room).slots) _
  refine Go.step (fun t_ k_ => castTop (ef_rm7 m x0) k_) ?_
  obtain ⟨Ea__VALUES, Sa__VALUES, Ea_GROUP_1, Sa_GROUP_1, Ea_GROUP_2, Sa_GROUP_2, Ea_GROUP_3, Sa_GROUP_3, Ea_EMPTY, Sa_EMPTY, Fa_GROUP_1_number, Fa_GROUP_2_number, Fa_GROUP_3_number, Fa_EMPTY_value, Aa__VALUES⟩ := id HW
  show Go p e below _ (s₁.setTop (mkF m 0 #[.val (.ref x0)] []))
  refine Go.step (fun t_ k_ => XS.aloadN X0.here hx rfl (hb hby d7_0) rfl rfl k_) ?_
  show Go p e below _ (s₁.setTop (mkF m 1 #[.val (.ref x0)] [(.ref x0)]))
  refine Go.step (fun t_ k_ => XS.ifnonnullYes X0.here hx rfl (pc0 := 1) (pc' := 12) rfl (hb hby d7_1) rfl (by decide) (by decide) k_) ?_
  show Go p e below _ (s₁.setTop (mkF m 12 #[.val (.ref x0)] []))
  refine Go.step (fun t_ k_ => XS.aloadN X0.here hx rfl (hb hby d7_12) rfl rfl k_) ?_
  show Go p e below _ (s₁.setTop (mkF m 13 #[.val (.ref x0)] [(.ref x0)]))
  refine Go.retR X0 hx Bd.returns rfl rfl Bd.notSynchronized (hb hby d7_13) (by rw [e0]; exact ⟨rfl, N0, rfl⟩) (by decide) (by decide)
theorem d8_0 : decode jdk_32_method_2_code 0 = .ok (.aload_n 0, 1) := by decide +kernel
theorem d8_1 : decode jdk_32_method_2_code 1 = .ok (.invokespecial 7, 3) := by decide +kernel
theorem d8_4 : decode jdk_32_method_2_code 4 = .ok (.aload_n 0, 1) := by decide +kernel
theorem d8_5 : decode jdk_32_method_2_code 5 = .ok (.aload_n 1, 1) := by decide +kernel
theorem d8_6 : decode jdk_32_method_2_code 6 = .ok (.putfield 13, 3) := by decide +kernel
theorem d8_9 : decode jdk_32_method_2_code 9 = .ok (.return_, 1) := by decide +kernel
theorem ef_rm8 (m : MethodId) (x0 : Addr) (x1 : Addr)  : entryFrame m #[(.ref x0), (.ref x1)] 2 = mkF m 0 #[.val (.ref x0), .val (.ref x1)] [] := by first | (simp [entryFrame, mkF, argsToLocals, Value.category]; done) | rfl
def Q_rm8 (Z : State) (a__VALUES : Addr) (a_GROUP_1 : Addr) (a_GROUP_2 : Addr) (a_GROUP_3 : Addr) (a_EMPTY : Addr) (ka__VALUES : ClassId) (o : Addr) (x0 : Addr) (h0 : Heap) (n0 : Nat) (v : Option Value) (h : Heap) (L : List Loc) : Prop := v = none ∧ Fr n0 L ∧ Keep h0 h [o] ∧ (Exa Z h o "java/util/Optional") ∧ (Fld Z h o "java/util/Optional" "value" "Ljava/lang/Object;" (.ref x0))
set_option maxRecDepth 65536 in
set_option maxHeartbeats 40000000 in
theorem rm8 (l : Launch) (Z : State) (a0 : Array Value) (hw : ∀ d ∈ tables_1, d.before a0 Z = true) (ws : List Jvm.Cond) (a__VALUES : Addr) (a_GROUP_1 : Addr) (a_GROUP_2 : Addr) (a_GROUP_3 : Addr) (a_EMPTY : Addr) (ka__VALUES : ClassId) (HW : Wd Z a__VALUES a_GROUP_1 a_GROUP_2 a_GROUP_3 a_EMPTY ka__VALUES) (o : Addr) (x0 : Addr) (h0 : Heap) (n0 : Nat) (Ol : Old Z n0 h0) (HE_o : Exa Z h0 o "java/util/Optional") (HF_o_Optional_value : Fld Z h0 o "java/util/Optional" "value" "Ljava/lang/Object;" .null) (nn_o : n0 ≤ o) :
    MetFree l (⟨"java/util/Optional", "<init>", "(Ljava/lang/Object;)V"⟩ : MethodName) (head1 (Jvm.Cond.code (⟨"java/util/Optional", "<init>", "(Ljava/lang/Object;)V"⟩ : MethodName) jdk_32_method_2_code 2 none :: ws) ({ frames := 1, cells := 0, slots := 0, locals := 12 } : Room)) (fun a_ U_ => a_ = #[(.ref o), (.ref x0)] ∧ Z.Warmed39 U_.vm ∧ U_.heap = h0) (fun _ _ _ _ _ => True) (fun _ U_ o_ V_ => ∃ v_ L_, o_ = .returned v_ ∧ Q_rm8 Z a__VALUES a_GROUP_1 a_GROUP_2 a_GROUP_3 a_EMPTY ka__VALUES o x0 h0 n0 v_ V_.heap L_ ∧ FrameEnd U_ o_ V_ L_ ({ frames := 1, cells := 0, slots := 0, locals := 12 } : Room).cells ({ frames := 1, cells := 0, slots := 0, locals := 12 } : Room).slots) := by
  refine MetFree.of_bodySF (plainFor_of_name pn_1) hisR ?_
  intro p e s m args below meth c s₁ Bd hml0 hP hK
  obtain ⟨rfl, hZ, hh⟩ := hP
  have hx := Bd.exec
  have hby := Bd.bytes
  have hml : c.maxLocals = 2 := hml0
  have hown : s.vm.findClass "java/util/Optional" = some m.cls := findClass_of_methodNamed Bd.named
  have hnm := (name_of_methodNamed Bd.named Bd.method).1
  have X0 : Stand p l e ({ frames := 1, cells := 0, slots := 0, locals := 12 } : Room) s m #[(.ref o), (.ref x0)] below meth c s₁ [] 0 0 := Stand.of_body Bd
  have e0 : s₁.heap = h0 := by rw [← hh, Bd.state]; rfl
  have N0 := Fr.nil n0
  have kp0 := Keep.refl h0 [o]
  show Go p e below (Fin1 s below (Q_rm8 Z a__VALUES a_GROUP_1 a_GROUP_2 a_GROUP_3 a_EMPTY ka__VALUES o x0 h0 n0) ({ frames := 1, cells := 0, slots := 0, locals := 12 } : Room).cells ({ frames := 1, cells := 0, slots := 0, locals := 12 } : Room).slots) _
  refine Go.step (fun t_ k_ => castTop (ef_rm8 m o x0) k_) ?_
  obtain ⟨Ea__VALUES, Sa__VALUES, Ea_GROUP_1, Sa_GROUP_1, Ea_GROUP_2, Sa_GROUP_2, Ea_GROUP_3, Sa_GROUP_3, Ea_EMPTY, Sa_EMPTY, Fa_GROUP_1_number, Fa_GROUP_2_number, Fa_GROUP_3_number, Fa_EMPTY_value, Aa__VALUES⟩ := id HW
  show Go p e below _ (s₁.setTop (mkF m 0 #[.val (.ref o), .val (.ref x0)] []))
  refine Go.step (fun t_ k_ => XS.aloadN X0.here hx rfl (hb hby d8_0) rfl rfl k_) ?_
  show Go p e below _ (s₁.setTop (mkF m 1 #[.val (.ref o), .val (.ref x0)] [(.ref o)]))
  obtain ⟨T1, X1, e1, st1⟩ := initO X0 hx hZ hown (hw _ (List.mem_of_getElem? (i := 53) rfl)) (hw _ (List.mem_of_getElem? (i := 54) rfl)) (hw _ (List.mem_of_getElem? (i := 55) rfl)) e0 (g := (mkF m 1 #[.val (.ref o), .val (.ref x0)] [(.ref o)])) rfl (by rw [hml]; rfl) rfl (hb hby d8_1) (by decide) (W := 0) (by show 2 * 0 + _ ≤ _; exact Nat.le_of_eq rfl) (by decide)
  refine Go.step st1 ?_
  show Go p e below _ (T1.setTop (mkF m 4 #[.val (.ref o), .val (.ref x0)] []))
  refine Go.step (fun t_ k_ => XS.aloadN X1.here hx rfl (hb hby d8_4) rfl rfl k_) ?_
  show Go p e below _ (T1.setTop (mkF m 5 #[.val (.ref o), .val (.ref x0)] [(.ref o)]))
  refine Go.step (fun t_ k_ => XS.aloadN X1.here hx rfl (hb hby d8_5) rfl rfl k_) ?_
  show Go p e below _ (T1.setTop (mkF m 6 #[.val (.ref o), .val (.ref x0)] [(.ref x0), (.ref o)]))
  obtain ⟨T2, h2, X2, e2, W2, st2⟩ := putF X1 hx hZ hown (host := "") (Or.inl (hw _ (List.mem_of_getElem? (i := 34) rfl))) Via.refl e1 HF_o_Optional_value HE_o (Or.inr ⟨(hw _ (List.mem_of_getElem? (i := 35) rfl)), rfl, hnm⟩) (hw _ (List.mem_of_getElem? (i := 44) rfl)) (ty := (.object "java/lang/Object")) (by decide) rfl rfl (g := (mkF m 6 #[.val (.ref o), .val (.ref x0)] [(.ref x0), (.ref o)])) rfl rfl (hb hby d8_6)
  have N2 := Fr.snoc X2 N0 nn_o
  have old2 := Ol.wr W2 nn_o
  have kp2 := kp0.wr W2 (Or.inl (List.mem_of_getElem? (i := 0) rfl))
  have F2 := HF_o_Optional_value.same W2
  refine Go.step st2 ?_
  show Go p e below _ (T2.setTop (mkF m 9 #[.val (.ref o), .val (.ref x0)] []))
  have f3 := (HE_o.wr W2)
  refine Go.retV X2 hx Bd.returns Bd.notSynchronized (hb hby d8_9) (by rw [e2]; exact ⟨rfl, N2, kp2, f3, F2⟩) (by decide) (by decide)
theorem d6_0 : decode jdk_32_method_3_code 0 = .ok (.new 2, 3) := by decide +kernel
theorem d6_3 : decode jdk_32_method_3_code 3 = .ok (.dup, 1) := by decide +kernel
theorem d6_4 : decode jdk_32_method_3_code 4 = .ok (.aload_n 0, 1) := by decide +kernel
theorem d6_5 : decode jdk_32_method_3_code 5 = .ok (.invokestatic 17, 3) := by decide +kernel
theorem pd_0 : parseMethodDescriptor "(Ljava/lang/Object;)Ljava/lang/Object;" = some ⟨[(.object "java/lang/Object")], some (.object "java/lang/Object")⟩ := by decide +kernel
theorem d6_8 : decode jdk_32_method_3_code 8 = .ok (.invokespecial 23, 3) := by decide +kernel
theorem pd_1 : parseMethodDescriptor "(Ljava/lang/Object;)V" = some ⟨[(.object "java/lang/Object")], none⟩ := by decide +kernel
theorem d6_11 : decode jdk_32_method_3_code 11 = .ok (.areturn, 1) := by decide +kernel
theorem ef_rm6 (m : MethodId) (x0 : Addr)  : entryFrame m #[(.ref x0)] 1 = mkF m 0 #[.val (.ref x0)] [] := by first | (simp [entryFrame, mkF, argsToLocals, Value.category]; done) | rfl
def Q_rm6 (Z : State) (a__VALUES : Addr) (a_GROUP_1 : Addr) (a_GROUP_2 : Addr) (a_GROUP_3 : Addr) (a_EMPTY : Addr) (ka__VALUES : ClassId) (x0 : Addr) (h0 : Heap) (n0 : Nat) (v : Option Value) (h : Heap) (L : List Loc) : Prop := ∃ b : Addr, v = some (.ref b) ∧ h0.size ≤ b ∧ Fr n0 L ∧ Keep h0 h [] ∧ (Exa Z h b "java/util/Optional") ∧ (Fld Z h b "java/util/Optional" "value" "Ljava/lang/Object;" (.ref x0))
set_option maxRecDepth 65536 in
set_option maxHeartbeats 40000000 in
theorem rm6 (l : Launch) (Z : State) (a0 : Array Value) (hw : ∀ d ∈ tables_1, d.before a0 Z = true) (ws : List Jvm.Cond) (a__VALUES : Addr) (a_GROUP_1 : Addr) (a_GROUP_2 : Addr) (a_GROUP_3 : Addr) (a_EMPTY : Addr) (ka__VALUES : ClassId) (HW : Wd Z a__VALUES a_GROUP_1 a_GROUP_2 a_GROUP_3 a_EMPTY ka__VALUES) (x0 : Addr) (h0 : Heap) (n0 : Nat) (Ol : Old Z n0 h0)  :
    MetFree l (⟨"java/util/Optional", "of", "(Ljava/lang/Object;)Ljava/util/Optional;"⟩ : MethodName) (head1 (Jvm.Cond.code (⟨"java/util/Optional", "of", "(Ljava/lang/Object;)Ljava/util/Optional;"⟩ : MethodName) jdk_32_method_3_code 1 (some (.object "java/util/Optional")) :: ws) ({ frames := 2, cells := 1, slots := 1, locals := 26 } : Room)) (fun a_ U_ => a_ = #[(.ref x0)] ∧ Z.Warmed39 U_.vm ∧ U_.heap = h0) (fun _ _ _ _ _ => True) (fun _ U_ o_ V_ => ∃ v_ L_, o_ = .returned v_ ∧ Q_rm6 Z a__VALUES a_GROUP_1 a_GROUP_2 a_GROUP_3 a_EMPTY ka__VALUES x0 h0 n0 v_ V_.heap L_ ∧ FrameEnd U_ o_ V_ L_ ({ frames := 2, cells := 1, slots := 1, locals := 26 } : Room).cells ({ frames := 2, cells := 1, slots := 1, locals := 26 } : Room).slots) := by
  refine MetFree.of_bodySF (plainFor_of_name pn_1) hisR ?_
  intro p e s m args below meth c s₁ Bd hml0 hP hK
  obtain ⟨rfl, hZ, hh⟩ := hP
  have hx := Bd.exec
  have hby := Bd.bytes
  have hml : c.maxLocals = 1 := hml0
  have hown : s.vm.findClass "java/util/Optional" = some m.cls := findClass_of_methodNamed Bd.named
  have hnm := (name_of_methodNamed Bd.named Bd.method).1
  have X0 : Stand p l e ({ frames := 2, cells := 1, slots := 1, locals := 26 } : Room) s m #[(.ref x0)] below meth c s₁ [] 0 0 := Stand.of_body Bd
  have e0 : s₁.heap = h0 := by rw [← hh, Bd.state]; rfl
  have N0 := Fr.nil n0
  have kp0 := Keep.refl h0 []
  show Go p e below (Fin1 s below (Q_rm6 Z a__VALUES a_GROUP_1 a_GROUP_2 a_GROUP_3 a_EMPTY ka__VALUES x0 h0 n0) ({ frames := 2, cells := 1, slots := 1, locals := 26 } : Room).cells ({ frames := 2, cells := 1, slots := 1, locals := 26 } : Room).slots) _
  refine Go.step (fun t_ k_ => castTop (ef_rm6 m x0) k_) ?_
  obtain ⟨Ea__VALUES, Sa__VALUES, Ea_GROUP_1, Sa_GROUP_1, Ea_GROUP_2, Sa_GROUP_2, Ea_GROUP_3, Sa_GROUP_3, Ea_EMPTY, Sa_EMPTY, Fa_GROUP_1_number, Fa_GROUP_2_number, Fa_GROUP_3_number, Fa_EMPTY_value, Aa__VALUES⟩ := id HW
  show Go p e below _ (s₁.setTop (mkF m 0 #[.val (.ref x0)] []))
  obtain ⟨T1, h1, X1, e1, E1, A1, D1, Y1, st1⟩ := newO X0 hx hZ hown (hw _ (List.mem_of_getElem? (i := 43) rfl)) (hw _ (List.mem_of_getElem? (i := 44) rfl)) (hw _ (List.mem_of_getElem? (i := 26) rfl)) e0 (g := (mkF m 0 #[.val (.ref x0)] [])) rfl (hb hby d6_0) (by decide) (by decide)
  obtain ⟨b1, g1⟩ : ∃ z, z = h0.size := ⟨_, rfl⟩
  rw [← g1] at A1 D1 Y1 st1
  have nn_b1 : n0 ≤ b1 := Nat.le_trans (old_z0 Ol) (Nat.le_of_eq g1.symm)
  have sz_b1 : h0.size ≤ b1 := Nat.le_trans kp0.1 (Nat.le_of_eq g1.symm)
  have old1 := Ol.ext E1
  have kp1 := kp0.ext E1
  have F1_value : Fld Z h1 b1 "java/util/Optional" "value" "Ljava/lang/Object;" .null := D1 (Or.inr (hw _ (List.mem_of_getElem? (i := 35) rfl))) (ty := (.object "java/lang/Object")) (by decide)
  refine Go.step st1 ?_
  show Go p e below _ (T1.setTop (mkF m 3 #[.val (.ref x0)] [(.ref b1)]))
  refine Go.step (fun t_ k_ => XS.dup X1.here hx rfl (hb hby d6_3) rfl rfl k_) ?_
  show Go p e below _ (T1.setTop (mkF m 4 #[.val (.ref x0)] [(.ref b1), (.ref b1)]))
  refine Go.step (fun t_ k_ => XS.aloadN X1.here hx rfl (hb hby d6_4) rfl rfl k_) ?_
  show Go p e below _ (T1.setTop (mkF m 5 #[.val (.ref x0)] [(.ref x0), (.ref b1), (.ref b1)]))
  obtain ⟨_, _, ⟨T2, L2, k2, n2⟩, -, X2, ⟨Lc2, hQ2, l2, y2, z2⟩, st2⟩ := Jvm.LawKit.callS X1 hx (y := (⟨"java/util/Objects", "requireNonNull", "(Ljava/lang/Object;)Ljava/lang/Object;"⟩ : MethodName)) hown (mvT hZ (hw _ (List.mem_of_getElem? (i := 45) rfl))) (mvT hZ (hw _ (List.mem_of_getElem? (i := 46) rfl))) (mvT hZ (hw _ (List.mem_of_getElem? (i := 47) rfl))) (mvT hZ (hw _ (List.mem_of_getElem? (i := 48) rfl))) (by decide) (backOf (W := 2) (rm7 l Z a0 hw [] a__VALUES a_GROUP_1 a_GROUP_2 a_GROUP_3 a_EMPTY ka__VALUES HW x0 h1 n0 old1 ) hZ (hw _ (List.mem_of_getElem? (i := 48) rfl)) (hw _ (List.mem_of_getElem? (i := 47) rfl)) (by decide) (by decide)) (g := (mkF m 5 #[.val (.ref x0)] [(.ref x0), (.ref b1), (.ref b1)])) rfl (by rw [hml]; rfl) (argsL := [(.ref x0)]) (rest := [(.ref b1), (.ref b1)]) (lenOf pd_0 rfl) rfl (by show 2 * 0 + _ ≤ _; exact Nat.le_of_eq rfl) (hb hby d6_5) (fun _ _ => ⟨rfl, e1, (by decide : 1 + 0 ≤ _), (by decide : 1 + 0 ≤ _)⟩)
  dsimp only [Pt.U, Pt.locs, Pt.cells, Pt.slots] at X2 l2 y2 z2 st2 hQ2
  subst l2 y2 z2
  obtain ⟨rfl, Nq2, e2⟩ := hQ2
  have N2 := Fr.app N0 Nq2
  refine Go.step st2 ?_
  show Go p e below _ (T2.setTop (mkF m 8 #[.val (.ref x0)] [(.ref x0), (.ref b1), (.ref b1)]))
  obtain ⟨_, _, ⟨T3, L3, k3, n3⟩, -, X3, ⟨Lc3, hQ3, l3, y3, z3⟩, st3⟩ := X2.specialBack hx (y := (⟨"java/util/Optional", "<init>", "(Ljava/lang/Object;)V"⟩ : MethodName)) rfl hown (mvT hZ (hw _ (List.mem_of_getElem? (i := 49) rfl))) (mvT hZ (hw _ (List.mem_of_getElem? (i := 50) rfl))) (mvT hZ (hw _ (List.mem_of_getElem? (i := 52) rfl))) (by decide) (backOf (W := 1) (rm8 l Z a0 hw [] a__VALUES a_GROUP_1 a_GROUP_2 a_GROUP_3 a_EMPTY ka__VALUES HW b1 x0 h1 n0 old1 A1 F1_value nn_b1) hZ (hw _ (List.mem_of_getElem? (i := 52) rfl)) (hw _ (List.mem_of_getElem? (i := 26) rfl)) (by decide) (by decide)) (g := (mkF m 8 #[.val (.ref x0)] [(.ref x0), (.ref b1), (.ref b1)])) rfl (by rw [hml]; rfl) (Steps.refl _) (a := b1) (argsL := [(.ref x0)]) (rest := [(.ref b1)]) (lenOf pd_1 rfl) rfl (by show 2 * 0 + _ ≤ _; exact Nat.le_of_eq rfl) (hb hby d6_8) (fun _ _ => ⟨rfl, e2, (by decide : 1 + 0 ≤ _), (by decide : 1 + 0 ≤ _)⟩)
  dsimp only [Pt.U, Pt.locs, Pt.cells, Pt.slots] at X3 l3 y3 z3 st3 hQ3
  subst l3 y3 z3
  obtain ⟨rfl, Nq3, K3, p3_0, p3_1⟩ := hQ3
  have old3 := old1.keep K3 (allS nn_b1 all0)
  have kp3 := kp1.trans K3 (allS (Or.inr sz_b1) all0)
  have N3 := Fr.app N2 Nq3
  refine Go.step (fun t_ k_ => st3.trans k_) ?_
  show Go p e below _ (T3.setTop (mkF m 11 #[.val (.ref x0)] [(.ref b1)]))
  refine Go.retR X3 hx Bd.returns rfl rfl Bd.notSynchronized (hb hby d6_11) (by exact ⟨b1, rfl, sz_b1, N3, kp3, p3_0, p3_1⟩) (by decide) (by decide)
theorem d4_0 : decode jdk_32_method_15_code 0 = .ok (.aload_n 0, 1) := by decide +kernel
theorem d4_1 : decode jdk_32_method_15_code 1 = .ok (.getfield 13, 3) := by decide +kernel
theorem d4_4 : decode jdk_32_method_15_code 4 = .ok (.ifnull 10, 3) := by decide +kernel
theorem d4_14 : decode jdk_32_method_15_code 14 = .ok (.aload_n 1, 1) := by decide +kernel
theorem d4_15 : decode jdk_32_method_15_code 15 = .ok (.areturn, 1) := by decide +kernel
theorem ef_rm_else0 (m : MethodId) (x0 : Addr)  : entryFrame m #[(.ref x0), .null] 2 = mkF m 0 #[.val (.ref x0), .val .null] [] := by first | (simp [entryFrame, mkF, argsToLocals, Value.category]; done) | rfl
def Q_rm_else0 (Z : State) (a__VALUES : Addr) (a_GROUP_1 : Addr) (a_GROUP_2 : Addr) (a_GROUP_3 : Addr) (a_EMPTY : Addr) (ka__VALUES : ClassId) (o : Addr) (h0 : Heap) (n0 : Nat) (v : Option Value) (h : Heap) (L : List Loc) : Prop := v = some .null ∧ Fr n0 L ∧ h = h0
set_option maxRecDepth 65536 in
set_option maxHeartbeats 40000000 in
theorem rm_else0 (l : Launch) (Z : State) (a0 : Array Value) (hw : ∀ d ∈ tables_1, d.before a0 Z = true) (ws : List Jvm.Cond) (a__VALUES : Addr) (a_GROUP_1 : Addr) (a_GROUP_2 : Addr) (a_GROUP_3 : Addr) (a_EMPTY : Addr) (ka__VALUES : ClassId) (HW : Wd Z a__VALUES a_GROUP_1 a_GROUP_2 a_GROUP_3 a_EMPTY ka__VALUES) (o : Addr) (h0 : Heap) (n0 : Nat) (Ol : Old Z n0 h0) (HF_o_Optional_value : Fld Z h0 o "java/util/Optional" "value" "Ljava/lang/Object;" .null) :
    MetFree l (⟨"java/util/Optional", "orElse", "(Ljava/lang/Object;)Ljava/lang/Object;"⟩ : MethodName) (head1 (Jvm.Cond.code (⟨"java/util/Optional", "orElse", "(Ljava/lang/Object;)Ljava/lang/Object;"⟩ : MethodName) jdk_32_method_15_code 2 (some (.object "java/lang/Object")) :: ws) ({ frames := 0, cells := 0, slots := 0, locals := 0 } : Room)) (fun a_ U_ => a_ = #[(.ref o), .null] ∧ Z.Warmed39 U_.vm ∧ U_.heap = h0) (fun _ _ _ _ _ => True) (fun _ U_ o_ V_ => ∃ v_ L_, o_ = .returned v_ ∧ Q_rm_else0 Z a__VALUES a_GROUP_1 a_GROUP_2 a_GROUP_3 a_EMPTY ka__VALUES o h0 n0 v_ V_.heap L_ ∧ FrameEnd U_ o_ V_ L_ ({ frames := 0, cells := 0, slots := 0, locals := 0 } : Room).cells ({ frames := 0, cells := 0, slots := 0, locals := 0 } : Room).slots) := by
  refine MetFree.of_bodySF (plainFor_of_name pn_1) hisR ?_
  intro p e s m args below meth c s₁ Bd hml0 hP hK
  obtain ⟨rfl, hZ, hh⟩ := hP
  have hx := Bd.exec
  have hby := Bd.bytes
  have hml : c.maxLocals = 2 := hml0
  have hown : s.vm.findClass "java/util/Optional" = some m.cls := findClass_of_methodNamed Bd.named
  have hnm := (name_of_methodNamed Bd.named Bd.method).1
  have X0 : Stand p l e ({ frames := 0, cells := 0, slots := 0, locals := 0 } : Room) s m #[(.ref o), .null] below meth c s₁ [] 0 0 := Stand.of_body Bd
  have e0 : s₁.heap = h0 := by rw [← hh, Bd.state]; rfl
  have N0 := Fr.nil n0
  have kp0 := Keep.refl h0 []
  show Go p e below (Fin1 s below (Q_rm_else0 Z a__VALUES a_GROUP_1 a_GROUP_2 a_GROUP_3 a_EMPTY ka__VALUES o h0 n0) ({ frames := 0, cells := 0, slots := 0, locals := 0 } : Room).cells ({ frames := 0, cells := 0, slots := 0, locals := 0 } : Room).slots) _
  refine Go.step (fun t_ k_ => castTop (ef_rm_else0 m o) k_) ?_
  obtain ⟨Ea__VALUES, Sa__VALUES, Ea_GROUP_1, Sa_GROUP_1, Ea_GROUP_2, Sa_GROUP_2, Ea_GROUP_3, Sa_GROUP_3, Ea_EMPTY, Sa_EMPTY, Fa_GROUP_1_number, Fa_GROUP_2_number, Fa_GROUP_3_number, Fa_EMPTY_value, Aa__VALUES⟩ := id HW
  show Go p e below _ (s₁.setTop (mkF m 0 #[.val (.ref o), .val .null] []))
  refine Go.step (fun t_ k_ => XS.aloadN X0.here hx rfl (hb hby d4_0) rfl rfl k_) ?_
  show Go p e below _ (s₁.setTop (mkF m 1 #[.val (.ref o), .val .null] [(.ref o)]))
  obtain ⟨T1, X1, e1, st1⟩ := getF X0 hx hZ hown (host := "") (Or.inl (hw _ (List.mem_of_getElem? (i := 34) rfl))) Via.refl e0 HF_o_Optional_value (g := (mkF m 1 #[.val (.ref o), .val .null] [(.ref o)])) rfl rfl (hb hby d4_1)
  refine Go.step st1 ?_
  show Go p e below _ (T1.setTop (mkF m 4 #[.val (.ref o), .val .null] [.null]))
  refine Go.step (fun t_ k_ => XS.ifnullYes X1.here hx rfl (pc0 := 4) (pc' := 14) rfl (hb hby d4_4) rfl (by decide) (by decide) k_) ?_
  show Go p e below _ (T1.setTop (mkF m 14 #[.val (.ref o), .val .null] []))
  refine Go.step (fun t_ k_ => XS.aloadN X1.here hx rfl (hb hby d4_14) rfl rfl k_) ?_
  show Go p e below _ (T1.setTop (mkF m 15 #[.val (.ref o), .val .null] [.null]))
  refine Go.retR X1 hx Bd.returns rfl rfl Bd.notSynchronized (hb hby d4_15) (by rw [e1]; exact ⟨rfl, N0, rfl⟩) (by decide) (by decide)
theorem d4_7 : decode jdk_32_method_15_code 7 = .ok (.aload_n 0, 1) := by decide +kernel
theorem d4_8 : decode jdk_32_method_15_code 8 = .ok (.getfield 13, 3) := by decide +kernel
theorem d4_11 : decode jdk_32_method_15_code 11 = .ok (.goto 4, 3) := by decide +kernel
theorem ef_rm_else1 (m : MethodId) (x0 : Addr)  : entryFrame m #[(.ref x0), .null] 2 = mkF m 0 #[.val (.ref x0), .val .null] [] := by first | (simp [entryFrame, mkF, argsToLocals, Value.category]; done) | rfl
def Q_rm_else1 (Z : State) (a__VALUES : Addr) (a_GROUP_1 : Addr) (a_GROUP_2 : Addr) (a_GROUP_3 : Addr) (a_EMPTY : Addr) (ka__VALUES : ClassId) (o : Addr) (x0 : Addr) (h0 : Heap) (n0 : Nat) (v : Option Value) (h : Heap) (L : List Loc) : Prop := v = some (.ref x0) ∧ Fr n0 L ∧ h = h0
set_option maxRecDepth 65536 in
set_option maxHeartbeats 40000000 in
theorem rm_else1 (l : Launch) (Z : State) (a0 : Array Value) (hw : ∀ d ∈ tables_1, d.before a0 Z = true) (ws : List Jvm.Cond) (a__VALUES : Addr) (a_GROUP_1 : Addr) (a_GROUP_2 : Addr) (a_GROUP_3 : Addr) (a_EMPTY : Addr) (ka__VALUES : ClassId) (HW : Wd Z a__VALUES a_GROUP_1 a_GROUP_2 a_GROUP_3 a_EMPTY ka__VALUES) (o : Addr) (x0 : Addr) (h0 : Heap) (n0 : Nat) (Ol : Old Z n0 h0) (HF_o_Optional_value : Fld Z h0 o "java/util/Optional" "value" "Ljava/lang/Object;" (.ref x0)) :
    MetFree l (⟨"java/util/Optional", "orElse", "(Ljava/lang/Object;)Ljava/lang/Object;"⟩ : MethodName) (head1 (Jvm.Cond.code (⟨"java/util/Optional", "orElse", "(Ljava/lang/Object;)Ljava/lang/Object;"⟩ : MethodName) jdk_32_method_15_code 2 (some (.object "java/lang/Object")) :: ws) ({ frames := 0, cells := 0, slots := 0, locals := 0 } : Room)) (fun a_ U_ => a_ = #[(.ref o), .null] ∧ Z.Warmed39 U_.vm ∧ U_.heap = h0) (fun _ _ _ _ _ => True) (fun _ U_ o_ V_ => ∃ v_ L_, o_ = .returned v_ ∧ Q_rm_else1 Z a__VALUES a_GROUP_1 a_GROUP_2 a_GROUP_3 a_EMPTY ka__VALUES o x0 h0 n0 v_ V_.heap L_ ∧ FrameEnd U_ o_ V_ L_ ({ frames := 0, cells := 0, slots := 0, locals := 0 } : Room).cells ({ frames := 0, cells := 0, slots := 0, locals := 0 } : Room).slots) := by
  refine MetFree.of_bodySF (plainFor_of_name pn_1) hisR ?_
  intro p e s m args below meth c s₁ Bd hml0 hP hK
  obtain ⟨rfl, hZ, hh⟩ := hP
  have hx := Bd.exec
  have hby := Bd.bytes
  have hml : c.maxLocals = 2 := hml0
  have hown : s.vm.findClass "java/util/Optional" = some m.cls := findClass_of_methodNamed Bd.named
  have hnm := (name_of_methodNamed Bd.named Bd.method).1
  have X0 : Stand p l e ({ frames := 0, cells := 0, slots := 0, locals := 0 } : Room) s m #[(.ref o), .null] below meth c s₁ [] 0 0 := Stand.of_body Bd
  have e0 : s₁.heap = h0 := by rw [← hh, Bd.state]; rfl
  have N0 := Fr.nil n0
  have kp0 := Keep.refl h0 []
  show Go p e below (Fin1 s below (Q_rm_else1 Z a__VALUES a_GROUP_1 a_GROUP_2 a_GROUP_3 a_EMPTY ka__VALUES o x0 h0 n0) ({ frames := 0, cells := 0, slots := 0, locals := 0 } : Room).cells ({ frames := 0, cells := 0, slots := 0, locals := 0 } : Room).slots) _
  refine Go.step (fun t_ k_ => castTop (ef_rm_else1 m o) k_) ?_
  obtain ⟨Ea__VALUES, Sa__VALUES, Ea_GROUP_1, Sa_GROUP_1, Ea_GROUP_2, Sa_GROUP_2, Ea_GROUP_3, Sa_GROUP_3, Ea_EMPTY, Sa_EMPTY, Fa_GROUP_1_number, Fa_GROUP_2_number, Fa_GROUP_3_number, Fa_EMPTY_value, Aa__VALUES⟩ := id HW
  show Go p e below _ (s₁.setTop (mkF m 0 #[.val (.ref o), .val .null] []))
  refine Go.step (fun t_ k_ => XS.aloadN X0.here hx rfl (hb hby d4_0) rfl rfl k_) ?_
  show Go p e below _ (s₁.setTop (mkF m 1 #[.val (.ref o), .val .null] [(.ref o)]))
  obtain ⟨T1, X1, e1, st1⟩ := getF X0 hx hZ hown (host := "") (Or.inl (hw _ (List.mem_of_getElem? (i := 34) rfl))) Via.refl e0 HF_o_Optional_value (g := (mkF m 1 #[.val (.ref o), .val .null] [(.ref o)])) rfl rfl (hb hby d4_1)
  refine Go.step st1 ?_
  show Go p e below _ (T1.setTop (mkF m 4 #[.val (.ref o), .val .null] [(.ref x0)]))
  refine Go.step (fun t_ k_ => XS.ifnullNo X1.here hx rfl (hb hby d4_4) rfl k_) ?_
  show Go p e below _ (T1.setTop (mkF m 7 #[.val (.ref o), .val .null] []))
  refine Go.step (fun t_ k_ => XS.aloadN X1.here hx rfl (hb hby d4_7) rfl rfl k_) ?_
  show Go p e below _ (T1.setTop (mkF m 8 #[.val (.ref o), .val .null] [(.ref o)]))
  obtain ⟨T2, X2, e2, st2⟩ := getF X1 hx hZ hown (host := "") (Or.inl (hw _ (List.mem_of_getElem? (i := 34) rfl))) Via.refl e1 HF_o_Optional_value (g := (mkF m 8 #[.val (.ref o), .val .null] [(.ref o)])) rfl rfl (hb hby d4_8)
  refine Go.step st2 ?_
  show Go p e below _ (T2.setTop (mkF m 11 #[.val (.ref o), .val .null] [(.ref x0)]))
  refine Go.step (fun t_ k_ => XS.goto X2.here hx rfl (pc0 := 11) (pc' := 15) rfl (hb hby d4_11) (by decide) (by decide) k_) ?_
  show Go p e below _ (T2.setTop (mkF m 15 #[.val (.ref o), .val .null] [(.ref x0)]))
  refine Go.retR X2 hx Bd.returns rfl rfl Bd.notSynchronized (hb hby d4_15) (by rw [e2]; exact ⟨rfl, N0, rfl⟩) (by decide) (by decide)
theorem d10_0 : decode prog_44_method_5_code 0 = .ok (.aload_n 0, 1) := by decide +kernel
theorem d10_1 : decode prog_44_method_5_code 1 = .ok (.getfield 32, 3) := by decide +kernel
theorem d10_4 : decode prog_44_method_5_code 4 = .ok (.ireturn, 1) := by decide +kernel
theorem ef_rm10 (m : MethodId) (x0 : Addr)  : entryFrame m #[(.ref x0)] 1 = mkF m 0 #[.val (.ref x0)] [] := by first | (simp [entryFrame, mkF, argsToLocals, Value.category]; done) | rfl
def Q_rm10 (Z : State) (a__VALUES : Addr) (a_GROUP_1 : Addr) (a_GROUP_2 : Addr) (a_GROUP_3 : Addr) (a_EMPTY : Addr) (ka__VALUES : ClassId) (o : Addr) (z : Int32) (h0 : Heap) (n0 : Nat) (v : Option Value) (h : Heap) (L : List Loc) : Prop := v = some (.int z) ∧ Fr n0 L ∧ h = h0
set_option maxRecDepth 65536 in
set_option maxHeartbeats 40000000 in
theorem rm10 (l : Launch) (Z : State) (a0 : Array Value) (hw : ∀ d ∈ tables_1, d.before a0 Z = true) (ws : List Jvm.Cond) (a__VALUES : Addr) (a_GROUP_1 : Addr) (a_GROUP_2 : Addr) (a_GROUP_3 : Addr) (a_EMPTY : Addr) (ka__VALUES : ClassId) (HW : Wd Z a__VALUES a_GROUP_1 a_GROUP_2 a_GROUP_3 a_EMPTY ka__VALUES) (o : Addr) (z : Int32) (h0 : Heap) (n0 : Nat) (Ol : Old Z n0 h0) (HF_o_ManagementGroup_number : Fld Z Z.heap o "com/example/overcap/overcap/plans/ManagementGroup" "number" "I" (.int z)) :
    MetFree l (⟨"com/example/overcap/overcap/plans/ManagementGroup", "number", "()I"⟩ : MethodName) (head1 (Jvm.Cond.code (⟨"com/example/overcap/overcap/plans/ManagementGroup", "number", "()I"⟩ : MethodName) prog_44_method_5_code 1 (some .int) :: ws) ({ frames := 0, cells := 0, slots := 0, locals := 0 } : Room)) (fun a_ U_ => a_ = #[(.ref o)] ∧ Z.Warmed39 U_.vm ∧ U_.heap = h0) (fun _ _ _ _ _ => True) (fun _ U_ o_ V_ => ∃ v_ L_, o_ = .returned v_ ∧ Q_rm10 Z a__VALUES a_GROUP_1 a_GROUP_2 a_GROUP_3 a_EMPTY ka__VALUES o z h0 n0 v_ V_.heap L_ ∧ FrameEnd U_ o_ V_ L_ ({ frames := 0, cells := 0, slots := 0, locals := 0 } : Room).cells ({ frames := 0, cells := 0, slots := 0, locals := 0 } : Room).slots) := by
  refine MetFree.of_bodySF (plainFor_of_name pn_0) hisR ?_
  intro p e s m args below meth c s₁ Bd hml0 hP hK
  obtain ⟨rfl, hZ, hh⟩ := hP
  have hx := Bd.exec
  have hby := Bd.bytes
  have hml : c.maxLocals = 1 := hml0
  have hown : s.vm.findClass "com/example/overcap/overcap/plans/ManagementGroup" = some m.cls := findClass_of_methodNamed Bd.named
  have hnm := (name_of_methodNamed Bd.named Bd.method).1
  have X0 : Stand p l e ({ frames := 0, cells := 0, slots := 0, locals := 0 } : Room) s m #[(.ref o)] below meth c s₁ [] 0 0 := Stand.of_body Bd
  have e0 : s₁.heap = h0 := by rw [← hh, Bd.state]; rfl
  have N0 := Fr.nil n0
  have kp0 := Keep.refl h0 []
  show Go p e below (Fin1 s below (Q_rm10 Z a__VALUES a_GROUP_1 a_GROUP_2 a_GROUP_3 a_EMPTY ka__VALUES o z h0 n0) ({ frames := 0, cells := 0, slots := 0, locals := 0 } : Room).cells ({ frames := 0, cells := 0, slots := 0, locals := 0 } : Room).slots) _
  refine Go.step (fun t_ k_ => castTop (ef_rm10 m o) k_) ?_
  obtain ⟨Ea__VALUES, Sa__VALUES, Ea_GROUP_1, Sa_GROUP_1, Ea_GROUP_2, Sa_GROUP_2, Ea_GROUP_3, Sa_GROUP_3, Ea_EMPTY, Sa_EMPTY, Fa_GROUP_1_number, Fa_GROUP_2_number, Fa_GROUP_3_number, Fa_EMPTY_value, Aa__VALUES⟩ := id HW
  show Go p e below _ (s₁.setTop (mkF m 0 #[.val (.ref o)] []))
  refine Go.step (fun t_ k_ => XS.aloadN X0.here hx rfl (hb hby d10_0) rfl rfl k_) ?_
  show Go p e below _ (s₁.setTop (mkF m 1 #[.val (.ref o)] [(.ref o)]))
  obtain ⟨T1, X1, e1, st1⟩ := getF X0 hx hZ hown (host := "") (Or.inl (hw _ (List.mem_of_getElem? (i := 22) rfl))) Via.refl e0 (HF_o_ManagementGroup_number.ext Ol.2) (g := (mkF m 1 #[.val (.ref o)] [(.ref o)])) rfl rfl (hb hby d10_1)
  refine Go.step st1 ?_
  show Go p e below _ (T1.setTop (mkF m 4 #[.val (.ref o)] [(.int z)]))
  refine Go.retI X1 hx Bd.returns Bd.notSynchronized (hb hby d10_4) (by rw [e1]; exact ⟨rfl, N0, rfl⟩) (by decide) (by decide)
theorem d1_0 : decode prog_44_method_4_code 0 = .ok (.invokestatic 58, 3) := by decide +kernel
theorem pd_2 : parseMethodDescriptor "()[Lcom/example/overcap/overcap/plans/ManagementGroup;" = some ⟨[], some (.array (.object "com/example/overcap/overcap/plans/ManagementGroup"))⟩ := by decide +kernel
theorem d1_3 : decode prog_44_method_4_code 3 = .ok (.astore_n 1, 1) := by decide +kernel
theorem d1_4 : decode prog_44_method_4_code 4 = .ok (.aload_n 1, 1) := by decide +kernel
theorem d1_5 : decode prog_44_method_4_code 5 = .ok (.arraylength, 1) := by decide +kernel
theorem d1_6 : decode prog_44_method_4_code 6 = .ok (.istore_n 2, 1) := by decide +kernel
theorem d1_7 : decode prog_44_method_4_code 7 = .ok (.iconst 0, 1) := by decide +kernel
theorem d1_8 : decode prog_44_method_4_code 8 = .ok (.istore_n 3, 1) := by decide +kernel
theorem d1_9 : decode prog_44_method_4_code 9 = .ok (.iload_n 3, 1) := by decide +kernel
theorem d1_10 : decode prog_44_method_4_code 10 = .ok (.iload_n 2, 1) := by decide +kernel
theorem d1_11 : decode prog_44_method_4_code 11 = .ok (.if_icmp .ge 29, 3) := by decide +kernel
theorem d1_14 : decode prog_44_method_4_code 14 = .ok (.aload_n 1, 1) := by decide +kernel
theorem d1_15 : decode prog_44_method_4_code 15 = .ok (.iload_n 3, 1) := by decide +kernel
theorem d1_16 : decode prog_44_method_4_code 16 = .ok (.aaload, 1) := by decide +kernel
theorem d1_17 : decode prog_44_method_4_code 17 = .ok (.astore 4, 2) := by decide +kernel
theorem d1_19 : decode prog_44_method_4_code 19 = .ok (.aload 4, 2) := by decide +kernel
theorem d1_21 : decode prog_44_method_4_code 21 = .ok (.getfield 32, 3) := by decide +kernel
theorem d1_24 : decode prog_44_method_4_code 24 = .ok (.iload_n 0, 1) := by decide +kernel
theorem d1_25 : decode prog_44_method_4_code 25 = .ok (.if_icmp .ne 9, 3) := by decide +kernel
theorem d1_28 : decode prog_44_method_4_code 28 = .ok (.aload 4, 2) := by decide +kernel
theorem d1_30 : decode prog_44_method_4_code 30 = .ok (.invokestatic 62, 3) := by decide +kernel
theorem pd_3 : parseMethodDescriptor "(Ljava/lang/Object;)Ljava/util/Optional;" = some ⟨[(.object "java/lang/Object")], some (.object "java/util/Optional")⟩ := by decide +kernel
theorem d1_33 : decode prog_44_method_4_code 33 = .ok (.areturn, 1) := by decide +kernel
theorem ef_rm_num1 (m : MethodId) (x0 : Int32)  : entryFrame m #[(.int x0)] 5 = mkF m 0 #[.val (.int x0), .unset, .unset, .unset, .unset] [] := by first | (simp [entryFrame, mkF, argsToLocals, Value.category]; done) | rfl
def Q_rm_num1 (Z : State) (a__VALUES : Addr) (a_GROUP_1 : Addr) (a_GROUP_2 : Addr) (a_GROUP_3 : Addr) (a_EMPTY : Addr) (ka__VALUES : ClassId)  (h0 : Heap) (n0 : Nat) (v : Option Value) (h : Heap) (L : List Loc) : Prop := ∃ b : Addr, v = some (.ref b) ∧ h0.size ≤ b ∧ Fr n0 L ∧ Keep h0 h [] ∧ (Exa Z h b "java/util/Optional") ∧ (Fld Z h b "java/util/Optional" "value" "Ljava/lang/Object;" (.ref a_GROUP_1))
set_option maxRecDepth 65536 in
set_option maxHeartbeats 40000000 in
theorem rm_num1 (l : Launch) (Z : State) (a0 : Array Value) (hw : ∀ d ∈ tables_1, d.before a0 Z = true) (ws : List Jvm.Cond) (a__VALUES : Addr) (a_GROUP_1 : Addr) (a_GROUP_2 : Addr) (a_GROUP_3 : Addr) (a_EMPTY : Addr) (ka__VALUES : ClassId) (HW : Wd Z a__VALUES a_GROUP_1 a_GROUP_2 a_GROUP_3 a_EMPTY ka__VALUES)  (h0 : Heap) (n0 : Nat) (Ol : Old Z n0 h0)  :
    MetFree l (⟨"com/example/overcap/overcap/plans/ManagementGroup", "numbered", "(I)Ljava/util/Optional;"⟩ : MethodName) (head1 (Jvm.Cond.code (⟨"com/example/overcap/overcap/plans/ManagementGroup", "numbered", "(I)Ljava/util/Optional;"⟩ : MethodName) prog_44_method_4_code 5 (some (.object "java/util/Optional")) :: ws) ({ frames := 3, cells := 2, slots := 4, locals := 38 } : Room)) (fun a_ U_ => a_ = #[(.int (1 : Int32))] ∧ Z.Warmed39 U_.vm ∧ U_.heap = h0) (fun _ _ _ _ _ => True) (fun _ U_ o_ V_ => ∃ v_ L_, o_ = .returned v_ ∧ Q_rm_num1 Z a__VALUES a_GROUP_1 a_GROUP_2 a_GROUP_3 a_EMPTY ka__VALUES  h0 n0 v_ V_.heap L_ ∧ FrameEnd U_ o_ V_ L_ ({ frames := 3, cells := 2, slots := 4, locals := 38 } : Room).cells ({ frames := 3, cells := 2, slots := 4, locals := 38 } : Room).slots) := by
  refine MetFree.of_bodySF (plainFor_of_name pn_0) hisR ?_
  intro p e s m args below meth c s₁ Bd hml0 hP hK
  obtain ⟨rfl, hZ, hh⟩ := hP
  have hx := Bd.exec
  have hby := Bd.bytes
  have hml : c.maxLocals = 5 := hml0
  have hown : s.vm.findClass "com/example/overcap/overcap/plans/ManagementGroup" = some m.cls := findClass_of_methodNamed Bd.named
  have hnm := (name_of_methodNamed Bd.named Bd.method).1
  have X0 : Stand p l e ({ frames := 3, cells := 2, slots := 4, locals := 38 } : Room) s m #[(.int (1 : Int32))] below meth c s₁ [] 0 0 := Stand.of_body Bd
  have e0 : s₁.heap = h0 := by rw [← hh, Bd.state]; rfl
  have N0 := Fr.nil n0
  have kp0 := Keep.refl h0 []
  show Go p e below (Fin1 s below (Q_rm_num1 Z a__VALUES a_GROUP_1 a_GROUP_2 a_GROUP_3 a_EMPTY ka__VALUES  h0 n0) ({ frames := 3, cells := 2, slots := 4, locals := 38 } : Room).cells ({ frames := 3, cells := 2, slots := 4, locals := 38 } : Room).slots) _
  refine Go.step (fun t_ k_ => castTop (ef_rm_num1 m (1 : Int32)) k_) ?_
  obtain ⟨Ea__VALUES, Sa__VALUES, Ea_GROUP_1, Sa_GROUP_1, Ea_GROUP_2, Sa_GROUP_2, Ea_GROUP_3, Sa_GROUP_3, Ea_EMPTY, Sa_EMPTY, Fa_GROUP_1_number, Fa_GROUP_2_number, Fa_GROUP_3_number, Fa_EMPTY_value, Aa__VALUES⟩ := id HW
  show Go p e below _ (s₁.setTop (mkF m 0 #[.val (.int (1 : Int32)), .unset, .unset, .unset, .unset] []))
  obtain ⟨_, _, ⟨T1, L1, k1, n1⟩, -, X1, ⟨Lc1, hQ1, l1, y1, z1⟩, st1⟩ := Jvm.LawKit.callS X0 hx (y := (⟨"com/example/overcap/overcap/plans/ManagementGroup", "values", "()[Lcom/example/overcap/overcap/plans/ManagementGroup;"⟩ : MethodName)) hown (mvT hZ (hw _ (List.mem_of_getElem? (i := 4) rfl))) (mvT hZ (hw _ (List.mem_of_getElem? (i := 5) rfl))) (mvT hZ (hw _ (List.mem_of_getElem? (i := 2) rfl))) (mvT hZ (hw _ (List.mem_of_getElem? (i := 6) rfl))) (by decide) (backOf (W := 0) (rm2 l Z a0 hw [] a__VALUES a_GROUP_1 a_GROUP_2 a_GROUP_3 a_EMPTY ka__VALUES HW  h0 n0 Ol ) hZ (hw _ (List.mem_of_getElem? (i := 6) rfl)) (hw _ (List.mem_of_getElem? (i := 2) rfl)) (by decide) (by decide)) (g := (mkF m 0 #[.val (.int (1 : Int32)), .unset, .unset, .unset, .unset] [])) rfl (by rw [hml]; rfl) (argsL := []) (rest := []) (lenOf pd_2 rfl) rfl (by show 2 * 0 + _ ≤ _; exact Nat.le_of_eq rfl) (hb hby d1_0) (fun _ _ => ⟨rfl, e0, (by decide : 0 + 1 ≤ _), (by decide : 0 + 3 ≤ _)⟩)
  dsimp only [Pt.U, Pt.locs, Pt.cells, Pt.slots] at X1 l1 y1 z1 st1 hQ1
  subst l1 y1 z1
  obtain ⟨b1, rfl, gb_b1, Nq1, K1, p1_0, p1_1⟩ := hQ1
  have nn_b1 : n0 ≤ b1 := Nat.le_trans (old_z0 Ol) gb_b1
  have sz_b1 : h0.size ≤ b1 := Nat.le_trans kp0.1 gb_b1
  have old1 := Ol.keep K1 all0
  have kp1 := kp0.trans K1 all0
  have N1 := Fr.app N0 Nq1
  refine Go.step st1 ?_
  show Go p e below _ (T1.setTop (mkF m 3 #[.val (.int (1 : Int32)), .unset, .unset, .unset, .unset] [(.ref b1)]))
  refine Go.step (fun t_ k_ => XS.astoreN X1.here hx rfl (hb hby d1_3) rfl rfl (l' := #[.val (.int (1 : Int32)), .val (.ref b1), .unset, .unset, .unset]) rfl k_) ?_
  show Go p e below _ (T1.setTop (mkF m 4 #[.val (.int (1 : Int32)), .val (.ref b1), .unset, .unset, .unset] []))
  refine Go.step (fun t_ k_ => XS.aloadN X1.here hx rfl (hb hby d1_4) rfl rfl k_) ?_
  show Go p e below _ (T1.setTop (mkF m 5 #[.val (.int (1 : Int32)), .val (.ref b1), .unset, .unset, .unset] [(.ref b1)]))
  obtain ⟨cl2, Ar2, -, Sz2, Ng2, -, -⟩ := id p1_1
  refine Go.step (fun t_ k_ => X1.arraylength hx (by exact Ar2.1) (State.isArrayOf_alike hZ.alike Ar2.2.1) (g := (mkF m 5 #[.val (.int (1 : Int32)), .val (.ref b1), .unset, .unset, .unset] [(.ref b1)])) rfl rfl (hb hby d1_5) _ k_) ?_
  rw [len_of Sz2 Ng2]
  show Go p e below _ (T1.setTop (mkF m 6 #[.val (.int (1 : Int32)), .val (.ref b1), .unset, .unset, .unset] [(.int (3 : Int32))]))
  refine Go.step (fun t_ k_ => XS.istoreN X1.here hx rfl (hb hby d1_6) rfl (l' := #[.val (.int (1 : Int32)), .val (.ref b1), .val (.int (3 : Int32)), .unset, .unset]) rfl k_) ?_
  show Go p e below _ (T1.setTop (mkF m 7 #[.val (.int (1 : Int32)), .val (.ref b1), .val (.int (3 : Int32)), .unset, .unset] []))
  refine Go.step (fun t_ k_ => XS.iconst X1.here hx rfl (hb hby d1_7) k_) ?_
  show Go p e below _ (T1.setTop (mkF m 8 #[.val (.int (1 : Int32)), .val (.ref b1), .val (.int (3 : Int32)), .unset, .unset] [(.int (0 : Int32))]))
  refine Go.step (fun t_ k_ => XS.istoreN X1.here hx rfl (hb hby d1_8) rfl (l' := #[.val (.int (1 : Int32)), .val (.ref b1), .val (.int (3 : Int32)), .val (.int (0 : Int32)), .unset]) rfl k_) ?_
  show Go p e below _ (T1.setTop (mkF m 9 #[.val (.int (1 : Int32)), .val (.ref b1), .val (.int (3 : Int32)), .val (.int (0 : Int32)), .unset] []))
  refine Go.step (fun t_ k_ => XS.iloadN X1.here hx rfl (hb hby d1_9) rfl k_) ?_
  show Go p e below _ (T1.setTop (mkF m 10 #[.val (.int (1 : Int32)), .val (.ref b1), .val (.int (3 : Int32)), .val (.int (0 : Int32)), .unset] [(.int (0 : Int32))]))
  refine Go.step (fun t_ k_ => XS.iloadN X1.here hx rfl (hb hby d1_10) rfl k_) ?_
  show Go p e below _ (T1.setTop (mkF m 11 #[.val (.int (1 : Int32)), .val (.ref b1), .val (.int (3 : Int32)), .val (.int (0 : Int32)), .unset] [(.int (3 : Int32)), (.int (0 : Int32))]))
  have hc11 : (0 : Int32) < (3 : Int32) := by decide
  refine Go.step (fun t_ k_ => XS.icmpNo X1.here hx rfl (hb hby d1_11) rfl (tlt hc11).2.1 k_) ?_
  show Go p e below _ (T1.setTop (mkF m 14 #[.val (.int (1 : Int32)), .val (.ref b1), .val (.int (3 : Int32)), .val (.int (0 : Int32)), .unset] []))
  refine Go.step (fun t_ k_ => XS.aloadN X1.here hx rfl (hb hby d1_14) rfl rfl k_) ?_
  show Go p e below _ (T1.setTop (mkF m 15 #[.val (.int (1 : Int32)), .val (.ref b1), .val (.int (3 : Int32)), .val (.int (0 : Int32)), .unset] [(.ref b1)]))
  refine Go.step (fun t_ k_ => XS.iloadN X1.here hx rfl (hb hby d1_15) rfl k_) ?_
  show Go p e below _ (T1.setTop (mkF m 16 #[.val (.int (1 : Int32)), .val (.ref b1), .val (.int (3 : Int32)), .val (.int (0 : Int32)), .unset] [(.int (0 : Int32)), (.ref b1)]))
  obtain ⟨cl3, Ar3, q3, Sz3, Ng3, Hs3, G3⟩ := id p1_1
  have hin3 : ¬ ((0 : Int32) < 0 ∨ cl3.slots.size ≤ ((0 : Int32)).toNatClampNeg) := inb_of Sz3 ⟨by decide, by decide⟩
  have hat3 : cl3.slots[((0 : Int32)).toNatClampNeg]? = some (.ref a_GROUP_1) := Has.at Hs3 hin3 rfl
  refine Go.step (fun t_ k_ => X1.aaload hx (j := (0 : Int32)) (v := (.ref a_GROUP_1)) (by exact Ar3.1) (State.isArrayOf_alike hZ.alike Ar3.2.1) rfl Ar3.2.2 hin3 hat3 (g := (mkF m 16 #[.val (.int (1 : Int32)), .val (.ref b1), .val (.int (3 : Int32)), .val (.int (0 : Int32)), .unset] [(.int (0 : Int32)), (.ref b1)])) rfl rfl (hb hby d1_16) _ k_) ?_
  show Go p e below _ (T1.setTop (mkF m 17 #[.val (.int (1 : Int32)), .val (.ref b1), .val (.int (3 : Int32)), .val (.int (0 : Int32)), .unset] [(.ref a_GROUP_1)]))
  refine Go.step (fun t_ k_ => XS.astore X1.here hx rfl (hb hby d1_17) rfl rfl (l' := #[.val (.int (1 : Int32)), .val (.ref b1), .val (.int (3 : Int32)), .val (.int (0 : Int32)), .val (.ref a_GROUP_1)]) rfl k_) ?_
  show Go p e below _ (T1.setTop (mkF m 19 #[.val (.int (1 : Int32)), .val (.ref b1), .val (.int (3 : Int32)), .val (.int (0 : Int32)), .val (.ref a_GROUP_1)] []))
  refine Go.step (fun t_ k_ => XS.aload X1.here hx rfl (hb hby d1_19) rfl rfl k_) ?_
  show Go p e below _ (T1.setTop (mkF m 21 #[.val (.int (1 : Int32)), .val (.ref b1), .val (.int (3 : Int32)), .val (.int (0 : Int32)), .val (.ref a_GROUP_1)] [(.ref a_GROUP_1)]))
  obtain ⟨T4, X4, e4, st4⟩ := getF X1 hx hZ hown (host := "") (Or.inl (hw _ (List.mem_of_getElem? (i := 22) rfl))) Via.refl rfl (Fa_GROUP_1_number.ext old1.2) (g := (mkF m 21 #[.val (.int (1 : Int32)), .val (.ref b1), .val (.int (3 : Int32)), .val (.int (0 : Int32)), .val (.ref a_GROUP_1)] [(.ref a_GROUP_1)])) rfl rfl (hb hby d1_21)
  refine Go.step st4 ?_
  show Go p e below _ (T4.setTop (mkF m 24 #[.val (.int (1 : Int32)), .val (.ref b1), .val (.int (3 : Int32)), .val (.int (0 : Int32)), .val (.ref a_GROUP_1)] [(.int (1 : Int32))]))
  refine Go.step (fun t_ k_ => XS.iloadN X4.here hx rfl (hb hby d1_24) rfl k_) ?_
  show Go p e below _ (T4.setTop (mkF m 25 #[.val (.int (1 : Int32)), .val (.ref b1), .val (.int (3 : Int32)), .val (.int (0 : Int32)), .val (.ref a_GROUP_1)] [(.int (1 : Int32)), (.int (1 : Int32))]))
  have hc25 : (1 : Int32) = (1 : Int32) := by decide
  refine Go.step (fun t_ k_ => XS.icmpNo X4.here hx rfl (hb hby d1_25) rfl (teq hc25).2 k_) ?_
  show Go p e below _ (T4.setTop (mkF m 28 #[.val (.int (1 : Int32)), .val (.ref b1), .val (.int (3 : Int32)), .val (.int (0 : Int32)), .val (.ref a_GROUP_1)] []))
  refine Go.step (fun t_ k_ => XS.aload X4.here hx rfl (hb hby d1_28) rfl rfl k_) ?_
  show Go p e below _ (T4.setTop (mkF m 30 #[.val (.int (1 : Int32)), .val (.ref b1), .val (.int (3 : Int32)), .val (.int (0 : Int32)), .val (.ref a_GROUP_1)] [(.ref a_GROUP_1)]))
  obtain ⟨_, _, ⟨T5, L5, k5, n5⟩, -, X5, ⟨Lc5, hQ5, l5, y5, z5⟩, st5⟩ := Jvm.LawKit.callS X4 hx (y := (⟨"java/util/Optional", "of", "(Ljava/lang/Object;)Ljava/util/Optional;"⟩ : MethodName)) hown (mvT hZ (hw _ (List.mem_of_getElem? (i := 40) rfl))) (mvT hZ (hw _ (List.mem_of_getElem? (i := 41) rfl))) (mvT hZ (hw _ (List.mem_of_getElem? (i := 26) rfl))) (mvT hZ (hw _ (List.mem_of_getElem? (i := 42) rfl))) (by decide) (backOf (W := 0) (rm6 l Z a0 hw [] a__VALUES a_GROUP_1 a_GROUP_2 a_GROUP_3 a_EMPTY ka__VALUES HW a_GROUP_1 T1.heap n0 old1 ) hZ (hw _ (List.mem_of_getElem? (i := 42) rfl)) (hw _ (List.mem_of_getElem? (i := 26) rfl)) (by decide) (by decide)) (g := (mkF m 30 #[.val (.int (1 : Int32)), .val (.ref b1), .val (.int (3 : Int32)), .val (.int (0 : Int32)), .val (.ref a_GROUP_1)] [(.ref a_GROUP_1)])) rfl (by rw [hml]; rfl) (argsL := [(.ref a_GROUP_1)]) (rest := []) (lenOf pd_3 rfl) rfl (by show 2 * 0 + _ ≤ _; exact Nat.le_of_eq rfl) (hb hby d1_30) (fun _ _ => ⟨rfl, e4, (by decide : 1 + 1 ≤ _), (by decide : 3 + 1 ≤ _)⟩)
  dsimp only [Pt.U, Pt.locs, Pt.cells, Pt.slots] at X5 l5 y5 z5 st5 hQ5
  subst l5 y5 z5
  obtain ⟨b5, rfl, gb_b5, Nq5, K5, p5_0, p5_1⟩ := hQ5
  have nn_b5 : n0 ≤ b5 := Nat.le_trans (old_z0 old1) gb_b5
  have sz_b5 : h0.size ≤ b5 := Nat.le_trans kp1.1 gb_b5
  have ne_b1_b5 : b1 ≠ b5 := Nat.ne_of_lt (Nat.lt_of_lt_of_le p1_0.lt gb_b5)
  have old5 := old1.keep K5 all0
  have kp5 := kp1.trans K5 all0
  have N5 := Fr.app N1 Nq5
  refine Go.step st5 ?_
  show Go p e below _ (T5.setTop (mkF m 33 #[.val (.int (1 : Int32)), .val (.ref b1), .val (.int (3 : Int32)), .val (.int (0 : Int32)), .val (.ref a_GROUP_1)] [(.ref b5)]))
  refine Go.retR X5 hx Bd.returns rfl rfl Bd.notSynchronized (hb hby d1_33) (by exact ⟨b5, rfl, sz_b5, N5, kp5, p5_0, p5_1⟩) (by decide) (by decide)
theorem d1_34 : decode prog_44_method_4_code 34 = .ok (.iinc 3 1, 3) := by decide +kernel
theorem d1_37 : decode prog_44_method_4_code 37 = .ok (.goto (-28), 3) := by decide +kernel
theorem ef_rm_num2 (m : MethodId) (x0 : Int32)  : entryFrame m #[(.int x0)] 5 = mkF m 0 #[.val (.int x0), .unset, .unset, .unset, .unset] [] := by first | (simp [entryFrame, mkF, argsToLocals, Value.category]; done) | rfl
def Q_rm_num2 (Z : State) (a__VALUES : Addr) (a_GROUP_1 : Addr) (a_GROUP_2 : Addr) (a_GROUP_3 : Addr) (a_EMPTY : Addr) (ka__VALUES : ClassId)  (h0 : Heap) (n0 : Nat) (v : Option Value) (h : Heap) (L : List Loc) : Prop := ∃ b : Addr, v = some (.ref b) ∧ h0.size ≤ b ∧ Fr n0 L ∧ Keep h0 h [] ∧ (Exa Z h b "java/util/Optional") ∧ (Fld Z h b "java/util/Optional" "value" "Ljava/lang/Object;" (.ref a_GROUP_2))
set_option maxRecDepth 65536 in
set_option maxHeartbeats 40000000 in
theorem rm_num2 (l : Launch) (Z : State) (a0 : Array Value) (hw : ∀ d ∈ tables_1, d.before a0 Z = true) (ws : List Jvm.Cond) (a__VALUES : Addr) (a_GROUP_1 : Addr) (a_GROUP_2 : Addr) (a_GROUP_3 : Addr) (a_EMPTY : Addr) (ka__VALUES : ClassId) (HW : Wd Z a__VALUES a_GROUP_1 a_GROUP_2 a_GROUP_3 a_EMPTY ka__VALUES)  (h0 : Heap) (n0 : Nat) (Ol : Old Z n0 h0)  :
    MetFree l (⟨"com/example/overcap/overcap/plans/ManagementGroup", "numbered", "(I)Ljava/util/Optional;"⟩ : MethodName) (head1 (Jvm.Cond.code (⟨"com/example/overcap/overcap/plans/ManagementGroup", "numbered", "(I)Ljava/util/Optional;"⟩ : MethodName) prog_44_method_4_code 5 (some (.object "java/util/Optional")) :: ws) ({ frames := 3, cells := 2, slots := 4, locals := 38 } : Room)) (fun a_ U_ => a_ = #[(.int (2 : Int32))] ∧ Z.Warmed39 U_.vm ∧ U_.heap = h0) (fun _ _ _ _ _ => True) (fun _ U_ o_ V_ => ∃ v_ L_, o_ = .returned v_ ∧ Q_rm_num2 Z a__VALUES a_GROUP_1 a_GROUP_2 a_GROUP_3 a_EMPTY ka__VALUES  h0 n0 v_ V_.heap L_ ∧ FrameEnd U_ o_ V_ L_ ({ frames := 3, cells := 2, slots := 4, locals := 38 } : Room).cells ({ frames := 3, cells := 2, slots := 4, locals := 38 } : Room).slots) := by
  refine MetFree.of_bodySF (plainFor_of_name pn_0) hisR ?_
  intro p e s m args below meth c s₁ Bd hml0 hP hK
  obtain ⟨rfl, hZ, hh⟩ := hP
  have hx := Bd.exec
  have hby := Bd.bytes
  have hml : c.maxLocals = 5 := hml0
  have hown : s.vm.findClass "com/example/overcap/overcap/plans/ManagementGroup" = some m.cls := findClass_of_methodNamed Bd.named
  have hnm := (name_of_methodNamed Bd.named Bd.method).1
  have X0 : Stand p l e ({ frames := 3, cells := 2, slots := 4, locals := 38 } : Room) s m #[(.int (2 : Int32))] below meth c s₁ [] 0 0 := Stand.of_body Bd
  have e0 : s₁.heap = h0 := by rw [← hh, Bd.state]; rfl
  have N0 := Fr.nil n0
  have kp0 := Keep.refl h0 []
  show Go p e below (Fin1 s below (Q_rm_num2 Z a__VALUES a_GROUP_1 a_GROUP_2 a_GROUP_3 a_EMPTY ka__VALUES  h0 n0) ({ frames := 3, cells := 2, slots := 4, locals := 38 } : Room).cells ({ frames := 3, cells := 2, slots := 4, locals := 38 } : Room).slots) _
  refine Go.step (fun t_ k_ => castTop (ef_rm_num2 m (2 : Int32)) k_) ?_
  obtain ⟨Ea__VALUES, Sa__VALUES, Ea_GROUP_1, Sa_GROUP_1, Ea_GROUP_2, Sa_GROUP_2, Ea_GROUP_3, Sa_GROUP_3, Ea_EMPTY, Sa_EMPTY, Fa_GROUP_1_number, Fa_GROUP_2_number, Fa_GROUP_3_number, Fa_EMPTY_value, Aa__VALUES⟩ := id HW
  show Go p e below _ (s₁.setTop (mkF m 0 #[.val (.int (2 : Int32)), .unset, .unset, .unset, .unset] []))
  obtain ⟨_, _, ⟨T1, L1, k1, n1⟩, -, X1, ⟨Lc1, hQ1, l1, y1, z1⟩, st1⟩ := Jvm.LawKit.callS X0 hx (y := (⟨"com/example/overcap/overcap/plans/ManagementGroup", "values", "()[Lcom/example/overcap/overcap/plans/ManagementGroup;"⟩ : MethodName)) hown (mvT hZ (hw _ (List.mem_of_getElem? (i := 4) rfl))) (mvT hZ (hw _ (List.mem_of_getElem? (i := 5) rfl))) (mvT hZ (hw _ (List.mem_of_getElem? (i := 2) rfl))) (mvT hZ (hw _ (List.mem_of_getElem? (i := 6) rfl))) (by decide) (backOf (W := 0) (rm2 l Z a0 hw [] a__VALUES a_GROUP_1 a_GROUP_2 a_GROUP_3 a_EMPTY ka__VALUES HW  h0 n0 Ol ) hZ (hw _ (List.mem_of_getElem? (i := 6) rfl)) (hw _ (List.mem_of_getElem? (i := 2) rfl)) (by decide) (by decide)) (g := (mkF m 0 #[.val (.int (2 : Int32)), .unset, .unset, .unset, .unset] [])) rfl (by rw [hml]; rfl) (argsL := []) (rest := []) (lenOf pd_2 rfl) rfl (by show 2 * 0 + _ ≤ _; exact Nat.le_of_eq rfl) (hb hby d1_0) (fun _ _ => ⟨rfl, e0, (by decide : 0 + 1 ≤ _), (by decide : 0 + 3 ≤ _)⟩)
  dsimp only [Pt.U, Pt.locs, Pt.cells, Pt.slots] at X1 l1 y1 z1 st1 hQ1
  subst l1 y1 z1
  obtain ⟨b1, rfl, gb_b1, Nq1, K1, p1_0, p1_1⟩ := hQ1
  have nn_b1 : n0 ≤ b1 := Nat.le_trans (old_z0 Ol) gb_b1
  have sz_b1 : h0.size ≤ b1 := Nat.le_trans kp0.1 gb_b1
  have old1 := Ol.keep K1 all0
  have kp1 := kp0.trans K1 all0
  have N1 := Fr.app N0 Nq1
  refine Go.step st1 ?_
  show Go p e below _ (T1.setTop (mkF m 3 #[.val (.int (2 : Int32)), .unset, .unset, .unset, .unset] [(.ref b1)]))
  refine Go.step (fun t_ k_ => XS.astoreN X1.here hx rfl (hb hby d1_3) rfl rfl (l' := #[.val (.int (2 : Int32)), .val (.ref b1), .unset, .unset, .unset]) rfl k_) ?_
  show Go p e below _ (T1.setTop (mkF m 4 #[.val (.int (2 : Int32)), .val (.ref b1), .unset, .unset, .unset] []))
  refine Go.step (fun t_ k_ => XS.aloadN X1.here hx rfl (hb hby d1_4) rfl rfl k_) ?_
  show Go p e below _ (T1.setTop (mkF m 5 #[.val (.int (2 : Int32)), .val (.ref b1), .unset, .unset, .unset] [(.ref b1)]))
  obtain ⟨cl2, Ar2, -, Sz2, Ng2, -, -⟩ := id p1_1
  refine Go.step (fun t_ k_ => X1.arraylength hx (by exact Ar2.1) (State.isArrayOf_alike hZ.alike Ar2.2.1) (g := (mkF m 5 #[.val (.int (2 : Int32)), .val (.ref b1), .unset, .unset, .unset] [(.ref b1)])) rfl rfl (hb hby d1_5) _ k_) ?_
  rw [len_of Sz2 Ng2]
  show Go p e below _ (T1.setTop (mkF m 6 #[.val (.int (2 : Int32)), .val (.ref b1), .unset, .unset, .unset] [(.int (3 : Int32))]))
  refine Go.step (fun t_ k_ => XS.istoreN X1.here hx rfl (hb hby d1_6) rfl (l' := #[.val (.int (2 : Int32)), .val (.ref b1), .val (.int (3 : Int32)), .unset, .unset]) rfl k_) ?_
  show Go p e below _ (T1.setTop (mkF m 7 #[.val (.int (2 : Int32)), .val (.ref b1), .val (.int (3 : Int32)), .unset, .unset] []))
  refine Go.step (fun t_ k_ => XS.iconst X1.here hx rfl (hb hby d1_7) k_) ?_
  show Go p e below _ (T1.setTop (mkF m 8 #[.val (.int (2 : Int32)), .val (.ref b1), .val (.int (3 : Int32)), .unset, .unset] [(.int (0 : Int32))]))
  refine Go.step (fun t_ k_ => XS.istoreN X1.here hx rfl (hb hby d1_8) rfl (l' := #[.val (.int (2 : Int32)), .val (.ref b1), .val (.int (3 : Int32)), .val (.int (0 : Int32)), .unset]) rfl k_) ?_
  show Go p e below _ (T1.setTop (mkF m 9 #[.val (.int (2 : Int32)), .val (.ref b1), .val (.int (3 : Int32)), .val (.int (0 : Int32)), .unset] []))
  refine Go.step (fun t_ k_ => XS.iloadN X1.here hx rfl (hb hby d1_9) rfl k_) ?_
  show Go p e below _ (T1.setTop (mkF m 10 #[.val (.int (2 : Int32)), .val (.ref b1), .val (.int (3 : Int32)), .val (.int (0 : Int32)), .unset] [(.int (0 : Int32))]))
  refine Go.step (fun t_ k_ => XS.iloadN X1.here hx rfl (hb hby d1_10) rfl k_) ?_
  show Go p e below _ (T1.setTop (mkF m 11 #[.val (.int (2 : Int32)), .val (.ref b1), .val (.int (3 : Int32)), .val (.int (0 : Int32)), .unset] [(.int (3 : Int32)), (.int (0 : Int32))]))
  have hc11 : (0 : Int32) < (3 : Int32) := by decide
  refine Go.step (fun t_ k_ => XS.icmpNo X1.here hx rfl (hb hby d1_11) rfl (tlt hc11).2.1 k_) ?_
  show Go p e below _ (T1.setTop (mkF m 14 #[.val (.int (2 : Int32)), .val (.ref b1), .val (.int (3 : Int32)), .val (.int (0 : Int32)), .unset] []))
  refine Go.step (fun t_ k_ => XS.aloadN X1.here hx rfl (hb hby d1_14) rfl rfl k_) ?_
  show Go p e below _ (T1.setTop (mkF m 15 #[.val (.int (2 : Int32)), .val (.ref b1), .val (.int (3 : Int32)), .val (.int (0 : Int32)), .unset] [(.ref b1)]))
  refine Go.step (fun t_ k_ => XS.iloadN X1.here hx rfl (hb hby d1_15) rfl k_) ?_
  show Go p e below _ (T1.setTop (mkF m 16 #[.val (.int (2 : Int32)), .val (.ref b1), .val (.int (3 : Int32)), .val (.int (0 : Int32)), .unset] [(.int (0 : Int32)), (.ref b1)]))
  obtain ⟨cl3, Ar3, q3, Sz3, Ng3, Hs3, G3⟩ := id p1_1
  have hin3 : ¬ ((0 : Int32) < 0 ∨ cl3.slots.size ≤ ((0 : Int32)).toNatClampNeg) := inb_of Sz3 ⟨by decide, by decide⟩
  have hat3 : cl3.slots[((0 : Int32)).toNatClampNeg]? = some (.ref a_GROUP_1) := Has.at Hs3 hin3 rfl
  refine Go.step (fun t_ k_ => X1.aaload hx (j := (0 : Int32)) (v := (.ref a_GROUP_1)) (by exact Ar3.1) (State.isArrayOf_alike hZ.alike Ar3.2.1) rfl Ar3.2.2 hin3 hat3 (g := (mkF m 16 #[.val (.int (2 : Int32)), .val (.ref b1), .val (.int (3 : Int32)), .val (.int (0 : Int32)), .unset] [(.int (0 : Int32)), (.ref b1)])) rfl rfl (hb hby d1_16) _ k_) ?_
  show Go p e below _ (T1.setTop (mkF m 17 #[.val (.int (2 : Int32)), .val (.ref b1), .val (.int (3 : Int32)), .val (.int (0 : Int32)), .unset] [(.ref a_GROUP_1)]))
  refine Go.step (fun t_ k_ => XS.astore X1.here hx rfl (hb hby d1_17) rfl rfl (l' := #[.val (.int (2 : Int32)), .val (.ref b1), .val (.int (3 : Int32)), .val (.int (0 : Int32)), .val (.ref a_GROUP_1)]) rfl k_) ?_
  show Go p e below _ (T1.setTop (mkF m 19 #[.val (.int (2 : Int32)), .val (.ref b1), .val (.int (3 : Int32)), .val (.int (0 : Int32)), .val (.ref a_GROUP_1)] []))
  refine Go.step (fun t_ k_ => XS.aload X1.here hx rfl (hb hby d1_19) rfl rfl k_) ?_
  show Go p e below _ (T1.setTop (mkF m 21 #[.val (.int (2 : Int32)), .val (.ref b1), .val (.int (3 : Int32)), .val (.int (0 : Int32)), .val (.ref a_GROUP_1)] [(.ref a_GROUP_1)]))
  obtain ⟨T4, X4, e4, st4⟩ := getF X1 hx hZ hown (host := "") (Or.inl (hw _ (List.mem_of_getElem? (i := 22) rfl))) Via.refl rfl (Fa_GROUP_1_number.ext old1.2) (g := (mkF m 21 #[.val (.int (2 : Int32)), .val (.ref b1), .val (.int (3 : Int32)), .val (.int (0 : Int32)), .val (.ref a_GROUP_1)] [(.ref a_GROUP_1)])) rfl rfl (hb hby d1_21)
  refine Go.step st4 ?_
  show Go p e below _ (T4.setTop (mkF m 24 #[.val (.int (2 : Int32)), .val (.ref b1), .val (.int (3 : Int32)), .val (.int (0 : Int32)), .val (.ref a_GROUP_1)] [(.int (1 : Int32))]))
  refine Go.step (fun t_ k_ => XS.iloadN X4.here hx rfl (hb hby d1_24) rfl k_) ?_
  show Go p e below _ (T4.setTop (mkF m 25 #[.val (.int (2 : Int32)), .val (.ref b1), .val (.int (3 : Int32)), .val (.int (0 : Int32)), .val (.ref a_GROUP_1)] [(.int (2 : Int32)), (.int (1 : Int32))]))
  have hc25 : ¬ ((1 : Int32) = (2 : Int32)) := by decide
  refine Go.step (fun t_ k_ => XS.icmpYes X4.here hx rfl (pc0 := 25) (pc' := 34) rfl (hb hby d1_25) rfl (feq hc25).2 (by decide) (by decide) k_) ?_
  show Go p e below _ (T4.setTop (mkF m 34 #[.val (.int (2 : Int32)), .val (.ref b1), .val (.int (3 : Int32)), .val (.int (0 : Int32)), .val (.ref a_GROUP_1)] []))
  refine Go.step (fun t_ k_ => XS.iinc X4.here hx rfl (hb hby d1_34) rfl (l' := #[.val (.int (2 : Int32)), .val (.ref b1), .val (.int (3 : Int32)), .val (.int ((0 : Int32) + (1 : Int32))), .val (.ref a_GROUP_1)]) rfl k_) ?_
  show Go p e below _ (T4.setTop (mkF m 37 #[.val (.int (2 : Int32)), .val (.ref b1), .val (.int (3 : Int32)), .val (.int ((0 : Int32) + (1 : Int32))), .val (.ref a_GROUP_1)] []))
  rw [show ((0 : Int32) + (1 : Int32)) = (1 : Int32) from by decide]
  show Go p e below _ (T4.setTop (mkF m 37 #[.val (.int (2 : Int32)), .val (.ref b1), .val (.int (3 : Int32)), .val (.int (1 : Int32)), .val (.ref a_GROUP_1)] []))
  refine Go.step (fun t_ k_ => XS.goto X4.here hx rfl (pc0 := 37) (pc' := 9) rfl (hb hby d1_37) (by decide) (by decide) k_) ?_
  show Go p e below _ (T4.setTop (mkF m 9 #[.val (.int (2 : Int32)), .val (.ref b1), .val (.int (3 : Int32)), .val (.int (1 : Int32)), .val (.ref a_GROUP_1)] []))
  refine Go.step (fun t_ k_ => XS.iloadN X4.here hx rfl (hb hby d1_9) rfl k_) ?_
  show Go p e below _ (T4.setTop (mkF m 10 #[.val (.int (2 : Int32)), .val (.ref b1), .val (.int (3 : Int32)), .val (.int (1 : Int32)), .val (.ref a_GROUP_1)] [(.int (1 : Int32))]))
  refine Go.step (fun t_ k_ => XS.iloadN X4.here hx rfl (hb hby d1_10) rfl k_) ?_
  show Go p e below _ (T4.setTop (mkF m 11 #[.val (.int (2 : Int32)), .val (.ref b1), .val (.int (3 : Int32)), .val (.int (1 : Int32)), .val (.ref a_GROUP_1)] [(.int (3 : Int32)), (.int (1 : Int32))]))
  have hc11_2 : (1 : Int32) < (3 : Int32) := by decide
  refine Go.step (fun t_ k_ => XS.icmpNo X4.here hx rfl (hb hby d1_11) rfl (tlt hc11_2).2.1 k_) ?_
  show Go p e below _ (T4.setTop (mkF m 14 #[.val (.int (2 : Int32)), .val (.ref b1), .val (.int (3 : Int32)), .val (.int (1 : Int32)), .val (.ref a_GROUP_1)] []))
  refine Go.step (fun t_ k_ => XS.aloadN X4.here hx rfl (hb hby d1_14) rfl rfl k_) ?_
  show Go p e below _ (T4.setTop (mkF m 15 #[.val (.int (2 : Int32)), .val (.ref b1), .val (.int (3 : Int32)), .val (.int (1 : Int32)), .val (.ref a_GROUP_1)] [(.ref b1)]))
  refine Go.step (fun t_ k_ => XS.iloadN X4.here hx rfl (hb hby d1_15) rfl k_) ?_
  show Go p e below _ (T4.setTop (mkF m 16 #[.val (.int (2 : Int32)), .val (.ref b1), .val (.int (3 : Int32)), .val (.int (1 : Int32)), .val (.ref a_GROUP_1)] [(.int (1 : Int32)), (.ref b1)]))
  obtain ⟨cl5, Ar5, q5, Sz5, Ng5, Hs5, G5⟩ := id p1_1
  have hin5 : ¬ ((1 : Int32) < 0 ∨ cl5.slots.size ≤ ((1 : Int32)).toNatClampNeg) := inb_of Sz5 ⟨by decide, by decide⟩
  have hat5 : cl5.slots[((1 : Int32)).toNatClampNeg]? = some (.ref a_GROUP_2) := Has.at Hs5 hin5 rfl
  refine Go.step (fun t_ k_ => X4.aaload hx (j := (1 : Int32)) (v := (.ref a_GROUP_2)) (by rw [e4]; exact Ar5.1) (State.isArrayOf_alike hZ.alike Ar5.2.1) rfl Ar5.2.2 hin5 hat5 (g := (mkF m 16 #[.val (.int (2 : Int32)), .val (.ref b1), .val (.int (3 : Int32)), .val (.int (1 : Int32)), .val (.ref a_GROUP_1)] [(.int (1 : Int32)), (.ref b1)])) rfl rfl (hb hby d1_16) _ k_) ?_
  show Go p e below _ (T4.setTop (mkF m 17 #[.val (.int (2 : Int32)), .val (.ref b1), .val (.int (3 : Int32)), .val (.int (1 : Int32)), .val (.ref a_GROUP_1)] [(.ref a_GROUP_2)]))
  refine Go.step (fun t_ k_ => XS.astore X4.here hx rfl (hb hby d1_17) rfl rfl (l' := #[.val (.int (2 : Int32)), .val (.ref b1), .val (.int (3 : Int32)), .val (.int (1 : Int32)), .val (.ref a_GROUP_2)]) rfl k_) ?_
  show Go p e below _ (T4.setTop (mkF m 19 #[.val (.int (2 : Int32)), .val (.ref b1), .val (.int (3 : Int32)), .val (.int (1 : Int32)), .val (.ref a_GROUP_2)] []))
  refine Go.step (fun t_ k_ => XS.aload X4.here hx rfl (hb hby d1_19) rfl rfl k_) ?_
  show Go p e below _ (T4.setTop (mkF m 21 #[.val (.int (2 : Int32)), .val (.ref b1), .val (.int (3 : Int32)), .val (.int (1 : Int32)), .val (.ref a_GROUP_2)] [(.ref a_GROUP_2)]))
  obtain ⟨T6, X6, e6, st6⟩ := getF X4 hx hZ hown (host := "") (Or.inl (hw _ (List.mem_of_getElem? (i := 22) rfl))) Via.refl e4 (Fa_GROUP_2_number.ext old1.2) (g := (mkF m 21 #[.val (.int (2 : Int32)), .val (.ref b1), .val (.int (3 : Int32)), .val (.int (1 : Int32)), .val (.ref a_GROUP_2)] [(.ref a_GROUP_2)])) rfl rfl (hb hby d1_21)
  refine Go.step st6 ?_
  show Go p e below _ (T6.setTop (mkF m 24 #[.val (.int (2 : Int32)), .val (.ref b1), .val (.int (3 : Int32)), .val (.int (1 : Int32)), .val (.ref a_GROUP_2)] [(.int (2 : Int32))]))
  refine Go.step (fun t_ k_ => XS.iloadN X6.here hx rfl (hb hby d1_24) rfl k_) ?_
  show Go p e below _ (T6.setTop (mkF m 25 #[.val (.int (2 : Int32)), .val (.ref b1), .val (.int (3 : Int32)), .val (.int (1 : Int32)), .val (.ref a_GROUP_2)] [(.int (2 : Int32)), (.int (2 : Int32))]))
  have hc25_2 : (2 : Int32) = (2 : Int32) := by decide
  refine Go.step (fun t_ k_ => XS.icmpNo X6.here hx rfl (hb hby d1_25) rfl (teq hc25_2).2 k_) ?_
  show Go p e below _ (T6.setTop (mkF m 28 #[.val (.int (2 : Int32)), .val (.ref b1), .val (.int (3 : Int32)), .val (.int (1 : Int32)), .val (.ref a_GROUP_2)] []))
  refine Go.step (fun t_ k_ => XS.aload X6.here hx rfl (hb hby d1_28) rfl rfl k_) ?_
  show Go p e below _ (T6.setTop (mkF m 30 #[.val (.int (2 : Int32)), .val (.ref b1), .val (.int (3 : Int32)), .val (.int (1 : Int32)), .val (.ref a_GROUP_2)] [(.ref a_GROUP_2)]))
  obtain ⟨_, _, ⟨T7, L7, k7, n7⟩, -, X7, ⟨Lc7, hQ7, l7, y7, z7⟩, st7⟩ := Jvm.LawKit.callS X6 hx (y := (⟨"java/util/Optional", "of", "(Ljava/lang/Object;)Ljava/util/Optional;"⟩ : MethodName)) hown (mvT hZ (hw _ (List.mem_of_getElem? (i := 40) rfl))) (mvT hZ (hw _ (List.mem_of_getElem? (i := 41) rfl))) (mvT hZ (hw _ (List.mem_of_getElem? (i := 26) rfl))) (mvT hZ (hw _ (List.mem_of_getElem? (i := 42) rfl))) (by decide) (backOf (W := 0) (rm6 l Z a0 hw [] a__VALUES a_GROUP_1 a_GROUP_2 a_GROUP_3 a_EMPTY ka__VALUES HW a_GROUP_2 T1.heap n0 old1 ) hZ (hw _ (List.mem_of_getElem? (i := 42) rfl)) (hw _ (List.mem_of_getElem? (i := 26) rfl)) (by decide) (by decide)) (g := (mkF m 30 #[.val (.int (2 : Int32)), .val (.ref b1), .val (.int (3 : Int32)), .val (.int (1 : Int32)), .val (.ref a_GROUP_2)] [(.ref a_GROUP_2)])) rfl (by rw [hml]; rfl) (argsL := [(.ref a_GROUP_2)]) (rest := []) (lenOf pd_3 rfl) rfl (by show 2 * 0 + _ ≤ _; exact Nat.le_of_eq rfl) (hb hby d1_30) (fun _ _ => ⟨rfl, e6, (by decide : 1 + 1 ≤ _), (by decide : 3 + 1 ≤ _)⟩)
  dsimp only [Pt.U, Pt.locs, Pt.cells, Pt.slots] at X7 l7 y7 z7 st7 hQ7
  subst l7 y7 z7
  obtain ⟨b7, rfl, gb_b7, Nq7, K7, p7_0, p7_1⟩ := hQ7
  have nn_b7 : n0 ≤ b7 := Nat.le_trans (old_z0 old1) gb_b7
  have sz_b7 : h0.size ≤ b7 := Nat.le_trans kp1.1 gb_b7
  have ne_b1_b7 : b1 ≠ b7 := Nat.ne_of_lt (Nat.lt_of_lt_of_le p1_0.lt gb_b7)
  have old7 := old1.keep K7 all0
  have kp7 := kp1.trans K7 all0
  have N7 := Fr.app N1 Nq7
  refine Go.step st7 ?_
  show Go p e below _ (T7.setTop (mkF m 33 #[.val (.int (2 : Int32)), .val (.ref b1), .val (.int (3 : Int32)), .val (.int (1 : Int32)), .val (.ref a_GROUP_2)] [(.ref b7)]))
  refine Go.retR X7 hx Bd.returns rfl rfl Bd.notSynchronized (hb hby d1_33) (by exact ⟨b7, rfl, sz_b7, N7, kp7, p7_0, p7_1⟩) (by decide) (by decide)
theorem ef_rm_num3 (m : MethodId) (x0 : Int32)  : entryFrame m #[(.int x0)] 5 = mkF m 0 #[.val (.int x0), .unset, .unset, .unset, .unset] [] := by first | (simp [entryFrame, mkF, argsToLocals, Value.category]; done) | rfl
def Q_rm_num3 (Z : State) (a__VALUES : Addr) (a_GROUP_1 : Addr) (a_GROUP_2 : Addr) (a_GROUP_3 : Addr) (a_EMPTY : Addr) (ka__VALUES : ClassId)  (h0 : Heap) (n0 : Nat) (v : Option Value) (h : Heap) (L : List Loc) : Prop := ∃ b : Addr, v = some (.ref b) ∧ h0.size ≤ b ∧ Fr n0 L ∧ Keep h0 h [] ∧ (Exa Z h b "java/util/Optional") ∧ (Fld Z h b "java/util/Optional" "value" "Ljava/lang/Object;" (.ref a_GROUP_3))
set_option maxRecDepth 65536 in
set_option maxHeartbeats 40000000 in
theorem rm_num3 (l : Launch) (Z : State) (a0 : Array Value) (hw : ∀ d ∈ tables_1, d.before a0 Z = true) (ws : List Jvm.Cond) (a__VALUES : Addr) (a_GROUP_1 : Addr) (a_GROUP_2 : Addr) (a_GROUP_3 : Addr) (a_EMPTY : Addr) (ka__VALUES : ClassId) (HW : Wd Z a__VALUES a_GROUP_1 a_GROUP_2 a_GROUP_3 a_EMPTY ka__VALUES)  (h0 : Heap) (n0 : Nat) (Ol : Old Z n0 h0)  :
    MetFree l (⟨"com/example/overcap/overcap/plans/ManagementGroup", "numbered", "(I)Ljava/util/Optional;"⟩ : MethodName) (head1 (Jvm.Cond.code (⟨"com/example/overcap/overcap/plans/ManagementGroup", "numbered", "(I)Ljava/util/Optional;"⟩ : MethodName) prog_44_method_4_code 5 (some (.object "java/util/Optional")) :: ws) ({ frames := 3, cells := 2, slots := 4, locals := 38 } : Room)) (fun a_ U_ => a_ = #[(.int (3 : Int32))] ∧ Z.Warmed39 U_.vm ∧ U_.heap = h0) (fun _ _ _ _ _ => True) (fun _ U_ o_ V_ => ∃ v_ L_, o_ = .returned v_ ∧ Q_rm_num3 Z a__VALUES a_GROUP_1 a_GROUP_2 a_GROUP_3 a_EMPTY ka__VALUES  h0 n0 v_ V_.heap L_ ∧ FrameEnd U_ o_ V_ L_ ({ frames := 3, cells := 2, slots := 4, locals := 38 } : Room).cells ({ frames := 3, cells := 2, slots := 4, locals := 38 } : Room).slots) := by
  refine MetFree.of_bodySF (plainFor_of_name pn_0) hisR ?_
  intro p e s m args below meth c s₁ Bd hml0 hP hK
  obtain ⟨rfl, hZ, hh⟩ := hP
  have hx := Bd.exec
  have hby := Bd.bytes
  have hml : c.maxLocals = 5 := hml0
  have hown : s.vm.findClass "com/example/overcap/overcap/plans/ManagementGroup" = some m.cls := findClass_of_methodNamed Bd.named
  have hnm := (name_of_methodNamed Bd.named Bd.method).1
  have X0 : Stand p l e ({ frames := 3, cells := 2, slots := 4, locals := 38 } : Room) s m #[(.int (3 : Int32))] below meth c s₁ [] 0 0 := Stand.of_body Bd
  have e0 : s₁.heap = h0 := by rw [← hh, Bd.state]; rfl
  have N0 := Fr.nil n0
  have kp0 := Keep.refl h0 []
  show Go p e below (Fin1 s below (Q_rm_num3 Z a__VALUES a_GROUP_1 a_GROUP_2 a_GROUP_3 a_EMPTY ka__VALUES  h0 n0) ({ frames := 3, cells := 2, slots := 4, locals := 38 } : Room).cells ({ frames := 3, cells := 2, slots := 4, locals := 38 } : Room).slots) _
  refine Go.step (fun t_ k_ => castTop (ef_rm_num3 m (3 : Int32)) k_) ?_
  obtain ⟨Ea__VALUES, Sa__VALUES, Ea_GROUP_1, Sa_GROUP_1, Ea_GROUP_2, Sa_GROUP_2, Ea_GROUP_3, Sa_GROUP_3, Ea_EMPTY, Sa_EMPTY, Fa_GROUP_1_number, Fa_GROUP_2_number, Fa_GROUP_3_number, Fa_EMPTY_value, Aa__VALUES⟩ := id HW
  show Go p e below _ (s₁.setTop (mkF m 0 #[.val (.int (3 : Int32)), .unset, .unset, .unset, .unset] []))
  obtain ⟨_, _, ⟨T1, L1, k1, n1⟩, -, X1, ⟨Lc1, hQ1, l1, y1, z1⟩, st1⟩ := Jvm.LawKit.callS X0 hx (y := (⟨"com/example/overcap/overcap/plans/ManagementGroup", "values", "()[Lcom/example/overcap/overcap/plans/ManagementGroup;"⟩ : MethodName)) hown (mvT hZ (hw _ (List.mem_of_getElem? (i := 4) rfl))) (mvT hZ (hw _ (List.mem_of_getElem? (i := 5) rfl))) (mvT hZ (hw _ (List.mem_of_getElem? (i := 2) rfl))) (mvT hZ (hw _ (List.mem_of_getElem? (i := 6) rfl))) (by decide) (backOf (W := 0) (rm2 l Z a0 hw [] a__VALUES a_GROUP_1 a_GROUP_2 a_GROUP_3 a_EMPTY ka__VALUES HW  h0 n0 Ol ) hZ (hw _ (List.mem_of_getElem? (i := 6) rfl)) (hw _ (List.mem_of_getElem? (i := 2) rfl)) (by decide) (by decide)) (g := (mkF m 0 #[.val (.int (3 : Int32)), .unset, .unset, .unset, .unset] [])) rfl (by rw [hml]; rfl) (argsL := []) (rest := []) (lenOf pd_2 rfl) rfl (by show 2 * 0 + _ ≤ _; exact Nat.le_of_eq rfl) (hb hby d1_0) (fun _ _ => ⟨rfl, e0, (by decide : 0 + 1 ≤ _), (by decide : 0 + 3 ≤ _)⟩)
  dsimp only [Pt.U, Pt.locs, Pt.cells, Pt.slots] at X1 l1 y1 z1 st1 hQ1
  subst l1 y1 z1
  obtain ⟨b1, rfl, gb_b1, Nq1, K1, p1_0, p1_1⟩ := hQ1
  have nn_b1 : n0 ≤ b1 := Nat.le_trans (old_z0 Ol) gb_b1
  have sz_b1 : h0.size ≤ b1 := Nat.le_trans kp0.1 gb_b1
  have old1 := Ol.keep K1 all0
  have kp1 := kp0.trans K1 all0
  have N1 := Fr.app N0 Nq1
  refine Go.step st1 ?_
  show Go p e below _ (T1.setTop (mkF m 3 #[.val (.int (3 : Int32)), .unset, .unset, .unset, .unset] [(.ref b1)]))
  refine Go.step (fun t_ k_ => XS.astoreN X1.here hx rfl (hb hby d1_3) rfl rfl (l' := #[.val (.int (3 : Int32)), .val (.ref b1), .unset, .unset, .unset]) rfl k_) ?_
  show Go p e below _ (T1.setTop (mkF m 4 #[.val (.int (3 : Int32)), .val (.ref b1), .unset, .unset, .unset] []))
  refine Go.step (fun t_ k_ => XS.aloadN X1.here hx rfl (hb hby d1_4) rfl rfl k_) ?_
  show Go p e below _ (T1.setTop (mkF m 5 #[.val (.int (3 : Int32)), .val (.ref b1), .unset, .unset, .unset] [(.ref b1)]))
  obtain ⟨cl2, Ar2, -, Sz2, Ng2, -, -⟩ := id p1_1
  refine Go.step (fun t_ k_ => X1.arraylength hx (by exact Ar2.1) (State.isArrayOf_alike hZ.alike Ar2.2.1) (g := (mkF m 5 #[.val (.int (3 : Int32)), .val (.ref b1), .unset, .unset, .unset] [(.ref b1)])) rfl rfl (hb hby d1_5) _ k_) ?_
  rw [len_of Sz2 Ng2]
  show Go p e below _ (T1.setTop (mkF m 6 #[.val (.int (3 : Int32)), .val (.ref b1), .unset, .unset, .unset] [(.int (3 : Int32))]))
  refine Go.step (fun t_ k_ => XS.istoreN X1.here hx rfl (hb hby d1_6) rfl (l' := #[.val (.int (3 : Int32)), .val (.ref b1), .val (.int (3 : Int32)), .unset, .unset]) rfl k_) ?_
  show Go p e below _ (T1.setTop (mkF m 7 #[.val (.int (3 : Int32)), .val (.ref b1), .val (.int (3 : Int32)), .unset, .unset] []))
  refine Go.step (fun t_ k_ => XS.iconst X1.here hx rfl (hb hby d1_7) k_) ?_
  show Go p e below _ (T1.setTop (mkF m 8 #[.val (.int (3 : Int32)), .val (.ref b1), .val (.int (3 : Int32)), .unset, .unset] [(.int (0 : Int32))]))
  refine Go.step (fun t_ k_ => XS.istoreN X1.here hx rfl (hb hby d1_8) rfl (l' := #[.val (.int (3 : Int32)), .val (.ref b1), .val (.int (3 : Int32)), .val (.int (0 : Int32)), .unset]) rfl k_) ?_
  show Go p e below _ (T1.setTop (mkF m 9 #[.val (.int (3 : Int32)), .val (.ref b1), .val (.int (3 : Int32)), .val (.int (0 : Int32)), .unset] []))
  refine Go.step (fun t_ k_ => XS.iloadN X1.here hx rfl (hb hby d1_9) rfl k_) ?_
  show Go p e below _ (T1.setTop (mkF m 10 #[.val (.int (3 : Int32)), .val (.ref b1), .val (.int (3 : Int32)), .val (.int (0 : Int32)), .unset] [(.int (0 : Int32))]))
  refine Go.step (fun t_ k_ => XS.iloadN X1.here hx rfl (hb hby d1_10) rfl k_) ?_
  show Go p e below _ (T1.setTop (mkF m 11 #[.val (.int (3 : Int32)), .val (.ref b1), .val (.int (3 : Int32)), .val (.int (0 : Int32)), .unset] [(.int (3 : Int32)), (.int (0 : Int32))]))
  have hc11 : (0 : Int32) < (3 : Int32) := by decide
  refine Go.step (fun t_ k_ => XS.icmpNo X1.here hx rfl (hb hby d1_11) rfl (tlt hc11).2.1 k_) ?_
  show Go p e below _ (T1.setTop (mkF m 14 #[.val (.int (3 : Int32)), .val (.ref b1), .val (.int (3 : Int32)), .val (.int (0 : Int32)), .unset] []))
  refine Go.step (fun t_ k_ => XS.aloadN X1.here hx rfl (hb hby d1_14) rfl rfl k_) ?_
  show Go p e below _ (T1.setTop (mkF m 15 #[.val (.int (3 : Int32)), .val (.ref b1), .val (.int (3 : Int32)), .val (.int (0 : Int32)), .unset] [(.ref b1)]))
  refine Go.step (fun t_ k_ => XS.iloadN X1.here hx rfl (hb hby d1_15) rfl k_) ?_
  show Go p e below _ (T1.setTop (mkF m 16 #[.val (.int (3 : Int32)), .val (.ref b1), .val (.int (3 : Int32)), .val (.int (0 : Int32)), .unset] [(.int (0 : Int32)), (.ref b1)]))
  obtain ⟨cl3, Ar3, q3, Sz3, Ng3, Hs3, G3⟩ := id p1_1
  have hin3 : ¬ ((0 : Int32) < 0 ∨ cl3.slots.size ≤ ((0 : Int32)).toNatClampNeg) := inb_of Sz3 ⟨by decide, by decide⟩
  have hat3 : cl3.slots[((0 : Int32)).toNatClampNeg]? = some (.ref a_GROUP_1) := Has.at Hs3 hin3 rfl
  refine Go.step (fun t_ k_ => X1.aaload hx (j := (0 : Int32)) (v := (.ref a_GROUP_1)) (by exact Ar3.1) (State.isArrayOf_alike hZ.alike Ar3.2.1) rfl Ar3.2.2 hin3 hat3 (g := (mkF m 16 #[.val (.int (3 : Int32)), .val (.ref b1), .val (.int (3 : Int32)), .val (.int (0 : Int32)), .unset] [(.int (0 : Int32)), (.ref b1)])) rfl rfl (hb hby d1_16) _ k_) ?_
  show Go p e below _ (T1.setTop (mkF m 17 #[.val (.int (3 : Int32)), .val (.ref b1), .val (.int (3 : Int32)), .val (.int (0 : Int32)), .unset] [(.ref a_GROUP_1)]))
  refine Go.step (fun t_ k_ => XS.astore X1.here hx rfl (hb hby d1_17) rfl rfl (l' := #[.val (.int (3 : Int32)), .val (.ref b1), .val (.int (3 : Int32)), .val (.int (0 : Int32)), .val (.ref a_GROUP_1)]) rfl k_) ?_
  show Go p e below _ (T1.setTop (mkF m 19 #[.val (.int (3 : Int32)), .val (.ref b1), .val (.int (3 : Int32)), .val (.int (0 : Int32)), .val (.ref a_GROUP_1)] []))
  refine Go.step (fun t_ k_ => XS.aload X1.here hx rfl (hb hby d1_19) rfl rfl k_) ?_
  show Go p e below _ (T1.setTop (mkF m 21 #[.val (.int (3 : Int32)), .val (.ref b1), .val (.int (3 : Int32)), .val (.int (0 : Int32)), .val (.ref a_GROUP_1)] [(.ref a_GROUP_1)]))
  obtain ⟨T4, X4, e4, st4⟩ := getF X1 hx hZ hown (host := "") (Or.inl (hw _ (List.mem_of_getElem? (i := 22) rfl))) Via.refl rfl (Fa_GROUP_1_number.ext old1.2) (g := (mkF m 21 #[.val (.int (3 : Int32)), .val (.ref b1), .val (.int (3 : Int32)), .val (.int (0 : Int32)), .val (.ref a_GROUP_1)] [(.ref a_GROUP_1)])) rfl rfl (hb hby d1_21)
  refine Go.step st4 ?_
  show Go p e below _ (T4.setTop (mkF m 24 #[.val (.int (3 : Int32)), .val (.ref b1), .val (.int (3 : Int32)), .val (.int (0 : Int32)), .val (.ref a_GROUP_1)] [(.int (1 : Int32))]))
  refine Go.step (fun t_ k_ => XS.iloadN X4.here hx rfl (hb hby d1_24) rfl k_) ?_
  show Go p e below _ (T4.setTop (mkF m 25 #[.val (.int (3 : Int32)), .val (.ref b1), .val (.int (3 : Int32)), .val (.int (0 : Int32)), .val (.ref a_GROUP_1)] [(.int (3 : Int32)), (.int (1 : Int32))]))
  have hc25 : ¬ ((1 : Int32) = (3 : Int32)) := by decide
  refine Go.step (fun t_ k_ => XS.icmpYes X4.here hx rfl (pc0 := 25) (pc' := 34) rfl (hb hby d1_25) rfl (feq hc25).2 (by decide) (by decide) k_) ?_
  show Go p e below _ (T4.setTop (mkF m 34 #[.val (.int (3 : Int32)), .val (.ref b1), .val (.int (3 : Int32)), .val (.int (0 : Int32)), .val (.ref a_GROUP_1)] []))
  refine Go.step (fun t_ k_ => XS.iinc X4.here hx rfl (hb hby d1_34) rfl (l' := #[.val (.int (3 : Int32)), .val (.ref b1), .val (.int (3 : Int32)), .val (.int ((0 : Int32) + (1 : Int32))), .val (.ref a_GROUP_1)]) rfl k_) ?_
  show Go p e below _ (T4.setTop (mkF m 37 #[.val (.int (3 : Int32)), .val (.ref b1), .val (.int (3 : Int32)), .val (.int ((0 : Int32) + (1 : Int32))), .val (.ref a_GROUP_1)] []))
  rw [show ((0 : Int32) + (1 : Int32)) = (1 : Int32) from by decide]
  show Go p e below _ (T4.setTop (mkF m 37 #[.val (.int (3 : Int32)), .val (.ref b1), .val (.int (3 : Int32)), .val (.int (1 : Int32)), .val (.ref a_GROUP_1)] []))
  refine Go.step (fun t_ k_ => XS.goto X4.here hx rfl (pc0 := 37) (pc' := 9) rfl (hb hby d1_37) (by decide) (by decide) k_) ?_
  show Go p e below _ (T4.setTop (mkF m 9 #[.val (.int (3 : Int32)), .val (.ref b1), .val (.int (3 : Int32)), .val (.int (1 : Int32)), .val (.ref a_GROUP_1)] []))
  refine Go.step (fun t_ k_ => XS.iloadN X4.here hx rfl (hb hby d1_9) rfl k_) ?_
  show Go p e below _ (T4.setTop (mkF m 10 #[.val (.int (3 : Int32)), .val (.ref b1), .val (.int (3 : Int32)), .val (.int (1 : Int32)), .val (.ref a_GROUP_1)] [(.int (1 : Int32))]))
  refine Go.step (fun t_ k_ => XS.iloadN X4.here hx rfl (hb hby d1_10) rfl k_) ?_
  show Go p e below _ (T4.setTop (mkF m 11 #[.val (.int (3 : Int32)), .val (.ref b1), .val (.int (3 : Int32)), .val (.int (1 : Int32)), .val (.ref a_GROUP_1)] [(.int (3 : Int32)), (.int (1 : Int32))]))
  have hc11_2 : (1 : Int32) < (3 : Int32) := by decide
  refine Go.step (fun t_ k_ => XS.icmpNo X4.here hx rfl (hb hby d1_11) rfl (tlt hc11_2).2.1 k_) ?_
  show Go p e below _ (T4.setTop (mkF m 14 #[.val (.int (3 : Int32)), .val (.ref b1), .val (.int (3 : Int32)), .val (.int (1 : Int32)), .val (.ref a_GROUP_1)] []))
  refine Go.step (fun t_ k_ => XS.aloadN X4.here hx rfl (hb hby d1_14) rfl rfl k_) ?_
  show Go p e below _ (T4.setTop (mkF m 15 #[.val (.int (3 : Int32)), .val (.ref b1), .val (.int (3 : Int32)), .val (.int (1 : Int32)), .val (.ref a_GROUP_1)] [(.ref b1)]))
  refine Go.step (fun t_ k_ => XS.iloadN X4.here hx rfl (hb hby d1_15) rfl k_) ?_
  show Go p e below _ (T4.setTop (mkF m 16 #[.val (.int (3 : Int32)), .val (.ref b1), .val (.int (3 : Int32)), .val (.int (1 : Int32)), .val (.ref a_GROUP_1)] [(.int (1 : Int32)), (.ref b1)]))
  obtain ⟨cl5, Ar5, q5, Sz5, Ng5, Hs5, G5⟩ := id p1_1
  have hin5 : ¬ ((1 : Int32) < 0 ∨ cl5.slots.size ≤ ((1 : Int32)).toNatClampNeg) := inb_of Sz5 ⟨by decide, by decide⟩
  have hat5 : cl5.slots[((1 : Int32)).toNatClampNeg]? = some (.ref a_GROUP_2) := Has.at Hs5 hin5 rfl
  refine Go.step (fun t_ k_ => X4.aaload hx (j := (1 : Int32)) (v := (.ref a_GROUP_2)) (by rw [e4]; exact Ar5.1) (State.isArrayOf_alike hZ.alike Ar5.2.1) rfl Ar5.2.2 hin5 hat5 (g := (mkF m 16 #[.val (.int (3 : Int32)), .val (.ref b1), .val (.int (3 : Int32)), .val (.int (1 : Int32)), .val (.ref a_GROUP_1)] [(.int (1 : Int32)), (.ref b1)])) rfl rfl (hb hby d1_16) _ k_) ?_
  show Go p e below _ (T4.setTop (mkF m 17 #[.val (.int (3 : Int32)), .val (.ref b1), .val (.int (3 : Int32)), .val (.int (1 : Int32)), .val (.ref a_GROUP_1)] [(.ref a_GROUP_2)]))
  refine Go.step (fun t_ k_ => XS.astore X4.here hx rfl (hb hby d1_17) rfl rfl (l' := #[.val (.int (3 : Int32)), .val (.ref b1), .val (.int (3 : Int32)), .val (.int (1 : Int32)), .val (.ref a_GROUP_2)]) rfl k_) ?_
  show Go p e below _ (T4.setTop (mkF m 19 #[.val (.int (3 : Int32)), .val (.ref b1), .val (.int (3 : Int32)), .val (.int (1 : Int32)), .val (.ref a_GROUP_2)] []))
  refine Go.step (fun t_ k_ => XS.aload X4.here hx rfl (hb hby d1_19) rfl rfl k_) ?_
  show Go p e below _ (T4.setTop (mkF m 21 #[.val (.int (3 : Int32)), .val (.ref b1), .val (.int (3 : Int32)), .val (.int (1 : Int32)), .val (.ref a_GROUP_2)] [(.ref a_GROUP_2)]))
  obtain ⟨T6, X6, e6, st6⟩ := getF X4 hx hZ hown (host := "") (Or.inl (hw _ (List.mem_of_getElem? (i := 22) rfl))) Via.refl e4 (Fa_GROUP_2_number.ext old1.2) (g := (mkF m 21 #[.val (.int (3 : Int32)), .val (.ref b1), .val (.int (3 : Int32)), .val (.int (1 : Int32)), .val (.ref a_GROUP_2)] [(.ref a_GROUP_2)])) rfl rfl (hb hby d1_21)
  refine Go.step st6 ?_
  show Go p e below _ (T6.setTop (mkF m 24 #[.val (.int (3 : Int32)), .val (.ref b1), .val (.int (3 : Int32)), .val (.int (1 : Int32)), .val (.ref a_GROUP_2)] [(.int (2 : Int32))]))
  refine Go.step (fun t_ k_ => XS.iloadN X6.here hx rfl (hb hby d1_24) rfl k_) ?_
  show Go p e below _ (T6.setTop (mkF m 25 #[.val (.int (3 : Int32)), .val (.ref b1), .val (.int (3 : Int32)), .val (.int (1 : Int32)), .val (.ref a_GROUP_2)] [(.int (3 : Int32)), (.int (2 : Int32))]))
  have hc25_2 : ¬ ((2 : Int32) = (3 : Int32)) := by decide
  refine Go.step (fun t_ k_ => XS.icmpYes X6.here hx rfl (pc0 := 25) (pc' := 34) rfl (hb hby d1_25) rfl (feq hc25_2).2 (by decide) (by decide) k_) ?_
  show Go p e below _ (T6.setTop (mkF m 34 #[.val (.int (3 : Int32)), .val (.ref b1), .val (.int (3 : Int32)), .val (.int (1 : Int32)), .val (.ref a_GROUP_2)] []))
  refine Go.step (fun t_ k_ => XS.iinc X6.here hx rfl (hb hby d1_34) rfl (l' := #[.val (.int (3 : Int32)), .val (.ref b1), .val (.int (3 : Int32)), .val (.int ((1 : Int32) + (1 : Int32))), .val (.ref a_GROUP_2)]) rfl k_) ?_
  show Go p e below _ (T6.setTop (mkF m 37 #[.val (.int (3 : Int32)), .val (.ref b1), .val (.int (3 : Int32)), .val (.int ((1 : Int32) + (1 : Int32))), .val (.ref a_GROUP_2)] []))
  rw [show ((1 : Int32) + (1 : Int32)) = (2 : Int32) from by decide]
  show Go p e below _ (T6.setTop (mkF m 37 #[.val (.int (3 : Int32)), .val (.ref b1), .val (.int (3 : Int32)), .val (.int (2 : Int32)), .val (.ref a_GROUP_2)] []))
  refine Go.step (fun t_ k_ => XS.goto X6.here hx rfl (pc0 := 37) (pc' := 9) rfl (hb hby d1_37) (by decide) (by decide) k_) ?_
  show Go p e below _ (T6.setTop (mkF m 9 #[.val (.int (3 : Int32)), .val (.ref b1), .val (.int (3 : Int32)), .val (.int (2 : Int32)), .val (.ref a_GROUP_2)] []))
  refine Go.step (fun t_ k_ => XS.iloadN X6.here hx rfl (hb hby d1_9) rfl k_) ?_
  show Go p e below _ (T6.setTop (mkF m 10 #[.val (.int (3 : Int32)), .val (.ref b1), .val (.int (3 : Int32)), .val (.int (2 : Int32)), .val (.ref a_GROUP_2)] [(.int (2 : Int32))]))
  refine Go.step (fun t_ k_ => XS.iloadN X6.here hx rfl (hb hby d1_10) rfl k_) ?_
  show Go p e below _ (T6.setTop (mkF m 11 #[.val (.int (3 : Int32)), .val (.ref b1), .val (.int (3 : Int32)), .val (.int (2 : Int32)), .val (.ref a_GROUP_2)] [(.int (3 : Int32)), (.int (2 : Int32))]))
  have hc11_3 : (2 : Int32) < (3 : Int32) := by decide
  refine Go.step (fun t_ k_ => XS.icmpNo X6.here hx rfl (hb hby d1_11) rfl (tlt hc11_3).2.1 k_) ?_
  show Go p e below _ (T6.setTop (mkF m 14 #[.val (.int (3 : Int32)), .val (.ref b1), .val (.int (3 : Int32)), .val (.int (2 : Int32)), .val (.ref a_GROUP_2)] []))
  refine Go.step (fun t_ k_ => XS.aloadN X6.here hx rfl (hb hby d1_14) rfl rfl k_) ?_
  show Go p e below _ (T6.setTop (mkF m 15 #[.val (.int (3 : Int32)), .val (.ref b1), .val (.int (3 : Int32)), .val (.int (2 : Int32)), .val (.ref a_GROUP_2)] [(.ref b1)]))
  refine Go.step (fun t_ k_ => XS.iloadN X6.here hx rfl (hb hby d1_15) rfl k_) ?_
  show Go p e below _ (T6.setTop (mkF m 16 #[.val (.int (3 : Int32)), .val (.ref b1), .val (.int (3 : Int32)), .val (.int (2 : Int32)), .val (.ref a_GROUP_2)] [(.int (2 : Int32)), (.ref b1)]))
  obtain ⟨cl7, Ar7, q7, Sz7, Ng7, Hs7, G7⟩ := id p1_1
  have hin7 : ¬ ((2 : Int32) < 0 ∨ cl7.slots.size ≤ ((2 : Int32)).toNatClampNeg) := inb_of Sz7 ⟨by decide, by decide⟩
  have hat7 : cl7.slots[((2 : Int32)).toNatClampNeg]? = some (.ref a_GROUP_3) := Has.at Hs7 hin7 rfl
  refine Go.step (fun t_ k_ => X6.aaload hx (j := (2 : Int32)) (v := (.ref a_GROUP_3)) (by rw [e6]; exact Ar7.1) (State.isArrayOf_alike hZ.alike Ar7.2.1) rfl Ar7.2.2 hin7 hat7 (g := (mkF m 16 #[.val (.int (3 : Int32)), .val (.ref b1), .val (.int (3 : Int32)), .val (.int (2 : Int32)), .val (.ref a_GROUP_2)] [(.int (2 : Int32)), (.ref b1)])) rfl rfl (hb hby d1_16) _ k_) ?_
  show Go p e below _ (T6.setTop (mkF m 17 #[.val (.int (3 : Int32)), .val (.ref b1), .val (.int (3 : Int32)), .val (.int (2 : Int32)), .val (.ref a_GROUP_2)] [(.ref a_GROUP_3)]))
  refine Go.step (fun t_ k_ => XS.astore X6.here hx rfl (hb hby d1_17) rfl rfl (l' := #[.val (.int (3 : Int32)), .val (.ref b1), .val (.int (3 : Int32)), .val (.int (2 : Int32)), .val (.ref a_GROUP_3)]) rfl k_) ?_
  show Go p e below _ (T6.setTop (mkF m 19 #[.val (.int (3 : Int32)), .val (.ref b1), .val (.int (3 : Int32)), .val (.int (2 : Int32)), .val (.ref a_GROUP_3)] []))
  refine Go.step (fun t_ k_ => XS.aload X6.here hx rfl (hb hby d1_19) rfl rfl k_) ?_
  show Go p e below _ (T6.setTop (mkF m 21 #[.val (.int (3 : Int32)), .val (.ref b1), .val (.int (3 : Int32)), .val (.int (2 : Int32)), .val (.ref a_GROUP_3)] [(.ref a_GROUP_3)]))
  obtain ⟨T8, X8, e8, st8⟩ := getF X6 hx hZ hown (host := "") (Or.inl (hw _ (List.mem_of_getElem? (i := 22) rfl))) Via.refl e6 (Fa_GROUP_3_number.ext old1.2) (g := (mkF m 21 #[.val (.int (3 : Int32)), .val (.ref b1), .val (.int (3 : Int32)), .val (.int (2 : Int32)), .val (.ref a_GROUP_3)] [(.ref a_GROUP_3)])) rfl rfl (hb hby d1_21)
  refine Go.step st8 ?_
  show Go p e below _ (T8.setTop (mkF m 24 #[.val (.int (3 : Int32)), .val (.ref b1), .val (.int (3 : Int32)), .val (.int (2 : Int32)), .val (.ref a_GROUP_3)] [(.int (3 : Int32))]))
  refine Go.step (fun t_ k_ => XS.iloadN X8.here hx rfl (hb hby d1_24) rfl k_) ?_
  show Go p e below _ (T8.setTop (mkF m 25 #[.val (.int (3 : Int32)), .val (.ref b1), .val (.int (3 : Int32)), .val (.int (2 : Int32)), .val (.ref a_GROUP_3)] [(.int (3 : Int32)), (.int (3 : Int32))]))
  have hc25_3 : (3 : Int32) = (3 : Int32) := by decide
  refine Go.step (fun t_ k_ => XS.icmpNo X8.here hx rfl (hb hby d1_25) rfl (teq hc25_3).2 k_) ?_
  show Go p e below _ (T8.setTop (mkF m 28 #[.val (.int (3 : Int32)), .val (.ref b1), .val (.int (3 : Int32)), .val (.int (2 : Int32)), .val (.ref a_GROUP_3)] []))
  refine Go.step (fun t_ k_ => XS.aload X8.here hx rfl (hb hby d1_28) rfl rfl k_) ?_
  show Go p e below _ (T8.setTop (mkF m 30 #[.val (.int (3 : Int32)), .val (.ref b1), .val (.int (3 : Int32)), .val (.int (2 : Int32)), .val (.ref a_GROUP_3)] [(.ref a_GROUP_3)]))
  obtain ⟨_, _, ⟨T9, L9, k9, n9⟩, -, X9, ⟨Lc9, hQ9, l9, y9, z9⟩, st9⟩ := Jvm.LawKit.callS X8 hx (y := (⟨"java/util/Optional", "of", "(Ljava/lang/Object;)Ljava/util/Optional;"⟩ : MethodName)) hown (mvT hZ (hw _ (List.mem_of_getElem? (i := 40) rfl))) (mvT hZ (hw _ (List.mem_of_getElem? (i := 41) rfl))) (mvT hZ (hw _ (List.mem_of_getElem? (i := 26) rfl))) (mvT hZ (hw _ (List.mem_of_getElem? (i := 42) rfl))) (by decide) (backOf (W := 0) (rm6 l Z a0 hw [] a__VALUES a_GROUP_1 a_GROUP_2 a_GROUP_3 a_EMPTY ka__VALUES HW a_GROUP_3 T1.heap n0 old1 ) hZ (hw _ (List.mem_of_getElem? (i := 42) rfl)) (hw _ (List.mem_of_getElem? (i := 26) rfl)) (by decide) (by decide)) (g := (mkF m 30 #[.val (.int (3 : Int32)), .val (.ref b1), .val (.int (3 : Int32)), .val (.int (2 : Int32)), .val (.ref a_GROUP_3)] [(.ref a_GROUP_3)])) rfl (by rw [hml]; rfl) (argsL := [(.ref a_GROUP_3)]) (rest := []) (lenOf pd_3 rfl) rfl (by show 2 * 0 + _ ≤ _; exact Nat.le_of_eq rfl) (hb hby d1_30) (fun _ _ => ⟨rfl, e8, (by decide : 1 + 1 ≤ _), (by decide : 3 + 1 ≤ _)⟩)
  dsimp only [Pt.U, Pt.locs, Pt.cells, Pt.slots] at X9 l9 y9 z9 st9 hQ9
  subst l9 y9 z9
  obtain ⟨b9, rfl, gb_b9, Nq9, K9, p9_0, p9_1⟩ := hQ9
  have nn_b9 : n0 ≤ b9 := Nat.le_trans (old_z0 old1) gb_b9
  have sz_b9 : h0.size ≤ b9 := Nat.le_trans kp1.1 gb_b9
  have ne_b1_b9 : b1 ≠ b9 := Nat.ne_of_lt (Nat.lt_of_lt_of_le p1_0.lt gb_b9)
  have old9 := old1.keep K9 all0
  have kp9 := kp1.trans K9 all0
  have N9 := Fr.app N1 Nq9
  refine Go.step st9 ?_
  show Go p e below _ (T9.setTop (mkF m 33 #[.val (.int (3 : Int32)), .val (.ref b1), .val (.int (3 : Int32)), .val (.int (2 : Int32)), .val (.ref a_GROUP_3)] [(.ref b9)]))
  refine Go.retR X9 hx Bd.returns rfl rfl Bd.notSynchronized (hb hby d1_33) (by exact ⟨b9, rfl, sz_b9, N9, kp9, p9_0, p9_1⟩) (by decide) (by decide)
theorem d1_40 : decode prog_44_method_4_code 40 = .ok (.invokestatic 67, 3) := by decide +kernel
theorem pd_4 : parseMethodDescriptor "()Ljava/util/Optional;" = some ⟨[], some (.object "java/util/Optional")⟩ := by decide +kernel
theorem d1_43 : decode prog_44_method_4_code 43 = .ok (.areturn, 1) := by decide +kernel
theorem ef_rm_num0 (m : MethodId) (x0 : Int32)  : entryFrame m #[(.int x0)] 5 = mkF m 0 #[.val (.int x0), .unset, .unset, .unset, .unset] [] := by first | (simp [entryFrame, mkF, argsToLocals, Value.category]; done) | rfl
def Q_rm_num0 (Z : State) (a__VALUES : Addr) (a_GROUP_1 : Addr) (a_GROUP_2 : Addr) (a_GROUP_3 : Addr) (a_EMPTY : Addr) (ka__VALUES : ClassId) (n : Int32) (h0 : Heap) (n0 : Nat) (v : Option Value) (h : Heap) (L : List Loc) : Prop := v = some (.ref a_EMPTY) ∧ Fr n0 L ∧ Keep h0 h []
set_option maxRecDepth 65536 in
set_option maxHeartbeats 40000000 in
theorem rm_num0 (l : Launch) (Z : State) (a0 : Array Value) (hw : ∀ d ∈ tables_1, d.before a0 Z = true) (ws : List Jvm.Cond) (a__VALUES : Addr) (a_GROUP_1 : Addr) (a_GROUP_2 : Addr) (a_GROUP_3 : Addr) (a_EMPTY : Addr) (ka__VALUES : ClassId) (HW : Wd Z a__VALUES a_GROUP_1 a_GROUP_2 a_GROUP_3 a_EMPTY ka__VALUES) (n : Int32) (h0 : Heap) (n0 : Nat) (Ol : Old Z n0 h0) (hn1 : ¬ n = (1 : Int32)) (hn2 : ¬ n = (2 : Int32)) (hn3 : ¬ n = (3 : Int32)) :
    MetFree l (⟨"com/example/overcap/overcap/plans/ManagementGroup", "numbered", "(I)Ljava/util/Optional;"⟩ : MethodName) (head1 (Jvm.Cond.code (⟨"com/example/overcap/overcap/plans/ManagementGroup", "numbered", "(I)Ljava/util/Optional;"⟩ : MethodName) prog_44_method_4_code 5 (some (.object "java/util/Optional")) :: ws) ({ frames := 2, cells := 1, slots := 3, locals := 25 } : Room)) (fun a_ U_ => a_ = #[(.int n)] ∧ Z.Warmed39 U_.vm ∧ U_.heap = h0) (fun _ _ _ _ _ => True) (fun _ U_ o_ V_ => ∃ v_ L_, o_ = .returned v_ ∧ Q_rm_num0 Z a__VALUES a_GROUP_1 a_GROUP_2 a_GROUP_3 a_EMPTY ka__VALUES n h0 n0 v_ V_.heap L_ ∧ FrameEnd U_ o_ V_ L_ ({ frames := 2, cells := 1, slots := 3, locals := 25 } : Room).cells ({ frames := 2, cells := 1, slots := 3, locals := 25 } : Room).slots) := by
  refine MetFree.of_bodySF (plainFor_of_name pn_0) hisR ?_
  intro p e s m args below meth c s₁ Bd hml0 hP hK
  obtain ⟨rfl, hZ, hh⟩ := hP
  have hx := Bd.exec
  have hby := Bd.bytes
  have hml : c.maxLocals = 5 := hml0
  have hown : s.vm.findClass "com/example/overcap/overcap/plans/ManagementGroup" = some m.cls := findClass_of_methodNamed Bd.named
  have hnm := (name_of_methodNamed Bd.named Bd.method).1
  have X0 : Stand p l e ({ frames := 2, cells := 1, slots := 3, locals := 25 } : Room) s m #[(.int n)] below meth c s₁ [] 0 0 := Stand.of_body Bd
  have e0 : s₁.heap = h0 := by rw [← hh, Bd.state]; rfl
  have N0 := Fr.nil n0
  have kp0 := Keep.refl h0 []
  show Go p e below (Fin1 s below (Q_rm_num0 Z a__VALUES a_GROUP_1 a_GROUP_2 a_GROUP_3 a_EMPTY ka__VALUES n h0 n0) ({ frames := 2, cells := 1, slots := 3, locals := 25 } : Room).cells ({ frames := 2, cells := 1, slots := 3, locals := 25 } : Room).slots) _
  refine Go.step (fun t_ k_ => castTop (ef_rm_num0 m n) k_) ?_
  obtain ⟨Ea__VALUES, Sa__VALUES, Ea_GROUP_1, Sa_GROUP_1, Ea_GROUP_2, Sa_GROUP_2, Ea_GROUP_3, Sa_GROUP_3, Ea_EMPTY, Sa_EMPTY, Fa_GROUP_1_number, Fa_GROUP_2_number, Fa_GROUP_3_number, Fa_EMPTY_value, Aa__VALUES⟩ := id HW
  show Go p e below _ (s₁.setTop (mkF m 0 #[.val (.int n), .unset, .unset, .unset, .unset] []))
  obtain ⟨_, _, ⟨T1, L1, k1, n1⟩, -, X1, ⟨Lc1, hQ1, l1, y1, z1⟩, st1⟩ := Jvm.LawKit.callS X0 hx (y := (⟨"com/example/overcap/overcap/plans/ManagementGroup", "values", "()[Lcom/example/overcap/overcap/plans/ManagementGroup;"⟩ : MethodName)) hown (mvT hZ (hw _ (List.mem_of_getElem? (i := 4) rfl))) (mvT hZ (hw _ (List.mem_of_getElem? (i := 5) rfl))) (mvT hZ (hw _ (List.mem_of_getElem? (i := 2) rfl))) (mvT hZ (hw _ (List.mem_of_getElem? (i := 6) rfl))) (by decide) (backOf (W := 0) (rm2 l Z a0 hw [] a__VALUES a_GROUP_1 a_GROUP_2 a_GROUP_3 a_EMPTY ka__VALUES HW  h0 n0 Ol ) hZ (hw _ (List.mem_of_getElem? (i := 6) rfl)) (hw _ (List.mem_of_getElem? (i := 2) rfl)) (by decide) (by decide)) (g := (mkF m 0 #[.val (.int n), .unset, .unset, .unset, .unset] [])) rfl (by rw [hml]; rfl) (argsL := []) (rest := []) (lenOf pd_2 rfl) rfl (by show 2 * 0 + _ ≤ _; exact Nat.le_of_eq rfl) (hb hby d1_0) (fun _ _ => ⟨rfl, e0, (by decide : 0 + 1 ≤ _), (by decide : 0 + 3 ≤ _)⟩)
  dsimp only [Pt.U, Pt.locs, Pt.cells, Pt.slots] at X1 l1 y1 z1 st1 hQ1
  subst l1 y1 z1
  obtain ⟨b1, rfl, gb_b1, Nq1, K1, p1_0, p1_1⟩ := hQ1
  have nn_b1 : n0 ≤ b1 := Nat.le_trans (old_z0 Ol) gb_b1
  have sz_b1 : h0.size ≤ b1 := Nat.le_trans kp0.1 gb_b1
  have old1 := Ol.keep K1 all0
  have kp1 := kp0.trans K1 all0
  have N1 := Fr.app N0 Nq1
  refine Go.step st1 ?_
  show Go p e below _ (T1.setTop (mkF m 3 #[.val (.int n), .unset, .unset, .unset, .unset] [(.ref b1)]))
  refine Go.step (fun t_ k_ => XS.astoreN X1.here hx rfl (hb hby d1_3) rfl rfl (l' := #[.val (.int n), .val (.ref b1), .unset, .unset, .unset]) rfl k_) ?_
  show Go p e below _ (T1.setTop (mkF m 4 #[.val (.int n), .val (.ref b1), .unset, .unset, .unset] []))
  refine Go.step (fun t_ k_ => XS.aloadN X1.here hx rfl (hb hby d1_4) rfl rfl k_) ?_
  show Go p e below _ (T1.setTop (mkF m 5 #[.val (.int n), .val (.ref b1), .unset, .unset, .unset] [(.ref b1)]))
  obtain ⟨cl2, Ar2, -, Sz2, Ng2, -, -⟩ := id p1_1
  refine Go.step (fun t_ k_ => X1.arraylength hx (by exact Ar2.1) (State.isArrayOf_alike hZ.alike Ar2.2.1) (g := (mkF m 5 #[.val (.int n), .val (.ref b1), .unset, .unset, .unset] [(.ref b1)])) rfl rfl (hb hby d1_5) _ k_) ?_
  rw [len_of Sz2 Ng2]
  show Go p e below _ (T1.setTop (mkF m 6 #[.val (.int n), .val (.ref b1), .unset, .unset, .unset] [(.int (3 : Int32))]))
  refine Go.step (fun t_ k_ => XS.istoreN X1.here hx rfl (hb hby d1_6) rfl (l' := #[.val (.int n), .val (.ref b1), .val (.int (3 : Int32)), .unset, .unset]) rfl k_) ?_
  show Go p e below _ (T1.setTop (mkF m 7 #[.val (.int n), .val (.ref b1), .val (.int (3 : Int32)), .unset, .unset] []))
  refine Go.step (fun t_ k_ => XS.iconst X1.here hx rfl (hb hby d1_7) k_) ?_
  show Go p e below _ (T1.setTop (mkF m 8 #[.val (.int n), .val (.ref b1), .val (.int (3 : Int32)), .unset, .unset] [(.int (0 : Int32))]))
  refine Go.step (fun t_ k_ => XS.istoreN X1.here hx rfl (hb hby d1_8) rfl (l' := #[.val (.int n), .val (.ref b1), .val (.int (3 : Int32)), .val (.int (0 : Int32)), .unset]) rfl k_) ?_
  show Go p e below _ (T1.setTop (mkF m 9 #[.val (.int n), .val (.ref b1), .val (.int (3 : Int32)), .val (.int (0 : Int32)), .unset] []))
  refine Go.step (fun t_ k_ => XS.iloadN X1.here hx rfl (hb hby d1_9) rfl k_) ?_
  show Go p e below _ (T1.setTop (mkF m 10 #[.val (.int n), .val (.ref b1), .val (.int (3 : Int32)), .val (.int (0 : Int32)), .unset] [(.int (0 : Int32))]))
  refine Go.step (fun t_ k_ => XS.iloadN X1.here hx rfl (hb hby d1_10) rfl k_) ?_
  show Go p e below _ (T1.setTop (mkF m 11 #[.val (.int n), .val (.ref b1), .val (.int (3 : Int32)), .val (.int (0 : Int32)), .unset] [(.int (3 : Int32)), (.int (0 : Int32))]))
  have hc11 : (0 : Int32) < (3 : Int32) := by decide
  refine Go.step (fun t_ k_ => XS.icmpNo X1.here hx rfl (hb hby d1_11) rfl (tlt hc11).2.1 k_) ?_
  show Go p e below _ (T1.setTop (mkF m 14 #[.val (.int n), .val (.ref b1), .val (.int (3 : Int32)), .val (.int (0 : Int32)), .unset] []))
  refine Go.step (fun t_ k_ => XS.aloadN X1.here hx rfl (hb hby d1_14) rfl rfl k_) ?_
  show Go p e below _ (T1.setTop (mkF m 15 #[.val (.int n), .val (.ref b1), .val (.int (3 : Int32)), .val (.int (0 : Int32)), .unset] [(.ref b1)]))
  refine Go.step (fun t_ k_ => XS.iloadN X1.here hx rfl (hb hby d1_15) rfl k_) ?_
  show Go p e below _ (T1.setTop (mkF m 16 #[.val (.int n), .val (.ref b1), .val (.int (3 : Int32)), .val (.int (0 : Int32)), .unset] [(.int (0 : Int32)), (.ref b1)]))
  obtain ⟨cl3, Ar3, q3, Sz3, Ng3, Hs3, G3⟩ := id p1_1
  have hin3 : ¬ ((0 : Int32) < 0 ∨ cl3.slots.size ≤ ((0 : Int32)).toNatClampNeg) := inb_of Sz3 ⟨by decide, by decide⟩
  have hat3 : cl3.slots[((0 : Int32)).toNatClampNeg]? = some (.ref a_GROUP_1) := Has.at Hs3 hin3 rfl
  refine Go.step (fun t_ k_ => X1.aaload hx (j := (0 : Int32)) (v := (.ref a_GROUP_1)) (by exact Ar3.1) (State.isArrayOf_alike hZ.alike Ar3.2.1) rfl Ar3.2.2 hin3 hat3 (g := (mkF m 16 #[.val (.int n), .val (.ref b1), .val (.int (3 : Int32)), .val (.int (0 : Int32)), .unset] [(.int (0 : Int32)), (.ref b1)])) rfl rfl (hb hby d1_16) _ k_) ?_
  show Go p e below _ (T1.setTop (mkF m 17 #[.val (.int n), .val (.ref b1), .val (.int (3 : Int32)), .val (.int (0 : Int32)), .unset] [(.ref a_GROUP_1)]))
  refine Go.step (fun t_ k_ => XS.astore X1.here hx rfl (hb hby d1_17) rfl rfl (l' := #[.val (.int n), .val (.ref b1), .val (.int (3 : Int32)), .val (.int (0 : Int32)), .val (.ref a_GROUP_1)]) rfl k_) ?_
  show Go p e below _ (T1.setTop (mkF m 19 #[.val (.int n), .val (.ref b1), .val (.int (3 : Int32)), .val (.int (0 : Int32)), .val (.ref a_GROUP_1)] []))
  refine Go.step (fun t_ k_ => XS.aload X1.here hx rfl (hb hby d1_19) rfl rfl k_) ?_
  show Go p e below _ (T1.setTop (mkF m 21 #[.val (.int n), .val (.ref b1), .val (.int (3 : Int32)), .val (.int (0 : Int32)), .val (.ref a_GROUP_1)] [(.ref a_GROUP_1)]))
  obtain ⟨T4, X4, e4, st4⟩ := getF X1 hx hZ hown (host := "") (Or.inl (hw _ (List.mem_of_getElem? (i := 22) rfl))) Via.refl rfl (Fa_GROUP_1_number.ext old1.2) (g := (mkF m 21 #[.val (.int n), .val (.ref b1), .val (.int (3 : Int32)), .val (.int (0 : Int32)), .val (.ref a_GROUP_1)] [(.ref a_GROUP_1)])) rfl rfl (hb hby d1_21)
  refine Go.step st4 ?_
  show Go p e below _ (T4.setTop (mkF m 24 #[.val (.int n), .val (.ref b1), .val (.int (3 : Int32)), .val (.int (0 : Int32)), .val (.ref a_GROUP_1)] [(.int (1 : Int32))]))
  refine Go.step (fun t_ k_ => XS.iloadN X4.here hx rfl (hb hby d1_24) rfl k_) ?_
  show Go p e below _ (T4.setTop (mkF m 25 #[.val (.int n), .val (.ref b1), .val (.int (3 : Int32)), .val (.int (0 : Int32)), .val (.ref a_GROUP_1)] [(.int n), (.int (1 : Int32))]))
  have hc25 : ¬ ((1 : Int32) = n) := fun q => hn1 q.symm
  refine Go.step (fun t_ k_ => XS.icmpYes X4.here hx rfl (pc0 := 25) (pc' := 34) rfl (hb hby d1_25) rfl (feq hc25).2 (by decide) (by decide) k_) ?_
  show Go p e below _ (T4.setTop (mkF m 34 #[.val (.int n), .val (.ref b1), .val (.int (3 : Int32)), .val (.int (0 : Int32)), .val (.ref a_GROUP_1)] []))
  refine Go.step (fun t_ k_ => XS.iinc X4.here hx rfl (hb hby d1_34) rfl (l' := #[.val (.int n), .val (.ref b1), .val (.int (3 : Int32)), .val (.int ((0 : Int32) + (1 : Int32))), .val (.ref a_GROUP_1)]) rfl k_) ?_
  show Go p e below _ (T4.setTop (mkF m 37 #[.val (.int n), .val (.ref b1), .val (.int (3 : Int32)), .val (.int ((0 : Int32) + (1 : Int32))), .val (.ref a_GROUP_1)] []))
  rw [show ((0 : Int32) + (1 : Int32)) = (1 : Int32) from by decide]
  show Go p e below _ (T4.setTop (mkF m 37 #[.val (.int n), .val (.ref b1), .val (.int (3 : Int32)), .val (.int (1 : Int32)), .val (.ref a_GROUP_1)] []))
  refine Go.step (fun t_ k_ => XS.goto X4.here hx rfl (pc0 := 37) (pc' := 9) rfl (hb hby d1_37) (by decide) (by decide) k_) ?_
  show Go p e below _ (T4.setTop (mkF m 9 #[.val (.int n), .val (.ref b1), .val (.int (3 : Int32)), .val (.int (1 : Int32)), .val (.ref a_GROUP_1)] []))
  refine Go.step (fun t_ k_ => XS.iloadN X4.here hx rfl (hb hby d1_9) rfl k_) ?_
  show Go p e below _ (T4.setTop (mkF m 10 #[.val (.int n), .val (.ref b1), .val (.int (3 : Int32)), .val (.int (1 : Int32)), .val (.ref a_GROUP_1)] [(.int (1 : Int32))]))
  refine Go.step (fun t_ k_ => XS.iloadN X4.here hx rfl (hb hby d1_10) rfl k_) ?_
  show Go p e below _ (T4.setTop (mkF m 11 #[.val (.int n), .val (.ref b1), .val (.int (3 : Int32)), .val (.int (1 : Int32)), .val (.ref a_GROUP_1)] [(.int (3 : Int32)), (.int (1 : Int32))]))
  have hc11_2 : (1 : Int32) < (3 : Int32) := by decide
  refine Go.step (fun t_ k_ => XS.icmpNo X4.here hx rfl (hb hby d1_11) rfl (tlt hc11_2).2.1 k_) ?_
  show Go p e below _ (T4.setTop (mkF m 14 #[.val (.int n), .val (.ref b1), .val (.int (3 : Int32)), .val (.int (1 : Int32)), .val (.ref a_GROUP_1)] []))
  refine Go.step (fun t_ k_ => XS.aloadN X4.here hx rfl (hb hby d1_14) rfl rfl k_) ?_
  show Go p e below _ (T4.setTop (mkF m 15 #[.val (.int n), .val (.ref b1), .val (.int (3 : Int32)), .val (.int (1 : Int32)), .val (.ref a_GROUP_1)] [(.ref b1)]))
  refine Go.step (fun t_ k_ => XS.iloadN X4.here hx rfl (hb hby d1_15) rfl k_) ?_
  show Go p e below _ (T4.setTop (mkF m 16 #[.val (.int n), .val (.ref b1), .val (.int (3 : Int32)), .val (.int (1 : Int32)), .val (.ref a_GROUP_1)] [(.int (1 : Int32)), (.ref b1)]))
  obtain ⟨cl5, Ar5, q5, Sz5, Ng5, Hs5, G5⟩ := id p1_1
  have hin5 : ¬ ((1 : Int32) < 0 ∨ cl5.slots.size ≤ ((1 : Int32)).toNatClampNeg) := inb_of Sz5 ⟨by decide, by decide⟩
  have hat5 : cl5.slots[((1 : Int32)).toNatClampNeg]? = some (.ref a_GROUP_2) := Has.at Hs5 hin5 rfl
  refine Go.step (fun t_ k_ => X4.aaload hx (j := (1 : Int32)) (v := (.ref a_GROUP_2)) (by rw [e4]; exact Ar5.1) (State.isArrayOf_alike hZ.alike Ar5.2.1) rfl Ar5.2.2 hin5 hat5 (g := (mkF m 16 #[.val (.int n), .val (.ref b1), .val (.int (3 : Int32)), .val (.int (1 : Int32)), .val (.ref a_GROUP_1)] [(.int (1 : Int32)), (.ref b1)])) rfl rfl (hb hby d1_16) _ k_) ?_
  show Go p e below _ (T4.setTop (mkF m 17 #[.val (.int n), .val (.ref b1), .val (.int (3 : Int32)), .val (.int (1 : Int32)), .val (.ref a_GROUP_1)] [(.ref a_GROUP_2)]))
  refine Go.step (fun t_ k_ => XS.astore X4.here hx rfl (hb hby d1_17) rfl rfl (l' := #[.val (.int n), .val (.ref b1), .val (.int (3 : Int32)), .val (.int (1 : Int32)), .val (.ref a_GROUP_2)]) rfl k_) ?_
  show Go p e below _ (T4.setTop (mkF m 19 #[.val (.int n), .val (.ref b1), .val (.int (3 : Int32)), .val (.int (1 : Int32)), .val (.ref a_GROUP_2)] []))
  refine Go.step (fun t_ k_ => XS.aload X4.here hx rfl (hb hby d1_19) rfl rfl k_) ?_
  show Go p e below _ (T4.setTop (mkF m 21 #[.val (.int n), .val (.ref b1), .val (.int (3 : Int32)), .val (.int (1 : Int32)), .val (.ref a_GROUP_2)] [(.ref a_GROUP_2)]))
  obtain ⟨T6, X6, e6, st6⟩ := getF X4 hx hZ hown (host := "") (Or.inl (hw _ (List.mem_of_getElem? (i := 22) rfl))) Via.refl e4 (Fa_GROUP_2_number.ext old1.2) (g := (mkF m 21 #[.val (.int n), .val (.ref b1), .val (.int (3 : Int32)), .val (.int (1 : Int32)), .val (.ref a_GROUP_2)] [(.ref a_GROUP_2)])) rfl rfl (hb hby d1_21)
  refine Go.step st6 ?_
  show Go p e below _ (T6.setTop (mkF m 24 #[.val (.int n), .val (.ref b1), .val (.int (3 : Int32)), .val (.int (1 : Int32)), .val (.ref a_GROUP_2)] [(.int (2 : Int32))]))
  refine Go.step (fun t_ k_ => XS.iloadN X6.here hx rfl (hb hby d1_24) rfl k_) ?_
  show Go p e below _ (T6.setTop (mkF m 25 #[.val (.int n), .val (.ref b1), .val (.int (3 : Int32)), .val (.int (1 : Int32)), .val (.ref a_GROUP_2)] [(.int n), (.int (2 : Int32))]))
  have hc25_2 : ¬ ((2 : Int32) = n) := fun q => hn2 q.symm
  refine Go.step (fun t_ k_ => XS.icmpYes X6.here hx rfl (pc0 := 25) (pc' := 34) rfl (hb hby d1_25) rfl (feq hc25_2).2 (by decide) (by decide) k_) ?_
  show Go p e below _ (T6.setTop (mkF m 34 #[.val (.int n), .val (.ref b1), .val (.int (3 : Int32)), .val (.int (1 : Int32)), .val (.ref a_GROUP_2)] []))
  refine Go.step (fun t_ k_ => XS.iinc X6.here hx rfl (hb hby d1_34) rfl (l' := #[.val (.int n), .val (.ref b1), .val (.int (3 : Int32)), .val (.int ((1 : Int32) + (1 : Int32))), .val (.ref a_GROUP_2)]) rfl k_) ?_
  show Go p e below _ (T6.setTop (mkF m 37 #[.val (.int n), .val (.ref b1), .val (.int (3 : Int32)), .val (.int ((1 : Int32) + (1 : Int32))), .val (.ref a_GROUP_2)] []))
  rw [show ((1 : Int32) + (1 : Int32)) = (2 : Int32) from by decide]
  show Go p e below _ (T6.setTop (mkF m 37 #[.val (.int n), .val (.ref b1), .val (.int (3 : Int32)), .val (.int (2 : Int32)), .val (.ref a_GROUP_2)] []))
  refine Go.step (fun t_ k_ => XS.goto X6.here hx rfl (pc0 := 37) (pc' := 9) rfl (hb hby d1_37) (by decide) (by decide) k_) ?_
  show Go p e below _ (T6.setTop (mkF m 9 #[.val (.int n), .val (.ref b1), .val (.int (3 : Int32)), .val (.int (2 : Int32)), .val (.ref a_GROUP_2)] []))
  refine Go.step (fun t_ k_ => XS.iloadN X6.here hx rfl (hb hby d1_9) rfl k_) ?_
  show Go p e below _ (T6.setTop (mkF m 10 #[.val (.int n), .val (.ref b1), .val (.int (3 : Int32)), .val (.int (2 : Int32)), .val (.ref a_GROUP_2)] [(.int (2 : Int32))]))
  refine Go.step (fun t_ k_ => XS.iloadN X6.here hx rfl (hb hby d1_10) rfl k_) ?_
  show Go p e below _ (T6.setTop (mkF m 11 #[.val (.int n), .val (.ref b1), .val (.int (3 : Int32)), .val (.int (2 : Int32)), .val (.ref a_GROUP_2)] [(.int (3 : Int32)), (.int (2 : Int32))]))
  have hc11_3 : (2 : Int32) < (3 : Int32) := by decide
  refine Go.step (fun t_ k_ => XS.icmpNo X6.here hx rfl (hb hby d1_11) rfl (tlt hc11_3).2.1 k_) ?_
  show Go p e below _ (T6.setTop (mkF m 14 #[.val (.int n), .val (.ref b1), .val (.int (3 : Int32)), .val (.int (2 : Int32)), .val (.ref a_GROUP_2)] []))
  refine Go.step (fun t_ k_ => XS.aloadN X6.here hx rfl (hb hby d1_14) rfl rfl k_) ?_
  show Go p e below _ (T6.setTop (mkF m 15 #[.val (.int n), .val (.ref b1), .val (.int (3 : Int32)), .val (.int (2 : Int32)), .val (.ref a_GROUP_2)] [(.ref b1)]))
  refine Go.step (fun t_ k_ => XS.iloadN X6.here hx rfl (hb hby d1_15) rfl k_) ?_
  show Go p e below _ (T6.setTop (mkF m 16 #[.val (.int n), .val (.ref b1), .val (.int (3 : Int32)), .val (.int (2 : Int32)), .val (.ref a_GROUP_2)] [(.int (2 : Int32)), (.ref b1)]))
  obtain ⟨cl7, Ar7, q7, Sz7, Ng7, Hs7, G7⟩ := id p1_1
  have hin7 : ¬ ((2 : Int32) < 0 ∨ cl7.slots.size ≤ ((2 : Int32)).toNatClampNeg) := inb_of Sz7 ⟨by decide, by decide⟩
  have hat7 : cl7.slots[((2 : Int32)).toNatClampNeg]? = some (.ref a_GROUP_3) := Has.at Hs7 hin7 rfl
  refine Go.step (fun t_ k_ => X6.aaload hx (j := (2 : Int32)) (v := (.ref a_GROUP_3)) (by rw [e6]; exact Ar7.1) (State.isArrayOf_alike hZ.alike Ar7.2.1) rfl Ar7.2.2 hin7 hat7 (g := (mkF m 16 #[.val (.int n), .val (.ref b1), .val (.int (3 : Int32)), .val (.int (2 : Int32)), .val (.ref a_GROUP_2)] [(.int (2 : Int32)), (.ref b1)])) rfl rfl (hb hby d1_16) _ k_) ?_
  show Go p e below _ (T6.setTop (mkF m 17 #[.val (.int n), .val (.ref b1), .val (.int (3 : Int32)), .val (.int (2 : Int32)), .val (.ref a_GROUP_2)] [(.ref a_GROUP_3)]))
  refine Go.step (fun t_ k_ => XS.astore X6.here hx rfl (hb hby d1_17) rfl rfl (l' := #[.val (.int n), .val (.ref b1), .val (.int (3 : Int32)), .val (.int (2 : Int32)), .val (.ref a_GROUP_3)]) rfl k_) ?_
  show Go p e below _ (T6.setTop (mkF m 19 #[.val (.int n), .val (.ref b1), .val (.int (3 : Int32)), .val (.int (2 : Int32)), .val (.ref a_GROUP_3)] []))
  refine Go.step (fun t_ k_ => XS.aload X6.here hx rfl (hb hby d1_19) rfl rfl k_) ?_
  show Go p e below _ (T6.setTop (mkF m 21 #[.val (.int n), .val (.ref b1), .val (.int (3 : Int32)), .val (.int (2 : Int32)), .val (.ref a_GROUP_3)] [(.ref a_GROUP_3)]))
  obtain ⟨T8, X8, e8, st8⟩ := getF X6 hx hZ hown (host := "") (Or.inl (hw _ (List.mem_of_getElem? (i := 22) rfl))) Via.refl e6 (Fa_GROUP_3_number.ext old1.2) (g := (mkF m 21 #[.val (.int n), .val (.ref b1), .val (.int (3 : Int32)), .val (.int (2 : Int32)), .val (.ref a_GROUP_3)] [(.ref a_GROUP_3)])) rfl rfl (hb hby d1_21)
  refine Go.step st8 ?_
  show Go p e below _ (T8.setTop (mkF m 24 #[.val (.int n), .val (.ref b1), .val (.int (3 : Int32)), .val (.int (2 : Int32)), .val (.ref a_GROUP_3)] [(.int (3 : Int32))]))
  refine Go.step (fun t_ k_ => XS.iloadN X8.here hx rfl (hb hby d1_24) rfl k_) ?_
  show Go p e below _ (T8.setTop (mkF m 25 #[.val (.int n), .val (.ref b1), .val (.int (3 : Int32)), .val (.int (2 : Int32)), .val (.ref a_GROUP_3)] [(.int n), (.int (3 : Int32))]))
  have hc25_3 : ¬ ((3 : Int32) = n) := fun q => hn3 q.symm
  refine Go.step (fun t_ k_ => XS.icmpYes X8.here hx rfl (pc0 := 25) (pc' := 34) rfl (hb hby d1_25) rfl (feq hc25_3).2 (by decide) (by decide) k_) ?_
  show Go p e below _ (T8.setTop (mkF m 34 #[.val (.int n), .val (.ref b1), .val (.int (3 : Int32)), .val (.int (2 : Int32)), .val (.ref a_GROUP_3)] []))
  refine Go.step (fun t_ k_ => XS.iinc X8.here hx rfl (hb hby d1_34) rfl (l' := #[.val (.int n), .val (.ref b1), .val (.int (3 : Int32)), .val (.int ((2 : Int32) + (1 : Int32))), .val (.ref a_GROUP_3)]) rfl k_) ?_
  show Go p e below _ (T8.setTop (mkF m 37 #[.val (.int n), .val (.ref b1), .val (.int (3 : Int32)), .val (.int ((2 : Int32) + (1 : Int32))), .val (.ref a_GROUP_3)] []))
  rw [show ((2 : Int32) + (1 : Int32)) = (3 : Int32) from by decide]
  show Go p e below _ (T8.setTop (mkF m 37 #[.val (.int n), .val (.ref b1), .val (.int (3 : Int32)), .val (.int (3 : Int32)), .val (.ref a_GROUP_3)] []))
  refine Go.step (fun t_ k_ => XS.goto X8.here hx rfl (pc0 := 37) (pc' := 9) rfl (hb hby d1_37) (by decide) (by decide) k_) ?_
  show Go p e below _ (T8.setTop (mkF m 9 #[.val (.int n), .val (.ref b1), .val (.int (3 : Int32)), .val (.int (3 : Int32)), .val (.ref a_GROUP_3)] []))
  refine Go.step (fun t_ k_ => XS.iloadN X8.here hx rfl (hb hby d1_9) rfl k_) ?_
  show Go p e below _ (T8.setTop (mkF m 10 #[.val (.int n), .val (.ref b1), .val (.int (3 : Int32)), .val (.int (3 : Int32)), .val (.ref a_GROUP_3)] [(.int (3 : Int32))]))
  refine Go.step (fun t_ k_ => XS.iloadN X8.here hx rfl (hb hby d1_10) rfl k_) ?_
  show Go p e below _ (T8.setTop (mkF m 11 #[.val (.int n), .val (.ref b1), .val (.int (3 : Int32)), .val (.int (3 : Int32)), .val (.ref a_GROUP_3)] [(.int (3 : Int32)), (.int (3 : Int32))]))
  have hc11_4 : ¬ ((3 : Int32) < (3 : Int32)) := by decide
  refine Go.step (fun t_ k_ => XS.icmpYes X8.here hx rfl (pc0 := 11) (pc' := 40) rfl (hb hby d1_11) rfl (flt hc11_4).2.1 (by decide) (by decide) k_) ?_
  show Go p e below _ (T8.setTop (mkF m 40 #[.val (.int n), .val (.ref b1), .val (.int (3 : Int32)), .val (.int (3 : Int32)), .val (.ref a_GROUP_3)] []))
  obtain ⟨_, _, ⟨T9, L9, k9, n9⟩, -, X9, ⟨Lc9, hQ9, l9, y9, z9⟩, st9⟩ := Jvm.LawKit.callS X8 hx (y := (⟨"java/util/Optional", "empty", "()Ljava/util/Optional;"⟩ : MethodName)) hown (mvT hZ (hw _ (List.mem_of_getElem? (i := 24) rfl))) (mvT hZ (hw _ (List.mem_of_getElem? (i := 25) rfl))) (mvT hZ (hw _ (List.mem_of_getElem? (i := 26) rfl))) (mvT hZ (hw _ (List.mem_of_getElem? (i := 27) rfl))) (by decide) (backOf (W := 0) (rm3 l Z a0 hw [] a__VALUES a_GROUP_1 a_GROUP_2 a_GROUP_3 a_EMPTY ka__VALUES HW  T1.heap n0 old1 ) hZ (hw _ (List.mem_of_getElem? (i := 27) rfl)) (hw _ (List.mem_of_getElem? (i := 26) rfl)) (by decide) (by decide)) (g := (mkF m 40 #[.val (.int n), .val (.ref b1), .val (.int (3 : Int32)), .val (.int (3 : Int32)), .val (.ref a_GROUP_3)] [])) rfl (by rw [hml]; rfl) (argsL := []) (rest := []) (lenOf pd_4 rfl) rfl (by show 2 * 0 + _ ≤ _; exact Nat.le_of_eq rfl) (hb hby d1_40) (fun _ _ => ⟨rfl, e8, (by decide : 1 + 0 ≤ _), (by decide : 3 + 0 ≤ _)⟩)
  dsimp only [Pt.U, Pt.locs, Pt.cells, Pt.slots] at X9 l9 y9 z9 st9 hQ9
  subst l9 y9 z9
  obtain ⟨rfl, Nq9, e9⟩ := hQ9
  have N9 := Fr.app N1 Nq9
  refine Go.step st9 ?_
  show Go p e below _ (T9.setTop (mkF m 43 #[.val (.int n), .val (.ref b1), .val (.int (3 : Int32)), .val (.int (3 : Int32)), .val (.ref a_GROUP_3)] [(.ref a_EMPTY)]))
  refine Go.retR X9 hx Bd.returns rfl rfl Bd.notSynchronized (hb hby d1_43) (by rw [e9]; exact ⟨rfl, N9, kp1⟩) (by decide) (by decide)
theorem d5_0 : decode method_2_code 0 = .ok (.iload_n 0, 1) := by decide +kernel
theorem d5_1 : decode method_2_code 1 = .ok (.iconst 1, 1) := by decide +kernel
theorem d5_2 : decode method_2_code 2 = .ok (.if_icmp .ne 7, 3) := by decide +kernel
theorem d5_5 : decode method_2_code 5 = .ok (.getstatic 7, 3) := by decide +kernel
theorem d5_8 : decode method_2_code 8 = .ok (.areturn, 1) := by decide +kernel
theorem pn_3 : plainName "com/example/overcap/overcap/plans/ManagementGroupNumberedPinLaw" = true := by first | (simp [plainName, overriddenIn]; done) | decide +kernel
theorem ef_rm_exp1 (m : MethodId) (x0 : Int32)  : entryFrame m #[(.int x0)] 1 = mkF m 0 #[.val (.int x0)] [] := by first | (simp [entryFrame, mkF, argsToLocals, Value.category]; done) | rfl
def Q_rm_exp1 (Z : State) (a__VALUES : Addr) (a_GROUP_1 : Addr) (a_GROUP_2 : Addr) (a_GROUP_3 : Addr) (a_EMPTY : Addr) (ka__VALUES : ClassId)  (h0 : Heap) (n0 : Nat) (v : Option Value) (h : Heap) (L : List Loc) : Prop := v = some (.ref a_GROUP_1) ∧ Fr n0 L ∧ h = h0
set_option maxRecDepth 65536 in
set_option maxHeartbeats 40000000 in
theorem rm_exp1 (l : Launch) (Z : State) (a0 : Array Value) (hw : ∀ d ∈ tables_1, d.before a0 Z = true) (ws : List Jvm.Cond) (a__VALUES : Addr) (a_GROUP_1 : Addr) (a_GROUP_2 : Addr) (a_GROUP_3 : Addr) (a_EMPTY : Addr) (ka__VALUES : ClassId) (HW : Wd Z a__VALUES a_GROUP_1 a_GROUP_2 a_GROUP_3 a_EMPTY ka__VALUES)  (h0 : Heap) (n0 : Nat) (Ol : Old Z n0 h0)  :
    MetFree l (⟨"com/example/overcap/overcap/plans/ManagementGroupNumberedPinLaw", "expected", "(I)Lcom/example/overcap/overcap/plans/ManagementGroup;"⟩ : MethodName) (head1 (Jvm.Cond.code (⟨"com/example/overcap/overcap/plans/ManagementGroupNumberedPinLaw", "expected", "(I)Lcom/example/overcap/overcap/plans/ManagementGroup;"⟩ : MethodName) method_2_code 1 (some (.object "com/example/overcap/overcap/plans/ManagementGroup")) :: ws) ({ frames := 0, cells := 0, slots := 0, locals := 0 } : Room)) (fun a_ U_ => a_ = #[(.int (1 : Int32))] ∧ Z.Warmed39 U_.vm ∧ U_.heap = h0) (fun _ _ _ _ _ => True) (fun _ U_ o_ V_ => ∃ v_ L_, o_ = .returned v_ ∧ Q_rm_exp1 Z a__VALUES a_GROUP_1 a_GROUP_2 a_GROUP_3 a_EMPTY ka__VALUES  h0 n0 v_ V_.heap L_ ∧ FrameEnd U_ o_ V_ L_ ({ frames := 0, cells := 0, slots := 0, locals := 0 } : Room).cells ({ frames := 0, cells := 0, slots := 0, locals := 0 } : Room).slots) := by
  refine MetFree.of_bodySF (plainFor_of_name pn_3) hisR ?_
  intro p e s m args below meth c s₁ Bd hml0 hP hK
  obtain ⟨rfl, hZ, hh⟩ := hP
  have hx := Bd.exec
  have hby := Bd.bytes
  have hml : c.maxLocals = 1 := hml0
  have hown : s.vm.findClass "com/example/overcap/overcap/plans/ManagementGroupNumberedPinLaw" = some m.cls := findClass_of_methodNamed Bd.named
  have hnm := (name_of_methodNamed Bd.named Bd.method).1
  have X0 : Stand p l e ({ frames := 0, cells := 0, slots := 0, locals := 0 } : Room) s m #[(.int (1 : Int32))] below meth c s₁ [] 0 0 := Stand.of_body Bd
  have e0 : s₁.heap = h0 := by rw [← hh, Bd.state]; rfl
  have N0 := Fr.nil n0
  have kp0 := Keep.refl h0 []
  show Go p e below (Fin1 s below (Q_rm_exp1 Z a__VALUES a_GROUP_1 a_GROUP_2 a_GROUP_3 a_EMPTY ka__VALUES  h0 n0) ({ frames := 0, cells := 0, slots := 0, locals := 0 } : Room).cells ({ frames := 0, cells := 0, slots := 0, locals := 0 } : Room).slots) _
  refine Go.step (fun t_ k_ => castTop (ef_rm_exp1 m (1 : Int32)) k_) ?_
  obtain ⟨Ea__VALUES, Sa__VALUES, Ea_GROUP_1, Sa_GROUP_1, Ea_GROUP_2, Sa_GROUP_2, Ea_GROUP_3, Sa_GROUP_3, Ea_EMPTY, Sa_EMPTY, Fa_GROUP_1_number, Fa_GROUP_2_number, Fa_GROUP_3_number, Fa_EMPTY_value, Aa__VALUES⟩ := id HW
  show Go p e below _ (s₁.setTop (mkF m 0 #[.val (.int (1 : Int32))] []))
  refine Go.step (fun t_ k_ => XS.iloadN X0.here hx rfl (hb hby d5_0) rfl k_) ?_
  show Go p e below _ (s₁.setTop (mkF m 1 #[.val (.int (1 : Int32))] [(.int (1 : Int32))]))
  refine Go.step (fun t_ k_ => XS.iconst X0.here hx rfl (hb hby d5_1) k_) ?_
  show Go p e below _ (s₁.setTop (mkF m 2 #[.val (.int (1 : Int32))] [(.int (1 : Int32)), (.int (1 : Int32))]))
  have hc2 : (1 : Int32) = (1 : Int32) := by decide
  refine Go.step (fun t_ k_ => XS.icmpNo X0.here hx rfl (hb hby d5_2) rfl (teq hc2).2 k_) ?_
  show Go p e below _ (s₁.setTop (mkF m 5 #[.val (.int (1 : Int32))] []))
  obtain ⟨T1, X1, e1, st1⟩ := getS2 X0 hx hZ hown (host := "") (Or.inl (hw _ (List.mem_of_getElem? (i := 64) rfl))) Via.refl e0 (Sa_GROUP_1.ext Ol.2) (g := (mkF m 5 #[.val (.int (1 : Int32))] [])) rfl (hb hby d5_5)
  refine Go.step st1 ?_
  show Go p e below _ (T1.setTop (mkF m 8 #[.val (.int (1 : Int32))] [(.ref a_GROUP_1)]))
  refine Go.retR X1 hx Bd.returns rfl rfl Bd.notSynchronized (hb hby d5_8) (by rw [e1]; exact ⟨rfl, N0, rfl⟩) (by decide) (by decide)
theorem d5_9 : decode method_2_code 9 = .ok (.iload_n 0, 1) := by decide +kernel
theorem d5_10 : decode method_2_code 10 = .ok (.iconst 2, 1) := by decide +kernel
theorem d5_11 : decode method_2_code 11 = .ok (.if_icmp .ne 7, 3) := by decide +kernel
theorem d5_14 : decode method_2_code 14 = .ok (.getstatic 13, 3) := by decide +kernel
theorem d5_17 : decode method_2_code 17 = .ok (.areturn, 1) := by decide +kernel
theorem ef_rm_exp2 (m : MethodId) (x0 : Int32)  : entryFrame m #[(.int x0)] 1 = mkF m 0 #[.val (.int x0)] [] := by first | (simp [entryFrame, mkF, argsToLocals, Value.category]; done) | rfl
def Q_rm_exp2 (Z : State) (a__VALUES : Addr) (a_GROUP_1 : Addr) (a_GROUP_2 : Addr) (a_GROUP_3 : Addr) (a_EMPTY : Addr) (ka__VALUES : ClassId)  (h0 : Heap) (n0 : Nat) (v : Option Value) (h : Heap) (L : List Loc) : Prop := v = some (.ref a_GROUP_2) ∧ Fr n0 L ∧ h = h0
set_option maxRecDepth 65536 in
set_option maxHeartbeats 40000000 in
theorem rm_exp2 (l : Launch) (Z : State) (a0 : Array Value) (hw : ∀ d ∈ tables_1, d.before a0 Z = true) (ws : List Jvm.Cond) (a__VALUES : Addr) (a_GROUP_1 : Addr) (a_GROUP_2 : Addr) (a_GROUP_3 : Addr) (a_EMPTY : Addr) (ka__VALUES : ClassId) (HW : Wd Z a__VALUES a_GROUP_1 a_GROUP_2 a_GROUP_3 a_EMPTY ka__VALUES)  (h0 : Heap) (n0 : Nat) (Ol : Old Z n0 h0)  :
    MetFree l (⟨"com/example/overcap/overcap/plans/ManagementGroupNumberedPinLaw", "expected", "(I)Lcom/example/overcap/overcap/plans/ManagementGroup;"⟩ : MethodName) (head1 (Jvm.Cond.code (⟨"com/example/overcap/overcap/plans/ManagementGroupNumberedPinLaw", "expected", "(I)Lcom/example/overcap/overcap/plans/ManagementGroup;"⟩ : MethodName) method_2_code 1 (some (.object "com/example/overcap/overcap/plans/ManagementGroup")) :: ws) ({ frames := 0, cells := 0, slots := 0, locals := 0 } : Room)) (fun a_ U_ => a_ = #[(.int (2 : Int32))] ∧ Z.Warmed39 U_.vm ∧ U_.heap = h0) (fun _ _ _ _ _ => True) (fun _ U_ o_ V_ => ∃ v_ L_, o_ = .returned v_ ∧ Q_rm_exp2 Z a__VALUES a_GROUP_1 a_GROUP_2 a_GROUP_3 a_EMPTY ka__VALUES  h0 n0 v_ V_.heap L_ ∧ FrameEnd U_ o_ V_ L_ ({ frames := 0, cells := 0, slots := 0, locals := 0 } : Room).cells ({ frames := 0, cells := 0, slots := 0, locals := 0 } : Room).slots) := by
  refine MetFree.of_bodySF (plainFor_of_name pn_3) hisR ?_
  intro p e s m args below meth c s₁ Bd hml0 hP hK
  obtain ⟨rfl, hZ, hh⟩ := hP
  have hx := Bd.exec
  have hby := Bd.bytes
  have hml : c.maxLocals = 1 := hml0
  have hown : s.vm.findClass "com/example/overcap/overcap/plans/ManagementGroupNumberedPinLaw" = some m.cls := findClass_of_methodNamed Bd.named
  have hnm := (name_of_methodNamed Bd.named Bd.method).1
  have X0 : Stand p l e ({ frames := 0, cells := 0, slots := 0, locals := 0 } : Room) s m #[(.int (2 : Int32))] below meth c s₁ [] 0 0 := Stand.of_body Bd
  have e0 : s₁.heap = h0 := by rw [← hh, Bd.state]; rfl
  have N0 := Fr.nil n0
  have kp0 := Keep.refl h0 []
  show Go p e below (Fin1 s below (Q_rm_exp2 Z a__VALUES a_GROUP_1 a_GROUP_2 a_GROUP_3 a_EMPTY ka__VALUES  h0 n0) ({ frames := 0, cells := 0, slots := 0, locals := 0 } : Room).cells ({ frames := 0, cells := 0, slots := 0, locals := 0 } : Room).slots) _
  refine Go.step (fun t_ k_ => castTop (ef_rm_exp2 m (2 : Int32)) k_) ?_
  obtain ⟨Ea__VALUES, Sa__VALUES, Ea_GROUP_1, Sa_GROUP_1, Ea_GROUP_2, Sa_GROUP_2, Ea_GROUP_3, Sa_GROUP_3, Ea_EMPTY, Sa_EMPTY, Fa_GROUP_1_number, Fa_GROUP_2_number, Fa_GROUP_3_number, Fa_EMPTY_value, Aa__VALUES⟩ := id HW
  show Go p e below _ (s₁.setTop (mkF m 0 #[.val (.int (2 : Int32))] []))
  refine Go.step (fun t_ k_ => XS.iloadN X0.here hx rfl (hb hby d5_0) rfl k_) ?_
  show Go p e below _ (s₁.setTop (mkF m 1 #[.val (.int (2 : Int32))] [(.int (2 : Int32))]))
  refine Go.step (fun t_ k_ => XS.iconst X0.here hx rfl (hb hby d5_1) k_) ?_
  show Go p e below _ (s₁.setTop (mkF m 2 #[.val (.int (2 : Int32))] [(.int (1 : Int32)), (.int (2 : Int32))]))
  have hc2 : ¬ ((2 : Int32) = (1 : Int32)) := by decide
  refine Go.step (fun t_ k_ => XS.icmpYes X0.here hx rfl (pc0 := 2) (pc' := 9) rfl (hb hby d5_2) rfl (feq hc2).2 (by decide) (by decide) k_) ?_
  show Go p e below _ (s₁.setTop (mkF m 9 #[.val (.int (2 : Int32))] []))
  refine Go.step (fun t_ k_ => XS.iloadN X0.here hx rfl (hb hby d5_9) rfl k_) ?_
  show Go p e below _ (s₁.setTop (mkF m 10 #[.val (.int (2 : Int32))] [(.int (2 : Int32))]))
  refine Go.step (fun t_ k_ => XS.iconst X0.here hx rfl (hb hby d5_10) k_) ?_
  show Go p e below _ (s₁.setTop (mkF m 11 #[.val (.int (2 : Int32))] [(.int (2 : Int32)), (.int (2 : Int32))]))
  have hc11 : (2 : Int32) = (2 : Int32) := by decide
  refine Go.step (fun t_ k_ => XS.icmpNo X0.here hx rfl (hb hby d5_11) rfl (teq hc11).2 k_) ?_
  show Go p e below _ (s₁.setTop (mkF m 14 #[.val (.int (2 : Int32))] []))
  obtain ⟨T1, X1, e1, st1⟩ := getS2 X0 hx hZ hown (host := "") (Or.inl (hw _ (List.mem_of_getElem? (i := 58) rfl))) Via.refl e0 (Sa_GROUP_2.ext Ol.2) (g := (mkF m 14 #[.val (.int (2 : Int32))] [])) rfl (hb hby d5_14)
  refine Go.step st1 ?_
  show Go p e below _ (T1.setTop (mkF m 17 #[.val (.int (2 : Int32))] [(.ref a_GROUP_2)]))
  refine Go.retR X1 hx Bd.returns rfl rfl Bd.notSynchronized (hb hby d5_17) (by rw [e1]; exact ⟨rfl, N0, rfl⟩) (by decide) (by decide)
theorem d5_18 : decode method_2_code 18 = .ok (.iload_n 0, 1) := by decide +kernel
theorem d5_19 : decode method_2_code 19 = .ok (.iconst 3, 1) := by decide +kernel
theorem d5_20 : decode method_2_code 20 = .ok (.if_icmp .ne 7, 3) := by decide +kernel
theorem d5_23 : decode method_2_code 23 = .ok (.getstatic 16, 3) := by decide +kernel
theorem d5_26 : decode method_2_code 26 = .ok (.areturn, 1) := by decide +kernel
theorem ef_rm_exp3 (m : MethodId) (x0 : Int32)  : entryFrame m #[(.int x0)] 1 = mkF m 0 #[.val (.int x0)] [] := by first | (simp [entryFrame, mkF, argsToLocals, Value.category]; done) | rfl
def Q_rm_exp3 (Z : State) (a__VALUES : Addr) (a_GROUP_1 : Addr) (a_GROUP_2 : Addr) (a_GROUP_3 : Addr) (a_EMPTY : Addr) (ka__VALUES : ClassId)  (h0 : Heap) (n0 : Nat) (v : Option Value) (h : Heap) (L : List Loc) : Prop := v = some (.ref a_GROUP_3) ∧ Fr n0 L ∧ h = h0
set_option maxRecDepth 65536 in
set_option maxHeartbeats 40000000 in
theorem rm_exp3 (l : Launch) (Z : State) (a0 : Array Value) (hw : ∀ d ∈ tables_1, d.before a0 Z = true) (ws : List Jvm.Cond) (a__VALUES : Addr) (a_GROUP_1 : Addr) (a_GROUP_2 : Addr) (a_GROUP_3 : Addr) (a_EMPTY : Addr) (ka__VALUES : ClassId) (HW : Wd Z a__VALUES a_GROUP_1 a_GROUP_2 a_GROUP_3 a_EMPTY ka__VALUES)  (h0 : Heap) (n0 : Nat) (Ol : Old Z n0 h0)  :
    MetFree l (⟨"com/example/overcap/overcap/plans/ManagementGroupNumberedPinLaw", "expected", "(I)Lcom/example/overcap/overcap/plans/ManagementGroup;"⟩ : MethodName) (head1 (Jvm.Cond.code (⟨"com/example/overcap/overcap/plans/ManagementGroupNumberedPinLaw", "expected", "(I)Lcom/example/overcap/overcap/plans/ManagementGroup;"⟩ : MethodName) method_2_code 1 (some (.object "com/example/overcap/overcap/plans/ManagementGroup")) :: ws) ({ frames := 0, cells := 0, slots := 0, locals := 0 } : Room)) (fun a_ U_ => a_ = #[(.int (3 : Int32))] ∧ Z.Warmed39 U_.vm ∧ U_.heap = h0) (fun _ _ _ _ _ => True) (fun _ U_ o_ V_ => ∃ v_ L_, o_ = .returned v_ ∧ Q_rm_exp3 Z a__VALUES a_GROUP_1 a_GROUP_2 a_GROUP_3 a_EMPTY ka__VALUES  h0 n0 v_ V_.heap L_ ∧ FrameEnd U_ o_ V_ L_ ({ frames := 0, cells := 0, slots := 0, locals := 0 } : Room).cells ({ frames := 0, cells := 0, slots := 0, locals := 0 } : Room).slots) := by
  refine MetFree.of_bodySF (plainFor_of_name pn_3) hisR ?_
  intro p e s m args below meth c s₁ Bd hml0 hP hK
  obtain ⟨rfl, hZ, hh⟩ := hP
  have hx := Bd.exec
  have hby := Bd.bytes
  have hml : c.maxLocals = 1 := hml0
  have hown : s.vm.findClass "com/example/overcap/overcap/plans/ManagementGroupNumberedPinLaw" = some m.cls := findClass_of_methodNamed Bd.named
  have hnm := (name_of_methodNamed Bd.named Bd.method).1
  have X0 : Stand p l e ({ frames := 0, cells := 0, slots := 0, locals := 0 } : Room) s m #[(.int (3 : Int32))] below meth c s₁ [] 0 0 := Stand.of_body Bd
  have e0 : s₁.heap = h0 := by rw [← hh, Bd.state]; rfl
  have N0 := Fr.nil n0
  have kp0 := Keep.refl h0 []
  show Go p e below (Fin1 s below (Q_rm_exp3 Z a__VALUES a_GROUP_1 a_GROUP_2 a_GROUP_3 a_EMPTY ka__VALUES  h0 n0) ({ frames := 0, cells := 0, slots := 0, locals := 0 } : Room).cells ({ frames := 0, cells := 0, slots := 0, locals := 0 } : Room).slots) _
  refine Go.step (fun t_ k_ => castTop (ef_rm_exp3 m (3 : Int32)) k_) ?_
  obtain ⟨Ea__VALUES, Sa__VALUES, Ea_GROUP_1, Sa_GROUP_1, Ea_GROUP_2, Sa_GROUP_2, Ea_GROUP_3, Sa_GROUP_3, Ea_EMPTY, Sa_EMPTY, Fa_GROUP_1_number, Fa_GROUP_2_number, Fa_GROUP_3_number, Fa_EMPTY_value, Aa__VALUES⟩ := id HW
  show Go p e below _ (s₁.setTop (mkF m 0 #[.val (.int (3 : Int32))] []))
  refine Go.step (fun t_ k_ => XS.iloadN X0.here hx rfl (hb hby d5_0) rfl k_) ?_
  show Go p e below _ (s₁.setTop (mkF m 1 #[.val (.int (3 : Int32))] [(.int (3 : Int32))]))
  refine Go.step (fun t_ k_ => XS.iconst X0.here hx rfl (hb hby d5_1) k_) ?_
  show Go p e below _ (s₁.setTop (mkF m 2 #[.val (.int (3 : Int32))] [(.int (1 : Int32)), (.int (3 : Int32))]))
  have hc2 : ¬ ((3 : Int32) = (1 : Int32)) := by decide
  refine Go.step (fun t_ k_ => XS.icmpYes X0.here hx rfl (pc0 := 2) (pc' := 9) rfl (hb hby d5_2) rfl (feq hc2).2 (by decide) (by decide) k_) ?_
  show Go p e below _ (s₁.setTop (mkF m 9 #[.val (.int (3 : Int32))] []))
  refine Go.step (fun t_ k_ => XS.iloadN X0.here hx rfl (hb hby d5_9) rfl k_) ?_
  show Go p e below _ (s₁.setTop (mkF m 10 #[.val (.int (3 : Int32))] [(.int (3 : Int32))]))
  refine Go.step (fun t_ k_ => XS.iconst X0.here hx rfl (hb hby d5_10) k_) ?_
  show Go p e below _ (s₁.setTop (mkF m 11 #[.val (.int (3 : Int32))] [(.int (2 : Int32)), (.int (3 : Int32))]))
  have hc11 : ¬ ((3 : Int32) = (2 : Int32)) := by decide
  refine Go.step (fun t_ k_ => XS.icmpYes X0.here hx rfl (pc0 := 11) (pc' := 18) rfl (hb hby d5_11) rfl (feq hc11).2 (by decide) (by decide) k_) ?_
  show Go p e below _ (s₁.setTop (mkF m 18 #[.val (.int (3 : Int32))] []))
  refine Go.step (fun t_ k_ => XS.iloadN X0.here hx rfl (hb hby d5_18) rfl k_) ?_
  show Go p e below _ (s₁.setTop (mkF m 19 #[.val (.int (3 : Int32))] [(.int (3 : Int32))]))
  refine Go.step (fun t_ k_ => XS.iconst X0.here hx rfl (hb hby d5_19) k_) ?_
  show Go p e below _ (s₁.setTop (mkF m 20 #[.val (.int (3 : Int32))] [(.int (3 : Int32)), (.int (3 : Int32))]))
  have hc20 : (3 : Int32) = (3 : Int32) := by decide
  refine Go.step (fun t_ k_ => XS.icmpNo X0.here hx rfl (hb hby d5_20) rfl (teq hc20).2 k_) ?_
  show Go p e below _ (s₁.setTop (mkF m 23 #[.val (.int (3 : Int32))] []))
  obtain ⟨T1, X1, e1, st1⟩ := getS2 X0 hx hZ hown (host := "") (Or.inl (hw _ (List.mem_of_getElem? (i := 65) rfl))) Via.refl e0 (Sa_GROUP_3.ext Ol.2) (g := (mkF m 23 #[.val (.int (3 : Int32))] [])) rfl (hb hby d5_23)
  refine Go.step st1 ?_
  show Go p e below _ (T1.setTop (mkF m 26 #[.val (.int (3 : Int32))] [(.ref a_GROUP_3)]))
  refine Go.retR X1 hx Bd.returns rfl rfl Bd.notSynchronized (hb hby d5_26) (by rw [e1]; exact ⟨rfl, N0, rfl⟩) (by decide) (by decide)
theorem d5_27 : decode method_2_code 27 = .ok (.aconst_null, 1) := by decide +kernel
theorem d5_28 : decode method_2_code 28 = .ok (.areturn, 1) := by decide +kernel
theorem ef_rm_exp0 (m : MethodId) (x0 : Int32)  : entryFrame m #[(.int x0)] 1 = mkF m 0 #[.val (.int x0)] [] := by first | (simp [entryFrame, mkF, argsToLocals, Value.category]; done) | rfl
def Q_rm_exp0 (Z : State) (a__VALUES : Addr) (a_GROUP_1 : Addr) (a_GROUP_2 : Addr) (a_GROUP_3 : Addr) (a_EMPTY : Addr) (ka__VALUES : ClassId) (n : Int32) (h0 : Heap) (n0 : Nat) (v : Option Value) (h : Heap) (L : List Loc) : Prop := v = some .null ∧ Fr n0 L ∧ h = h0
set_option maxRecDepth 65536 in
set_option maxHeartbeats 40000000 in
theorem rm_exp0 (l : Launch) (Z : State) (a0 : Array Value) (hw : ∀ d ∈ tables_1, d.before a0 Z = true) (ws : List Jvm.Cond) (a__VALUES : Addr) (a_GROUP_1 : Addr) (a_GROUP_2 : Addr) (a_GROUP_3 : Addr) (a_EMPTY : Addr) (ka__VALUES : ClassId) (HW : Wd Z a__VALUES a_GROUP_1 a_GROUP_2 a_GROUP_3 a_EMPTY ka__VALUES) (n : Int32) (h0 : Heap) (n0 : Nat) (Ol : Old Z n0 h0) (hn1 : ¬ n = (1 : Int32)) (hn2 : ¬ n = (2 : Int32)) (hn3 : ¬ n = (3 : Int32)) :
    MetFree l (⟨"com/example/overcap/overcap/plans/ManagementGroupNumberedPinLaw", "expected", "(I)Lcom/example/overcap/overcap/plans/ManagementGroup;"⟩ : MethodName) (head1 (Jvm.Cond.code (⟨"com/example/overcap/overcap/plans/ManagementGroupNumberedPinLaw", "expected", "(I)Lcom/example/overcap/overcap/plans/ManagementGroup;"⟩ : MethodName) method_2_code 1 (some (.object "com/example/overcap/overcap/plans/ManagementGroup")) :: ws) ({ frames := 0, cells := 0, slots := 0, locals := 0 } : Room)) (fun a_ U_ => a_ = #[(.int n)] ∧ Z.Warmed39 U_.vm ∧ U_.heap = h0) (fun _ _ _ _ _ => True) (fun _ U_ o_ V_ => ∃ v_ L_, o_ = .returned v_ ∧ Q_rm_exp0 Z a__VALUES a_GROUP_1 a_GROUP_2 a_GROUP_3 a_EMPTY ka__VALUES n h0 n0 v_ V_.heap L_ ∧ FrameEnd U_ o_ V_ L_ ({ frames := 0, cells := 0, slots := 0, locals := 0 } : Room).cells ({ frames := 0, cells := 0, slots := 0, locals := 0 } : Room).slots) := by
  refine MetFree.of_bodySF (plainFor_of_name pn_3) hisR ?_
  intro p e s m args below meth c s₁ Bd hml0 hP hK
  obtain ⟨rfl, hZ, hh⟩ := hP
  have hx := Bd.exec
  have hby := Bd.bytes
  have hml : c.maxLocals = 1 := hml0
  have hown : s.vm.findClass "com/example/overcap/overcap/plans/ManagementGroupNumberedPinLaw" = some m.cls := findClass_of_methodNamed Bd.named
  have hnm := (name_of_methodNamed Bd.named Bd.method).1
  have X0 : Stand p l e ({ frames := 0, cells := 0, slots := 0, locals := 0 } : Room) s m #[(.int n)] below meth c s₁ [] 0 0 := Stand.of_body Bd
  have e0 : s₁.heap = h0 := by rw [← hh, Bd.state]; rfl
  have N0 := Fr.nil n0
  have kp0 := Keep.refl h0 []
  show Go p e below (Fin1 s below (Q_rm_exp0 Z a__VALUES a_GROUP_1 a_GROUP_2 a_GROUP_3 a_EMPTY ka__VALUES n h0 n0) ({ frames := 0, cells := 0, slots := 0, locals := 0 } : Room).cells ({ frames := 0, cells := 0, slots := 0, locals := 0 } : Room).slots) _
  refine Go.step (fun t_ k_ => castTop (ef_rm_exp0 m n) k_) ?_
  obtain ⟨Ea__VALUES, Sa__VALUES, Ea_GROUP_1, Sa_GROUP_1, Ea_GROUP_2, Sa_GROUP_2, Ea_GROUP_3, Sa_GROUP_3, Ea_EMPTY, Sa_EMPTY, Fa_GROUP_1_number, Fa_GROUP_2_number, Fa_GROUP_3_number, Fa_EMPTY_value, Aa__VALUES⟩ := id HW
  show Go p e below _ (s₁.setTop (mkF m 0 #[.val (.int n)] []))
  refine Go.step (fun t_ k_ => XS.iloadN X0.here hx rfl (hb hby d5_0) rfl k_) ?_
  show Go p e below _ (s₁.setTop (mkF m 1 #[.val (.int n)] [(.int n)]))
  refine Go.step (fun t_ k_ => XS.iconst X0.here hx rfl (hb hby d5_1) k_) ?_
  show Go p e below _ (s₁.setTop (mkF m 2 #[.val (.int n)] [(.int (1 : Int32)), (.int n)]))
  have hc2 : ¬ (n = (1 : Int32)) := hn1
  refine Go.step (fun t_ k_ => XS.icmpYes X0.here hx rfl (pc0 := 2) (pc' := 9) rfl (hb hby d5_2) rfl (feq hc2).2 (by decide) (by decide) k_) ?_
  show Go p e below _ (s₁.setTop (mkF m 9 #[.val (.int n)] []))
  refine Go.step (fun t_ k_ => XS.iloadN X0.here hx rfl (hb hby d5_9) rfl k_) ?_
  show Go p e below _ (s₁.setTop (mkF m 10 #[.val (.int n)] [(.int n)]))
  refine Go.step (fun t_ k_ => XS.iconst X0.here hx rfl (hb hby d5_10) k_) ?_
  show Go p e below _ (s₁.setTop (mkF m 11 #[.val (.int n)] [(.int (2 : Int32)), (.int n)]))
  have hc11 : ¬ (n = (2 : Int32)) := hn2
  refine Go.step (fun t_ k_ => XS.icmpYes X0.here hx rfl (pc0 := 11) (pc' := 18) rfl (hb hby d5_11) rfl (feq hc11).2 (by decide) (by decide) k_) ?_
  show Go p e below _ (s₁.setTop (mkF m 18 #[.val (.int n)] []))
  refine Go.step (fun t_ k_ => XS.iloadN X0.here hx rfl (hb hby d5_18) rfl k_) ?_
  show Go p e below _ (s₁.setTop (mkF m 19 #[.val (.int n)] [(.int n)]))
  refine Go.step (fun t_ k_ => XS.iconst X0.here hx rfl (hb hby d5_19) k_) ?_
  show Go p e below _ (s₁.setTop (mkF m 20 #[.val (.int n)] [(.int (3 : Int32)), (.int n)]))
  have hc20 : ¬ (n = (3 : Int32)) := hn3
  refine Go.step (fun t_ k_ => XS.icmpYes X0.here hx rfl (pc0 := 20) (pc' := 27) rfl (hb hby d5_20) rfl (feq hc20).2 (by decide) (by decide) k_) ?_
  show Go p e below _ (s₁.setTop (mkF m 27 #[.val (.int n)] []))
  refine Go.step (fun t_ k_ => XS.aconstNull X0.here hx rfl (hb hby d5_27) k_) ?_
  show Go p e below _ (s₁.setTop (mkF m 28 #[.val (.int n)] [.null]))
  refine Go.retR X0 hx Bd.returns rfl rfl Bd.notSynchronized (hb hby d5_28) (by rw [e0]; exact ⟨rfl, N0, rfl⟩) (by decide) (by decide)
theorem four (n : Int32) : n = (1 : Int32) ∨ n = (2 : Int32) ∨ n = (3 : Int32) ∨ (¬ n = (1 : Int32) ∧ ¬ n = (2 : Int32) ∧ ¬ n = (3 : Int32)) := by
  by_cases h1 : n = (1 : Int32)
  · exact Or.inl h1
  · by_cases h2 : n = (2 : Int32)
    · exact Or.inr (Or.inl h2)
    · by_cases h3 : n = (3 : Int32)
      · exact Or.inr (Or.inr (Or.inl h3))
      · exact Or.inr (Or.inr (Or.inr ⟨h1, h2, h3⟩))
theorem pd_5 : parseMethodDescriptor "(I)Ljava/util/Optional;" = some ⟨[.int], some (.object "java/util/Optional")⟩ := by decide +kernel
theorem pd_6 : parseMethodDescriptor "(I)Lcom/example/overcap/overcap/plans/ManagementGroup;" = some ⟨[.int], some (.object "com/example/overcap/overcap/plans/ManagementGroup")⟩ := by decide +kernel
theorem pd_7 : parseMethodDescriptor "()I" = some ⟨[], some .int⟩ := by decide +kernel
theorem ef_rm0 (m : MethodId) (x0 : Int32) (x1 : Int32)  : entryFrame m #[(.int x0), (.int x1)] maxLocals = mkF m 0 #[.val (.int x0), .val (.int x1), .unset, .unset, .unset] [] := by first | (simp [entryFrame, mkF, argsToLocals, Value.category, maxLocals]; done) | rfl
def Q_rm0 (Z : State) (a__VALUES : Addr) (a_GROUP_1 : Addr) (a_GROUP_2 : Addr) (a_GROUP_3 : Addr) (a_EMPTY : Addr) (ka__VALUES : ClassId) (p1 p2 : Int32) (h0 : Heap) (n0 : Nat) (v : Option Value) (h : Heap) (L : List Loc) : Prop := v = some (.int 1) ∧ Fr n0 L
set_option maxRecDepth 65536 in
set_option maxHeartbeats 40000000 in
theorem rm0 (l : Launch) (Z : State) (a0 : Array Value) (hw : ∀ d ∈ tables_1, d.before a0 Z = true) (ws : List Jvm.Cond) (a__VALUES : Addr) (a_GROUP_1 : Addr) (a_GROUP_2 : Addr) (a_GROUP_3 : Addr) (a_EMPTY : Addr) (ka__VALUES : ClassId) (HW : Wd Z a__VALUES a_GROUP_1 a_GROUP_2 a_GROUP_3 a_EMPTY ka__VALUES) (p1 p2 : Int32) (h0 : Heap) (n0 : Nat) (Ol : Old Z n0 h0)  :
    MetFree l x (head1 (Jvm.Cond.code x code maxLocals ret :: ws) room_1) (fun a_ U_ => a_ = #[(.int p1), (.int p2)] ∧ Z.Warmed39 U_.vm ∧ U_.heap = h0) (fun _ _ _ _ _ => True) (fun _ U_ o_ V_ => ∃ v_ L_, o_ = .returned v_ ∧ Q_rm0 Z a__VALUES a_GROUP_1 a_GROUP_2 a_GROUP_3 a_EMPTY ka__VALUES p1 p2 h0 n0 v_ V_.heap L_ ∧ FrameEnd U_ o_ V_ L_ room_1.cells room_1.slots) := by
  refine MetFree.of_bodySF (plainFor_of_name pn_3) hisR ?_
  intro p e s m args below meth c s₁ Bd hml0 hP hK
  obtain ⟨rfl, hZ, hh⟩ := hP
  have hx := Bd.exec
  have hby := Bd.bytes
  have hml : c.maxLocals = 5 := hml0
  have hown : s.vm.findClass "com/example/overcap/overcap/plans/ManagementGroupNumberedPinLaw" = some m.cls := findClass_of_methodNamed Bd.named
  have hnm := (name_of_methodNamed Bd.named Bd.method).1
  have X0 : Stand p l e room_1 s m #[(.int p1), (.int p2)] below meth c s₁ [] 0 0 := Stand.of_body Bd
  have e0 : s₁.heap = h0 := by rw [← hh, Bd.state]; rfl
  have N0 := Fr.nil n0
  have kp0 := Keep.refl h0 []
  show Go p e below (Fin1 s below (Q_rm0 Z a__VALUES a_GROUP_1 a_GROUP_2 a_GROUP_3 a_EMPTY ka__VALUES p1 p2 h0 n0) room_1.cells room_1.slots) _
  refine Go.step (fun t_ k_ => castTop (ef_rm0 m p1 p2) k_) ?_
  obtain ⟨Ea__VALUES, Sa__VALUES, Ea_GROUP_1, Sa_GROUP_1, Ea_GROUP_2, Sa_GROUP_2, Ea_GROUP_3, Sa_GROUP_3, Ea_EMPTY, Sa_EMPTY, Fa_GROUP_1_number, Fa_GROUP_2_number, Fa_GROUP_3_number, Fa_EMPTY_value, Aa__VALUES⟩ := id HW
  show Go p e below _ (s₁.setTop (mkF m 0 #[.val (.int p1), .val (.int p2), .unset, .unset, .unset] []))
  refine Go.step (fun t_ k_ => XS.iloadN X0.here hx rfl (hb hby at_0) rfl k_) ?_
  show Go p e below _ (s₁.setTop (mkF m 1 #[.val (.int p1), .val (.int p2), .unset, .unset, .unset] [(.int p2)]))
  refine Go.step (fun t_ k_ => XS.iconst X0.here hx rfl (hb hby at_1) k_) ?_
  show Go p e below _ (s₁.setTop (mkF m 2 #[.val (.int p1), .val (.int p2), .unset, .unset, .unset] [(.int (1 : Int32)), (.int p2)]))
  refine Go.step (fun t_ k_ => XS.iand X0.here hx rfl (hb hby at_2) rfl k_) ?_
  show Go p e below _ (s₁.setTop (mkF m 3 #[.val (.int p1), .val (.int p2), .unset, .unset, .unset] [(.int (p2 &&& (1 : Int32)))]))
  by_cases hc3 : (p2 &&& (1 : Int32)) = (0 : Int32)
  case pos =>
    refine Go.step (fun t_ k_ => XS.ifYes X0.here hx rfl (pc0 := 3) (pc' := 12) rfl (hb hby at_3) rfl ((if0 _ _).trans (teq hc3).1) (by decide) (by decide) k_) ?_
    show Go p e below _ (s₁.setTop (mkF m 12 #[.val (.int p1), .val (.int p2), .unset, .unset, .unset] []))
    refine Go.step (fun t_ k_ => XS.iloadN X0.here hx rfl (hb hby at_12) rfl k_) ?_
    show Go p e below _ (s₁.setTop (mkF m 13 #[.val (.int p1), .val (.int p2), .unset, .unset, .unset] [(.int p1)]))
    refine Go.step (fun t_ k_ => XS.istoreN X0.here hx rfl (hb hby at_13) rfl (l' := #[.val (.int p1), .val (.int p2), .val (.int p1), .unset, .unset]) rfl k_) ?_
    show Go p e below _ (s₁.setTop (mkF m 14 #[.val (.int p1), .val (.int p2), .val (.int p1), .unset, .unset] []))
    rcases four p1 with rfl | rfl | rfl | ⟨h_n1, h_n2, h_n3⟩
    next =>
      show Go p e below _ (s₁.setTop (mkF m 14 #[.val (.int (1 : Int32)), .val (.int p2), .val (.int (1 : Int32)), .unset, .unset] []))
      refine Go.step (fun t_ k_ => XS.iloadN X0.here hx rfl (hb hby at_14) rfl k_) ?_
      show Go p e below _ (s₁.setTop (mkF m 15 #[.val (.int (1 : Int32)), .val (.int p2), .val (.int (1 : Int32)), .unset, .unset] [(.int (1 : Int32))]))
      obtain ⟨_, _, ⟨T1, L1, k1, n1⟩, -, X1, ⟨Lc1, hQ1, l1, y1, z1⟩, st1⟩ := Jvm.LawKit.callS X0 hx (y := (⟨"com/example/overcap/overcap/plans/ManagementGroup", "numbered", "(I)Ljava/util/Optional;"⟩ : MethodName)) hown (mvT hZ (hw _ (List.mem_of_getElem? (i := 0) rfl))) (mvT hZ (hw _ (List.mem_of_getElem? (i := 1) rfl))) (mvT hZ (hw _ (List.mem_of_getElem? (i := 2) rfl))) (mvT hZ (hw _ (List.mem_of_getElem? (i := 3) rfl))) (by decide) (backOf (W := 0) (rm_num1 l Z a0 hw [] a__VALUES a_GROUP_1 a_GROUP_2 a_GROUP_3 a_EMPTY ka__VALUES HW  h0 n0 Ol ) hZ (hw _ (List.mem_of_getElem? (i := 3) rfl)) (hw _ (List.mem_of_getElem? (i := 2) rfl)) (by decide) (by decide)) (g := (mkF m 15 #[.val (.int (1 : Int32)), .val (.int p2), .val (.int (1 : Int32)), .unset, .unset] [(.int (1 : Int32))])) rfl (by rw [hml]; rfl) (argsL := [(.int (1 : Int32))]) (rest := []) (lenOf pd_5 rfl) rfl (by show 2 * 0 + _ ≤ _; exact Nat.le_of_eq rfl) (hb hby at_15) (fun _ _ => ⟨rfl, e0, (by decide : 0 + 2 ≤ _), (by decide : 0 + 4 ≤ _)⟩)
      dsimp only [Pt.U, Pt.locs, Pt.cells, Pt.slots] at X1 l1 y1 z1 st1 hQ1
      subst l1 y1 z1
      obtain ⟨b1, rfl, gb_b1, Nq1, K1, p1_0, p1_1⟩ := hQ1
      have nn_b1 : n0 ≤ b1 := Nat.le_trans (old_z0 Ol) gb_b1
      have sz_b1 : h0.size ≤ b1 := Nat.le_trans kp0.1 gb_b1
      have old1 := Ol.keep K1 all0
      have kp1 := kp0.trans K1 all0
      have N1 := Fr.app N0 Nq1
      refine Go.step st1 ?_
      show Go p e below _ (T1.setTop (mkF m 18 #[.val (.int (1 : Int32)), .val (.int p2), .val (.int (1 : Int32)), .unset, .unset] [(.ref b1)]))
      refine Go.step (fun t_ k_ => XS.aconstNull X1.here hx rfl (hb hby at_18) k_) ?_
      show Go p e below _ (T1.setTop (mkF m 19 #[.val (.int (1 : Int32)), .val (.int p2), .val (.int (1 : Int32)), .unset, .unset] [.null, (.ref b1)]))
      obtain ⟨cq2, kq2, q2a, q2b, q2c⟩ := isOf hZ rfl p1_0
      obtain ⟨_, _, ⟨T2, L2, k2, n2⟩, -, X2, ⟨Lc2, hQ2, l2, y2, z2⟩, st2⟩ := X1.virtualBack hx (y := (⟨"java/util/Optional", "orElse", "(Ljava/lang/Object;)Ljava/lang/Object;"⟩ : MethodName)) (z := (⟨"java/util/Optional", "orElse", "(Ljava/lang/Object;)Ljava/lang/Object;"⟩ : MethodName)) hown (mvT hZ (hw _ (List.mem_of_getElem? (i := 29) rfl))) (mvT hZ (hw _ (List.mem_of_getElem? (i := 30) rfl))) (notFace_of_selects (args := #[]) (mvT hZ (hw _ (List.mem_of_getElem? (i := 32) rfl)))) (mvT hZ (hw _ (List.mem_of_getElem? (i := 32) rfl))) (mvT hZ (hw _ (List.mem_of_getElem? (i := 31) rfl))) (by decide) (backOf (W := 0) (rm_else1 l Z a0 hw [] a__VALUES a_GROUP_1 a_GROUP_2 a_GROUP_3 a_EMPTY ka__VALUES HW b1 a_GROUP_1 T1.heap n0 old1 p1_1) hZ (hw _ (List.mem_of_getElem? (i := 33) rfl)) (hw _ (List.mem_of_getElem? (i := 26) rfl)) (by decide) (by decide)) q2a q2c (g := (mkF m 19 #[.val (.int (1 : Int32)), .val (.int p2), .val (.int (1 : Int32)), .unset, .unset] [.null, (.ref b1)])) rfl (by rw [hml]; rfl) (Steps.refl _) (argsL := [.null]) (rest := []) (lenOf pd_0 rfl) rfl (by show 2 * 0 + _ ≤ _; exact Nat.le_of_eq rfl) (hb hby at_19) (fun _ _ => ⟨rfl, rfl, (by decide : 2 + 0 ≤ _), (by decide : 4 + 0 ≤ _)⟩)
      dsimp only [Pt.U, Pt.locs, Pt.cells, Pt.slots] at X2 l2 y2 z2 st2 hQ2
      subst l2 y2 z2
      obtain ⟨rfl, Nq2, e2⟩ := hQ2
      have N2 := Fr.app N1 Nq2
      refine Go.step (fun t_ k_ => st2.trans k_) ?_
      show Go p e below _ (T2.setTop (mkF m 22 #[.val (.int (1 : Int32)), .val (.int p2), .val (.int (1 : Int32)), .unset, .unset] [(.ref a_GROUP_1)]))
      obtain ⟨T3, X3, e3, st3⟩ := castY X2 hx hZ hown (hw _ (List.mem_of_getElem? (i := 56) rfl)) e2 (Ins.self (Ea_GROUP_1.ext old1.2)) (g := (mkF m 22 #[.val (.int (1 : Int32)), .val (.int p2), .val (.int (1 : Int32)), .unset, .unset] [(.ref a_GROUP_1)])) rfl rfl (hb hby at_22)
      refine Go.step st3 ?_
      show Go p e below _ (T3.setTop (mkF m 25 #[.val (.int (1 : Int32)), .val (.int p2), .val (.int (1 : Int32)), .unset, .unset] [(.ref a_GROUP_1)]))
      refine Go.step (fun t_ k_ => XS.astoreN X3.here hx rfl (hb hby at_25) rfl rfl (l' := #[.val (.int (1 : Int32)), .val (.int p2), .val (.int (1 : Int32)), .val (.ref a_GROUP_1), .unset]) rfl k_) ?_
      show Go p e below _ (T3.setTop (mkF m 26 #[.val (.int (1 : Int32)), .val (.int p2), .val (.int (1 : Int32)), .val (.ref a_GROUP_1), .unset] []))
      refine Go.step (fun t_ k_ => XS.iloadN X3.here hx rfl (hb hby at_26) rfl k_) ?_
      show Go p e below _ (T3.setTop (mkF m 27 #[.val (.int (1 : Int32)), .val (.int p2), .val (.int (1 : Int32)), .val (.ref a_GROUP_1), .unset] [(.int (1 : Int32))]))
      obtain ⟨_, _, ⟨T4, L4, k4, n4⟩, -, X4, ⟨Lc4, hQ4, l4, y4, z4⟩, st4⟩ := Jvm.LawKit.callS X3 hx (y := (⟨"com/example/overcap/overcap/plans/ManagementGroupNumberedPinLaw", "expected", "(I)Lcom/example/overcap/overcap/plans/ManagementGroup;"⟩ : MethodName)) hown (mvT hZ (hw _ (List.mem_of_getElem? (i := 36) rfl))) (mvT hZ (hw _ (List.mem_of_getElem? (i := 37) rfl))) (mvT hZ (hw _ (List.mem_of_getElem? (i := 38) rfl))) (mvT hZ (hw _ (List.mem_of_getElem? (i := 39) rfl))) (by decide) (backOf (W := 0) (rm_exp1 l Z a0 hw [] a__VALUES a_GROUP_1 a_GROUP_2 a_GROUP_3 a_EMPTY ka__VALUES HW  T1.heap n0 old1 ) hZ (hw _ (List.mem_of_getElem? (i := 39) rfl)) (hw _ (List.mem_of_getElem? (i := 38) rfl)) (by decide) (by decide)) (g := (mkF m 27 #[.val (.int (1 : Int32)), .val (.int p2), .val (.int (1 : Int32)), .val (.ref a_GROUP_1), .unset] [(.int (1 : Int32))])) rfl (by rw [hml]; rfl) (argsL := [(.int (1 : Int32))]) (rest := []) (lenOf pd_6 rfl) rfl (by show 2 * 0 + _ ≤ _; exact Nat.le_of_eq rfl) (hb hby at_27) (fun _ _ => ⟨rfl, e3, (by decide : 2 + 0 ≤ _), (by decide : 4 + 0 ≤ _)⟩)
      dsimp only [Pt.U, Pt.locs, Pt.cells, Pt.slots] at X4 l4 y4 z4 st4 hQ4
      subst l4 y4 z4
      obtain ⟨rfl, Nq4, e4⟩ := hQ4
      have N4 := Fr.app N2 Nq4
      refine Go.step st4 ?_
      show Go p e below _ (T4.setTop (mkF m 30 #[.val (.int (1 : Int32)), .val (.int p2), .val (.int (1 : Int32)), .val (.ref a_GROUP_1), .unset] [(.ref a_GROUP_1)]))
      refine Go.step (fun t_ k_ => XS.astore X4.here hx rfl (hb hby at_30) rfl rfl (l' := #[.val (.int (1 : Int32)), .val (.int p2), .val (.int (1 : Int32)), .val (.ref a_GROUP_1), .val (.ref a_GROUP_1)]) rfl k_) ?_
      show Go p e below _ (T4.setTop (mkF m 32 #[.val (.int (1 : Int32)), .val (.int p2), .val (.int (1 : Int32)), .val (.ref a_GROUP_1), .val (.ref a_GROUP_1)] []))
      refine Go.step (fun t_ k_ => XS.aloadN X4.here hx rfl (hb hby at_32) rfl rfl k_) ?_
      show Go p e below _ (T4.setTop (mkF m 33 #[.val (.int (1 : Int32)), .val (.int p2), .val (.int (1 : Int32)), .val (.ref a_GROUP_1), .val (.ref a_GROUP_1)] [(.ref a_GROUP_1)]))
      refine Go.step (fun t_ k_ => XS.aload X4.here hx rfl (hb hby at_33) rfl rfl k_) ?_
      show Go p e below _ (T4.setTop (mkF m 35 #[.val (.int (1 : Int32)), .val (.int p2), .val (.int (1 : Int32)), .val (.ref a_GROUP_1), .val (.ref a_GROUP_1)] [(.ref a_GROUP_1), (.ref a_GROUP_1)]))
      refine Go.step (fun t_ k_ => Jvm.RoadKit.acmp (g := (mkF m 35 #[.val (.int (1 : Int32)), .val (.int p2), .val (.int (1 : Int32)), .val (.ref a_GROUP_1), .val (.ref a_GROUP_1)] [(.ref a_GROUP_1), (.ref a_GROUP_1)])) X4 hx rfl rfl rfl (pc0 := 35) (pc' := 40) (same := true) rfl (hb hby at_35) rfl (decide_eq_true rfl) (by decide) (by decide) k_) ?_
      show Go p e below _ (T4.setTop (mkF m 40 #[.val (.int (1 : Int32)), .val (.int p2), .val (.int (1 : Int32)), .val (.ref a_GROUP_1), .val (.ref a_GROUP_1)] []))
      refine Go.step (fun t_ k_ => XS.aloadN X4.here hx rfl (hb hby at_40) rfl rfl k_) ?_
      show Go p e below _ (T4.setTop (mkF m 41 #[.val (.int (1 : Int32)), .val (.int p2), .val (.int (1 : Int32)), .val (.ref a_GROUP_1), .val (.ref a_GROUP_1)] [(.ref a_GROUP_1)]))
      refine Go.step (fun t_ k_ => XS.ifnullNo X4.here hx rfl (hb hby at_41) rfl k_) ?_
      show Go p e below _ (T4.setTop (mkF m 44 #[.val (.int (1 : Int32)), .val (.int p2), .val (.int (1 : Int32)), .val (.ref a_GROUP_1), .val (.ref a_GROUP_1)] []))
      refine Go.step (fun t_ k_ => XS.aloadN X4.here hx rfl (hb hby at_44) rfl rfl k_) ?_
      show Go p e below _ (T4.setTop (mkF m 45 #[.val (.int (1 : Int32)), .val (.int p2), .val (.int (1 : Int32)), .val (.ref a_GROUP_1), .val (.ref a_GROUP_1)] [(.ref a_GROUP_1)]))
      obtain ⟨cq5, kq5, q5a, q5b, q5c⟩ := isOf hZ e4 (Ea_GROUP_1.ext old1.2)
      obtain ⟨_, _, ⟨T5, L5, k5, n5⟩, -, X5, ⟨Lc5, hQ5, l5, y5, z5⟩, st5⟩ := X4.virtualBack hx (y := (⟨"com/example/overcap/overcap/plans/ManagementGroup", "number", "()I"⟩ : MethodName)) (z := (⟨"com/example/overcap/overcap/plans/ManagementGroup", "number", "()I"⟩ : MethodName)) hown (mvT hZ (hw _ (List.mem_of_getElem? (i := 59) rfl))) (mvT hZ (hw _ (List.mem_of_getElem? (i := 60) rfl))) (notFace_of_selects (args := #[]) (mvT hZ (hw _ (List.mem_of_getElem? (i := 62) rfl)))) (mvT hZ (hw _ (List.mem_of_getElem? (i := 62) rfl))) (mvT hZ (hw _ (List.mem_of_getElem? (i := 61) rfl))) (by decide) (backOf (W := 0) (rm10 l Z a0 hw [] a__VALUES a_GROUP_1 a_GROUP_2 a_GROUP_3 a_EMPTY ka__VALUES HW a_GROUP_1 (1 : Int32) T1.heap n0 old1 Fa_GROUP_1_number) hZ (hw _ (List.mem_of_getElem? (i := 63) rfl)) (hw _ (List.mem_of_getElem? (i := 2) rfl)) (by decide) (by decide)) q5a q5c (g := (mkF m 45 #[.val (.int (1 : Int32)), .val (.int p2), .val (.int (1 : Int32)), .val (.ref a_GROUP_1), .val (.ref a_GROUP_1)] [(.ref a_GROUP_1)])) rfl (by rw [hml]; rfl) (Steps.refl _) (argsL := []) (rest := []) (lenOf pd_7 rfl) rfl (by show 2 * 0 + _ ≤ _; exact Nat.le_of_eq rfl) (hb hby at_45) (fun _ _ => ⟨rfl, e4, (by decide : 2 + 0 ≤ _), (by decide : 4 + 0 ≤ _)⟩)
      dsimp only [Pt.U, Pt.locs, Pt.cells, Pt.slots] at X5 l5 y5 z5 st5 hQ5
      subst l5 y5 z5
      obtain ⟨rfl, Nq5, e5⟩ := hQ5
      have N5 := Fr.app N4 Nq5
      refine Go.step (fun t_ k_ => st5.trans k_) ?_
      show Go p e below _ (T5.setTop (mkF m 48 #[.val (.int (1 : Int32)), .val (.int p2), .val (.int (1 : Int32)), .val (.ref a_GROUP_1), .val (.ref a_GROUP_1)] [(.int (1 : Int32))]))
      refine Go.step (fun t_ k_ => XS.iloadN X5.here hx rfl (hb hby at_48) rfl k_) ?_
      show Go p e below _ (T5.setTop (mkF m 49 #[.val (.int (1 : Int32)), .val (.int p2), .val (.int (1 : Int32)), .val (.ref a_GROUP_1), .val (.ref a_GROUP_1)] [(.int (1 : Int32)), (.int (1 : Int32))]))
      have hc49 : (1 : Int32) = (1 : Int32) := by decide
      refine Go.step (fun t_ k_ => XS.icmpYes X5.here hx rfl (pc0 := 49) (pc' := 54) rfl (hb hby at_49) rfl (teq hc49).1 (by decide) (by decide) k_) ?_
      show Go p e below _ (T5.setTop (mkF m 54 #[.val (.int (1 : Int32)), .val (.int p2), .val (.int (1 : Int32)), .val (.ref a_GROUP_1), .val (.ref a_GROUP_1)] []))
      refine Go.step (fun t_ k_ => XS.iconst X5.here hx rfl (hb hby at_54) k_) ?_
      show Go p e below _ (T5.setTop (mkF m 55 #[.val (.int (1 : Int32)), .val (.int p2), .val (.int (1 : Int32)), .val (.ref a_GROUP_1), .val (.ref a_GROUP_1)] [(.int (1 : Int32))]))
      refine Go.retZ X5 hx (t := .boolean) Bd.returns (by simp) Bd.notSynchronized (hb hby at_55) (by rw [e5]; exact ⟨rfl, N5⟩) (by decide) (by decide)
    next =>
      show Go p e below _ (s₁.setTop (mkF m 14 #[.val (.int (2 : Int32)), .val (.int p2), .val (.int (2 : Int32)), .unset, .unset] []))
      refine Go.step (fun t_ k_ => XS.iloadN X0.here hx rfl (hb hby at_14) rfl k_) ?_
      show Go p e below _ (s₁.setTop (mkF m 15 #[.val (.int (2 : Int32)), .val (.int p2), .val (.int (2 : Int32)), .unset, .unset] [(.int (2 : Int32))]))
      obtain ⟨_, _, ⟨T6, L6, k6, n6⟩, -, X6, ⟨Lc6, hQ6, l6, y6, z6⟩, st6⟩ := Jvm.LawKit.callS X0 hx (y := (⟨"com/example/overcap/overcap/plans/ManagementGroup", "numbered", "(I)Ljava/util/Optional;"⟩ : MethodName)) hown (mvT hZ (hw _ (List.mem_of_getElem? (i := 0) rfl))) (mvT hZ (hw _ (List.mem_of_getElem? (i := 1) rfl))) (mvT hZ (hw _ (List.mem_of_getElem? (i := 2) rfl))) (mvT hZ (hw _ (List.mem_of_getElem? (i := 3) rfl))) (by decide) (backOf (W := 0) (rm_num2 l Z a0 hw [] a__VALUES a_GROUP_1 a_GROUP_2 a_GROUP_3 a_EMPTY ka__VALUES HW  h0 n0 Ol ) hZ (hw _ (List.mem_of_getElem? (i := 3) rfl)) (hw _ (List.mem_of_getElem? (i := 2) rfl)) (by decide) (by decide)) (g := (mkF m 15 #[.val (.int (2 : Int32)), .val (.int p2), .val (.int (2 : Int32)), .unset, .unset] [(.int (2 : Int32))])) rfl (by rw [hml]; rfl) (argsL := [(.int (2 : Int32))]) (rest := []) (lenOf pd_5 rfl) rfl (by show 2 * 0 + _ ≤ _; exact Nat.le_of_eq rfl) (hb hby at_15) (fun _ _ => ⟨rfl, e0, (by decide : 0 + 2 ≤ _), (by decide : 0 + 4 ≤ _)⟩)
      dsimp only [Pt.U, Pt.locs, Pt.cells, Pt.slots] at X6 l6 y6 z6 st6 hQ6
      subst l6 y6 z6
      obtain ⟨b6, rfl, gb_b6, Nq6, K6, p6_0, p6_1⟩ := hQ6
      have nn_b6 : n0 ≤ b6 := Nat.le_trans (old_z0 Ol) gb_b6
      have sz_b6 : h0.size ≤ b6 := Nat.le_trans kp0.1 gb_b6
      have old6 := Ol.keep K6 all0
      have kp6 := kp0.trans K6 all0
      have N6 := Fr.app N0 Nq6
      refine Go.step st6 ?_
      show Go p e below _ (T6.setTop (mkF m 18 #[.val (.int (2 : Int32)), .val (.int p2), .val (.int (2 : Int32)), .unset, .unset] [(.ref b6)]))
      refine Go.step (fun t_ k_ => XS.aconstNull X6.here hx rfl (hb hby at_18) k_) ?_
      show Go p e below _ (T6.setTop (mkF m 19 #[.val (.int (2 : Int32)), .val (.int p2), .val (.int (2 : Int32)), .unset, .unset] [.null, (.ref b6)]))
      obtain ⟨cq7, kq7, q7a, q7b, q7c⟩ := isOf hZ rfl p6_0
      obtain ⟨_, _, ⟨T7, L7, k7, n7⟩, -, X7, ⟨Lc7, hQ7, l7, y7, z7⟩, st7⟩ := X6.virtualBack hx (y := (⟨"java/util/Optional", "orElse", "(Ljava/lang/Object;)Ljava/lang/Object;"⟩ : MethodName)) (z := (⟨"java/util/Optional", "orElse", "(Ljava/lang/Object;)Ljava/lang/Object;"⟩ : MethodName)) hown (mvT hZ (hw _ (List.mem_of_getElem? (i := 29) rfl))) (mvT hZ (hw _ (List.mem_of_getElem? (i := 30) rfl))) (notFace_of_selects (args := #[]) (mvT hZ (hw _ (List.mem_of_getElem? (i := 32) rfl)))) (mvT hZ (hw _ (List.mem_of_getElem? (i := 32) rfl))) (mvT hZ (hw _ (List.mem_of_getElem? (i := 31) rfl))) (by decide) (backOf (W := 0) (rm_else1 l Z a0 hw [] a__VALUES a_GROUP_1 a_GROUP_2 a_GROUP_3 a_EMPTY ka__VALUES HW b6 a_GROUP_2 T6.heap n0 old6 p6_1) hZ (hw _ (List.mem_of_getElem? (i := 33) rfl)) (hw _ (List.mem_of_getElem? (i := 26) rfl)) (by decide) (by decide)) q7a q7c (g := (mkF m 19 #[.val (.int (2 : Int32)), .val (.int p2), .val (.int (2 : Int32)), .unset, .unset] [.null, (.ref b6)])) rfl (by rw [hml]; rfl) (Steps.refl _) (argsL := [.null]) (rest := []) (lenOf pd_0 rfl) rfl (by show 2 * 0 + _ ≤ _; exact Nat.le_of_eq rfl) (hb hby at_19) (fun _ _ => ⟨rfl, rfl, (by decide : 2 + 0 ≤ _), (by decide : 4 + 0 ≤ _)⟩)
      dsimp only [Pt.U, Pt.locs, Pt.cells, Pt.slots] at X7 l7 y7 z7 st7 hQ7
      subst l7 y7 z7
      obtain ⟨rfl, Nq7, e7⟩ := hQ7
      have N7 := Fr.app N6 Nq7
      refine Go.step (fun t_ k_ => st7.trans k_) ?_
      show Go p e below _ (T7.setTop (mkF m 22 #[.val (.int (2 : Int32)), .val (.int p2), .val (.int (2 : Int32)), .unset, .unset] [(.ref a_GROUP_2)]))
      obtain ⟨T8, X8, e8, st8⟩ := castY X7 hx hZ hown (hw _ (List.mem_of_getElem? (i := 56) rfl)) e7 (Ins.self (Ea_GROUP_2.ext old6.2)) (g := (mkF m 22 #[.val (.int (2 : Int32)), .val (.int p2), .val (.int (2 : Int32)), .unset, .unset] [(.ref a_GROUP_2)])) rfl rfl (hb hby at_22)
      refine Go.step st8 ?_
      show Go p e below _ (T8.setTop (mkF m 25 #[.val (.int (2 : Int32)), .val (.int p2), .val (.int (2 : Int32)), .unset, .unset] [(.ref a_GROUP_2)]))
      refine Go.step (fun t_ k_ => XS.astoreN X8.here hx rfl (hb hby at_25) rfl rfl (l' := #[.val (.int (2 : Int32)), .val (.int p2), .val (.int (2 : Int32)), .val (.ref a_GROUP_2), .unset]) rfl k_) ?_
      show Go p e below _ (T8.setTop (mkF m 26 #[.val (.int (2 : Int32)), .val (.int p2), .val (.int (2 : Int32)), .val (.ref a_GROUP_2), .unset] []))
      refine Go.step (fun t_ k_ => XS.iloadN X8.here hx rfl (hb hby at_26) rfl k_) ?_
      show Go p e below _ (T8.setTop (mkF m 27 #[.val (.int (2 : Int32)), .val (.int p2), .val (.int (2 : Int32)), .val (.ref a_GROUP_2), .unset] [(.int (2 : Int32))]))
      obtain ⟨_, _, ⟨T9, L9, k9, n9⟩, -, X9, ⟨Lc9, hQ9, l9, y9, z9⟩, st9⟩ := Jvm.LawKit.callS X8 hx (y := (⟨"com/example/overcap/overcap/plans/ManagementGroupNumberedPinLaw", "expected", "(I)Lcom/example/overcap/overcap/plans/ManagementGroup;"⟩ : MethodName)) hown (mvT hZ (hw _ (List.mem_of_getElem? (i := 36) rfl))) (mvT hZ (hw _ (List.mem_of_getElem? (i := 37) rfl))) (mvT hZ (hw _ (List.mem_of_getElem? (i := 38) rfl))) (mvT hZ (hw _ (List.mem_of_getElem? (i := 39) rfl))) (by decide) (backOf (W := 0) (rm_exp2 l Z a0 hw [] a__VALUES a_GROUP_1 a_GROUP_2 a_GROUP_3 a_EMPTY ka__VALUES HW  T6.heap n0 old6 ) hZ (hw _ (List.mem_of_getElem? (i := 39) rfl)) (hw _ (List.mem_of_getElem? (i := 38) rfl)) (by decide) (by decide)) (g := (mkF m 27 #[.val (.int (2 : Int32)), .val (.int p2), .val (.int (2 : Int32)), .val (.ref a_GROUP_2), .unset] [(.int (2 : Int32))])) rfl (by rw [hml]; rfl) (argsL := [(.int (2 : Int32))]) (rest := []) (lenOf pd_6 rfl) rfl (by show 2 * 0 + _ ≤ _; exact Nat.le_of_eq rfl) (hb hby at_27) (fun _ _ => ⟨rfl, e8, (by decide : 2 + 0 ≤ _), (by decide : 4 + 0 ≤ _)⟩)
      dsimp only [Pt.U, Pt.locs, Pt.cells, Pt.slots] at X9 l9 y9 z9 st9 hQ9
      subst l9 y9 z9
      obtain ⟨rfl, Nq9, e9⟩ := hQ9
      have N9 := Fr.app N7 Nq9
      refine Go.step st9 ?_
      show Go p e below _ (T9.setTop (mkF m 30 #[.val (.int (2 : Int32)), .val (.int p2), .val (.int (2 : Int32)), .val (.ref a_GROUP_2), .unset] [(.ref a_GROUP_2)]))
      refine Go.step (fun t_ k_ => XS.astore X9.here hx rfl (hb hby at_30) rfl rfl (l' := #[.val (.int (2 : Int32)), .val (.int p2), .val (.int (2 : Int32)), .val (.ref a_GROUP_2), .val (.ref a_GROUP_2)]) rfl k_) ?_
      show Go p e below _ (T9.setTop (mkF m 32 #[.val (.int (2 : Int32)), .val (.int p2), .val (.int (2 : Int32)), .val (.ref a_GROUP_2), .val (.ref a_GROUP_2)] []))
      refine Go.step (fun t_ k_ => XS.aloadN X9.here hx rfl (hb hby at_32) rfl rfl k_) ?_
      show Go p e below _ (T9.setTop (mkF m 33 #[.val (.int (2 : Int32)), .val (.int p2), .val (.int (2 : Int32)), .val (.ref a_GROUP_2), .val (.ref a_GROUP_2)] [(.ref a_GROUP_2)]))
      refine Go.step (fun t_ k_ => XS.aload X9.here hx rfl (hb hby at_33) rfl rfl k_) ?_
      show Go p e below _ (T9.setTop (mkF m 35 #[.val (.int (2 : Int32)), .val (.int p2), .val (.int (2 : Int32)), .val (.ref a_GROUP_2), .val (.ref a_GROUP_2)] [(.ref a_GROUP_2), (.ref a_GROUP_2)]))
      refine Go.step (fun t_ k_ => Jvm.RoadKit.acmp (g := (mkF m 35 #[.val (.int (2 : Int32)), .val (.int p2), .val (.int (2 : Int32)), .val (.ref a_GROUP_2), .val (.ref a_GROUP_2)] [(.ref a_GROUP_2), (.ref a_GROUP_2)])) X9 hx rfl rfl rfl (pc0 := 35) (pc' := 40) (same := true) rfl (hb hby at_35) rfl (decide_eq_true rfl) (by decide) (by decide) k_) ?_
      show Go p e below _ (T9.setTop (mkF m 40 #[.val (.int (2 : Int32)), .val (.int p2), .val (.int (2 : Int32)), .val (.ref a_GROUP_2), .val (.ref a_GROUP_2)] []))
      refine Go.step (fun t_ k_ => XS.aloadN X9.here hx rfl (hb hby at_40) rfl rfl k_) ?_
      show Go p e below _ (T9.setTop (mkF m 41 #[.val (.int (2 : Int32)), .val (.int p2), .val (.int (2 : Int32)), .val (.ref a_GROUP_2), .val (.ref a_GROUP_2)] [(.ref a_GROUP_2)]))
      refine Go.step (fun t_ k_ => XS.ifnullNo X9.here hx rfl (hb hby at_41) rfl k_) ?_
      show Go p e below _ (T9.setTop (mkF m 44 #[.val (.int (2 : Int32)), .val (.int p2), .val (.int (2 : Int32)), .val (.ref a_GROUP_2), .val (.ref a_GROUP_2)] []))
      refine Go.step (fun t_ k_ => XS.aloadN X9.here hx rfl (hb hby at_44) rfl rfl k_) ?_
      show Go p e below _ (T9.setTop (mkF m 45 #[.val (.int (2 : Int32)), .val (.int p2), .val (.int (2 : Int32)), .val (.ref a_GROUP_2), .val (.ref a_GROUP_2)] [(.ref a_GROUP_2)]))
      obtain ⟨cq10, kq10, q10a, q10b, q10c⟩ := isOf hZ e9 (Ea_GROUP_2.ext old6.2)
      obtain ⟨_, _, ⟨T10, L10, k10, n10⟩, -, X10, ⟨Lc10, hQ10, l10, y10, z10⟩, st10⟩ := X9.virtualBack hx (y := (⟨"com/example/overcap/overcap/plans/ManagementGroup", "number", "()I"⟩ : MethodName)) (z := (⟨"com/example/overcap/overcap/plans/ManagementGroup", "number", "()I"⟩ : MethodName)) hown (mvT hZ (hw _ (List.mem_of_getElem? (i := 59) rfl))) (mvT hZ (hw _ (List.mem_of_getElem? (i := 60) rfl))) (notFace_of_selects (args := #[]) (mvT hZ (hw _ (List.mem_of_getElem? (i := 62) rfl)))) (mvT hZ (hw _ (List.mem_of_getElem? (i := 62) rfl))) (mvT hZ (hw _ (List.mem_of_getElem? (i := 61) rfl))) (by decide) (backOf (W := 0) (rm10 l Z a0 hw [] a__VALUES a_GROUP_1 a_GROUP_2 a_GROUP_3 a_EMPTY ka__VALUES HW a_GROUP_2 (2 : Int32) T6.heap n0 old6 Fa_GROUP_2_number) hZ (hw _ (List.mem_of_getElem? (i := 63) rfl)) (hw _ (List.mem_of_getElem? (i := 2) rfl)) (by decide) (by decide)) q10a q10c (g := (mkF m 45 #[.val (.int (2 : Int32)), .val (.int p2), .val (.int (2 : Int32)), .val (.ref a_GROUP_2), .val (.ref a_GROUP_2)] [(.ref a_GROUP_2)])) rfl (by rw [hml]; rfl) (Steps.refl _) (argsL := []) (rest := []) (lenOf pd_7 rfl) rfl (by show 2 * 0 + _ ≤ _; exact Nat.le_of_eq rfl) (hb hby at_45) (fun _ _ => ⟨rfl, e9, (by decide : 2 + 0 ≤ _), (by decide : 4 + 0 ≤ _)⟩)
      dsimp only [Pt.U, Pt.locs, Pt.cells, Pt.slots] at X10 l10 y10 z10 st10 hQ10
      subst l10 y10 z10
      obtain ⟨rfl, Nq10, e10⟩ := hQ10
      have N10 := Fr.app N9 Nq10
      refine Go.step (fun t_ k_ => st10.trans k_) ?_
      show Go p e below _ (T10.setTop (mkF m 48 #[.val (.int (2 : Int32)), .val (.int p2), .val (.int (2 : Int32)), .val (.ref a_GROUP_2), .val (.ref a_GROUP_2)] [(.int (2 : Int32))]))
      refine Go.step (fun t_ k_ => XS.iloadN X10.here hx rfl (hb hby at_48) rfl k_) ?_
      show Go p e below _ (T10.setTop (mkF m 49 #[.val (.int (2 : Int32)), .val (.int p2), .val (.int (2 : Int32)), .val (.ref a_GROUP_2), .val (.ref a_GROUP_2)] [(.int (2 : Int32)), (.int (2 : Int32))]))
      have hc49 : (2 : Int32) = (2 : Int32) := by decide
      refine Go.step (fun t_ k_ => XS.icmpYes X10.here hx rfl (pc0 := 49) (pc' := 54) rfl (hb hby at_49) rfl (teq hc49).1 (by decide) (by decide) k_) ?_
      show Go p e below _ (T10.setTop (mkF m 54 #[.val (.int (2 : Int32)), .val (.int p2), .val (.int (2 : Int32)), .val (.ref a_GROUP_2), .val (.ref a_GROUP_2)] []))
      refine Go.step (fun t_ k_ => XS.iconst X10.here hx rfl (hb hby at_54) k_) ?_
      show Go p e below _ (T10.setTop (mkF m 55 #[.val (.int (2 : Int32)), .val (.int p2), .val (.int (2 : Int32)), .val (.ref a_GROUP_2), .val (.ref a_GROUP_2)] [(.int (1 : Int32))]))
      refine Go.retZ X10 hx (t := .boolean) Bd.returns (by simp) Bd.notSynchronized (hb hby at_55) (by rw [e10]; exact ⟨rfl, N10⟩) (by decide) (by decide)
    next =>
      show Go p e below _ (s₁.setTop (mkF m 14 #[.val (.int (3 : Int32)), .val (.int p2), .val (.int (3 : Int32)), .unset, .unset] []))
      refine Go.step (fun t_ k_ => XS.iloadN X0.here hx rfl (hb hby at_14) rfl k_) ?_
      show Go p e below _ (s₁.setTop (mkF m 15 #[.val (.int (3 : Int32)), .val (.int p2), .val (.int (3 : Int32)), .unset, .unset] [(.int (3 : Int32))]))
      obtain ⟨_, _, ⟨T11, L11, k11, n11⟩, -, X11, ⟨Lc11, hQ11, l11, y11, z11⟩, st11⟩ := Jvm.LawKit.callS X0 hx (y := (⟨"com/example/overcap/overcap/plans/ManagementGroup", "numbered", "(I)Ljava/util/Optional;"⟩ : MethodName)) hown (mvT hZ (hw _ (List.mem_of_getElem? (i := 0) rfl))) (mvT hZ (hw _ (List.mem_of_getElem? (i := 1) rfl))) (mvT hZ (hw _ (List.mem_of_getElem? (i := 2) rfl))) (mvT hZ (hw _ (List.mem_of_getElem? (i := 3) rfl))) (by decide) (backOf (W := 0) (rm_num3 l Z a0 hw [] a__VALUES a_GROUP_1 a_GROUP_2 a_GROUP_3 a_EMPTY ka__VALUES HW  h0 n0 Ol ) hZ (hw _ (List.mem_of_getElem? (i := 3) rfl)) (hw _ (List.mem_of_getElem? (i := 2) rfl)) (by decide) (by decide)) (g := (mkF m 15 #[.val (.int (3 : Int32)), .val (.int p2), .val (.int (3 : Int32)), .unset, .unset] [(.int (3 : Int32))])) rfl (by rw [hml]; rfl) (argsL := [(.int (3 : Int32))]) (rest := []) (lenOf pd_5 rfl) rfl (by show 2 * 0 + _ ≤ _; exact Nat.le_of_eq rfl) (hb hby at_15) (fun _ _ => ⟨rfl, e0, (by decide : 0 + 2 ≤ _), (by decide : 0 + 4 ≤ _)⟩)
      dsimp only [Pt.U, Pt.locs, Pt.cells, Pt.slots] at X11 l11 y11 z11 st11 hQ11
      subst l11 y11 z11
      obtain ⟨b11, rfl, gb_b11, Nq11, K11, p11_0, p11_1⟩ := hQ11
      have nn_b11 : n0 ≤ b11 := Nat.le_trans (old_z0 Ol) gb_b11
      have sz_b11 : h0.size ≤ b11 := Nat.le_trans kp0.1 gb_b11
      have old11 := Ol.keep K11 all0
      have kp11 := kp0.trans K11 all0
      have N11 := Fr.app N0 Nq11
      refine Go.step st11 ?_
      show Go p e below _ (T11.setTop (mkF m 18 #[.val (.int (3 : Int32)), .val (.int p2), .val (.int (3 : Int32)), .unset, .unset] [(.ref b11)]))
      refine Go.step (fun t_ k_ => XS.aconstNull X11.here hx rfl (hb hby at_18) k_) ?_
      show Go p e below _ (T11.setTop (mkF m 19 #[.val (.int (3 : Int32)), .val (.int p2), .val (.int (3 : Int32)), .unset, .unset] [.null, (.ref b11)]))
      obtain ⟨cq12, kq12, q12a, q12b, q12c⟩ := isOf hZ rfl p11_0
      obtain ⟨_, _, ⟨T12, L12, k12, n12⟩, -, X12, ⟨Lc12, hQ12, l12, y12, z12⟩, st12⟩ := X11.virtualBack hx (y := (⟨"java/util/Optional", "orElse", "(Ljava/lang/Object;)Ljava/lang/Object;"⟩ : MethodName)) (z := (⟨"java/util/Optional", "orElse", "(Ljava/lang/Object;)Ljava/lang/Object;"⟩ : MethodName)) hown (mvT hZ (hw _ (List.mem_of_getElem? (i := 29) rfl))) (mvT hZ (hw _ (List.mem_of_getElem? (i := 30) rfl))) (notFace_of_selects (args := #[]) (mvT hZ (hw _ (List.mem_of_getElem? (i := 32) rfl)))) (mvT hZ (hw _ (List.mem_of_getElem? (i := 32) rfl))) (mvT hZ (hw _ (List.mem_of_getElem? (i := 31) rfl))) (by decide) (backOf (W := 0) (rm_else1 l Z a0 hw [] a__VALUES a_GROUP_1 a_GROUP_2 a_GROUP_3 a_EMPTY ka__VALUES HW b11 a_GROUP_3 T11.heap n0 old11 p11_1) hZ (hw _ (List.mem_of_getElem? (i := 33) rfl)) (hw _ (List.mem_of_getElem? (i := 26) rfl)) (by decide) (by decide)) q12a q12c (g := (mkF m 19 #[.val (.int (3 : Int32)), .val (.int p2), .val (.int (3 : Int32)), .unset, .unset] [.null, (.ref b11)])) rfl (by rw [hml]; rfl) (Steps.refl _) (argsL := [.null]) (rest := []) (lenOf pd_0 rfl) rfl (by show 2 * 0 + _ ≤ _; exact Nat.le_of_eq rfl) (hb hby at_19) (fun _ _ => ⟨rfl, rfl, (by decide : 2 + 0 ≤ _), (by decide : 4 + 0 ≤ _)⟩)
      dsimp only [Pt.U, Pt.locs, Pt.cells, Pt.slots] at X12 l12 y12 z12 st12 hQ12
      subst l12 y12 z12
      obtain ⟨rfl, Nq12, e12⟩ := hQ12
      have N12 := Fr.app N11 Nq12
      refine Go.step (fun t_ k_ => st12.trans k_) ?_
      show Go p e below _ (T12.setTop (mkF m 22 #[.val (.int (3 : Int32)), .val (.int p2), .val (.int (3 : Int32)), .unset, .unset] [(.ref a_GROUP_3)]))
      obtain ⟨T13, X13, e13, st13⟩ := castY X12 hx hZ hown (hw _ (List.mem_of_getElem? (i := 56) rfl)) e12 (Ins.self (Ea_GROUP_3.ext old11.2)) (g := (mkF m 22 #[.val (.int (3 : Int32)), .val (.int p2), .val (.int (3 : Int32)), .unset, .unset] [(.ref a_GROUP_3)])) rfl rfl (hb hby at_22)
      refine Go.step st13 ?_
      show Go p e below _ (T13.setTop (mkF m 25 #[.val (.int (3 : Int32)), .val (.int p2), .val (.int (3 : Int32)), .unset, .unset] [(.ref a_GROUP_3)]))
      refine Go.step (fun t_ k_ => XS.astoreN X13.here hx rfl (hb hby at_25) rfl rfl (l' := #[.val (.int (3 : Int32)), .val (.int p2), .val (.int (3 : Int32)), .val (.ref a_GROUP_3), .unset]) rfl k_) ?_
      show Go p e below _ (T13.setTop (mkF m 26 #[.val (.int (3 : Int32)), .val (.int p2), .val (.int (3 : Int32)), .val (.ref a_GROUP_3), .unset] []))
      refine Go.step (fun t_ k_ => XS.iloadN X13.here hx rfl (hb hby at_26) rfl k_) ?_
      show Go p e below _ (T13.setTop (mkF m 27 #[.val (.int (3 : Int32)), .val (.int p2), .val (.int (3 : Int32)), .val (.ref a_GROUP_3), .unset] [(.int (3 : Int32))]))
      obtain ⟨_, _, ⟨T14, L14, k14, n14⟩, -, X14, ⟨Lc14, hQ14, l14, y14, z14⟩, st14⟩ := Jvm.LawKit.callS X13 hx (y := (⟨"com/example/overcap/overcap/plans/ManagementGroupNumberedPinLaw", "expected", "(I)Lcom/example/overcap/overcap/plans/ManagementGroup;"⟩ : MethodName)) hown (mvT hZ (hw _ (List.mem_of_getElem? (i := 36) rfl))) (mvT hZ (hw _ (List.mem_of_getElem? (i := 37) rfl))) (mvT hZ (hw _ (List.mem_of_getElem? (i := 38) rfl))) (mvT hZ (hw _ (List.mem_of_getElem? (i := 39) rfl))) (by decide) (backOf (W := 0) (rm_exp3 l Z a0 hw [] a__VALUES a_GROUP_1 a_GROUP_2 a_GROUP_3 a_EMPTY ka__VALUES HW  T11.heap n0 old11 ) hZ (hw _ (List.mem_of_getElem? (i := 39) rfl)) (hw _ (List.mem_of_getElem? (i := 38) rfl)) (by decide) (by decide)) (g := (mkF m 27 #[.val (.int (3 : Int32)), .val (.int p2), .val (.int (3 : Int32)), .val (.ref a_GROUP_3), .unset] [(.int (3 : Int32))])) rfl (by rw [hml]; rfl) (argsL := [(.int (3 : Int32))]) (rest := []) (lenOf pd_6 rfl) rfl (by show 2 * 0 + _ ≤ _; exact Nat.le_of_eq rfl) (hb hby at_27) (fun _ _ => ⟨rfl, e13, (by decide : 2 + 0 ≤ _), (by decide : 4 + 0 ≤ _)⟩)
      dsimp only [Pt.U, Pt.locs, Pt.cells, Pt.slots] at X14 l14 y14 z14 st14 hQ14
      subst l14 y14 z14
      obtain ⟨rfl, Nq14, e14⟩ := hQ14
      have N14 := Fr.app N12 Nq14
      refine Go.step st14 ?_
      show Go p e below _ (T14.setTop (mkF m 30 #[.val (.int (3 : Int32)), .val (.int p2), .val (.int (3 : Int32)), .val (.ref a_GROUP_3), .unset] [(.ref a_GROUP_3)]))
      refine Go.step (fun t_ k_ => XS.astore X14.here hx rfl (hb hby at_30) rfl rfl (l' := #[.val (.int (3 : Int32)), .val (.int p2), .val (.int (3 : Int32)), .val (.ref a_GROUP_3), .val (.ref a_GROUP_3)]) rfl k_) ?_
      show Go p e below _ (T14.setTop (mkF m 32 #[.val (.int (3 : Int32)), .val (.int p2), .val (.int (3 : Int32)), .val (.ref a_GROUP_3), .val (.ref a_GROUP_3)] []))
      refine Go.step (fun t_ k_ => XS.aloadN X14.here hx rfl (hb hby at_32) rfl rfl k_) ?_
      show Go p e below _ (T14.setTop (mkF m 33 #[.val (.int (3 : Int32)), .val (.int p2), .val (.int (3 : Int32)), .val (.ref a_GROUP_3), .val (.ref a_GROUP_3)] [(.ref a_GROUP_3)]))
      refine Go.step (fun t_ k_ => XS.aload X14.here hx rfl (hb hby at_33) rfl rfl k_) ?_
      show Go p e below _ (T14.setTop (mkF m 35 #[.val (.int (3 : Int32)), .val (.int p2), .val (.int (3 : Int32)), .val (.ref a_GROUP_3), .val (.ref a_GROUP_3)] [(.ref a_GROUP_3), (.ref a_GROUP_3)]))
      refine Go.step (fun t_ k_ => Jvm.RoadKit.acmp (g := (mkF m 35 #[.val (.int (3 : Int32)), .val (.int p2), .val (.int (3 : Int32)), .val (.ref a_GROUP_3), .val (.ref a_GROUP_3)] [(.ref a_GROUP_3), (.ref a_GROUP_3)])) X14 hx rfl rfl rfl (pc0 := 35) (pc' := 40) (same := true) rfl (hb hby at_35) rfl (decide_eq_true rfl) (by decide) (by decide) k_) ?_
      show Go p e below _ (T14.setTop (mkF m 40 #[.val (.int (3 : Int32)), .val (.int p2), .val (.int (3 : Int32)), .val (.ref a_GROUP_3), .val (.ref a_GROUP_3)] []))
      refine Go.step (fun t_ k_ => XS.aloadN X14.here hx rfl (hb hby at_40) rfl rfl k_) ?_
      show Go p e below _ (T14.setTop (mkF m 41 #[.val (.int (3 : Int32)), .val (.int p2), .val (.int (3 : Int32)), .val (.ref a_GROUP_3), .val (.ref a_GROUP_3)] [(.ref a_GROUP_3)]))
      refine Go.step (fun t_ k_ => XS.ifnullNo X14.here hx rfl (hb hby at_41) rfl k_) ?_
      show Go p e below _ (T14.setTop (mkF m 44 #[.val (.int (3 : Int32)), .val (.int p2), .val (.int (3 : Int32)), .val (.ref a_GROUP_3), .val (.ref a_GROUP_3)] []))
      refine Go.step (fun t_ k_ => XS.aloadN X14.here hx rfl (hb hby at_44) rfl rfl k_) ?_
      show Go p e below _ (T14.setTop (mkF m 45 #[.val (.int (3 : Int32)), .val (.int p2), .val (.int (3 : Int32)), .val (.ref a_GROUP_3), .val (.ref a_GROUP_3)] [(.ref a_GROUP_3)]))
      obtain ⟨cq15, kq15, q15a, q15b, q15c⟩ := isOf hZ e14 (Ea_GROUP_3.ext old11.2)
      obtain ⟨_, _, ⟨T15, L15, k15, n15⟩, -, X15, ⟨Lc15, hQ15, l15, y15, z15⟩, st15⟩ := X14.virtualBack hx (y := (⟨"com/example/overcap/overcap/plans/ManagementGroup", "number", "()I"⟩ : MethodName)) (z := (⟨"com/example/overcap/overcap/plans/ManagementGroup", "number", "()I"⟩ : MethodName)) hown (mvT hZ (hw _ (List.mem_of_getElem? (i := 59) rfl))) (mvT hZ (hw _ (List.mem_of_getElem? (i := 60) rfl))) (notFace_of_selects (args := #[]) (mvT hZ (hw _ (List.mem_of_getElem? (i := 62) rfl)))) (mvT hZ (hw _ (List.mem_of_getElem? (i := 62) rfl))) (mvT hZ (hw _ (List.mem_of_getElem? (i := 61) rfl))) (by decide) (backOf (W := 0) (rm10 l Z a0 hw [] a__VALUES a_GROUP_1 a_GROUP_2 a_GROUP_3 a_EMPTY ka__VALUES HW a_GROUP_3 (3 : Int32) T11.heap n0 old11 Fa_GROUP_3_number) hZ (hw _ (List.mem_of_getElem? (i := 63) rfl)) (hw _ (List.mem_of_getElem? (i := 2) rfl)) (by decide) (by decide)) q15a q15c (g := (mkF m 45 #[.val (.int (3 : Int32)), .val (.int p2), .val (.int (3 : Int32)), .val (.ref a_GROUP_3), .val (.ref a_GROUP_3)] [(.ref a_GROUP_3)])) rfl (by rw [hml]; rfl) (Steps.refl _) (argsL := []) (rest := []) (lenOf pd_7 rfl) rfl (by show 2 * 0 + _ ≤ _; exact Nat.le_of_eq rfl) (hb hby at_45) (fun _ _ => ⟨rfl, e14, (by decide : 2 + 0 ≤ _), (by decide : 4 + 0 ≤ _)⟩)
      dsimp only [Pt.U, Pt.locs, Pt.cells, Pt.slots] at X15 l15 y15 z15 st15 hQ15
      subst l15 y15 z15
      obtain ⟨rfl, Nq15, e15⟩ := hQ15
      have N15 := Fr.app N14 Nq15
      refine Go.step (fun t_ k_ => st15.trans k_) ?_
      show Go p e below _ (T15.setTop (mkF m 48 #[.val (.int (3 : Int32)), .val (.int p2), .val (.int (3 : Int32)), .val (.ref a_GROUP_3), .val (.ref a_GROUP_3)] [(.int (3 : Int32))]))
      refine Go.step (fun t_ k_ => XS.iloadN X15.here hx rfl (hb hby at_48) rfl k_) ?_
      show Go p e below _ (T15.setTop (mkF m 49 #[.val (.int (3 : Int32)), .val (.int p2), .val (.int (3 : Int32)), .val (.ref a_GROUP_3), .val (.ref a_GROUP_3)] [(.int (3 : Int32)), (.int (3 : Int32))]))
      have hc49 : (3 : Int32) = (3 : Int32) := by decide
      refine Go.step (fun t_ k_ => XS.icmpYes X15.here hx rfl (pc0 := 49) (pc' := 54) rfl (hb hby at_49) rfl (teq hc49).1 (by decide) (by decide) k_) ?_
      show Go p e below _ (T15.setTop (mkF m 54 #[.val (.int (3 : Int32)), .val (.int p2), .val (.int (3 : Int32)), .val (.ref a_GROUP_3), .val (.ref a_GROUP_3)] []))
      refine Go.step (fun t_ k_ => XS.iconst X15.here hx rfl (hb hby at_54) k_) ?_
      show Go p e below _ (T15.setTop (mkF m 55 #[.val (.int (3 : Int32)), .val (.int p2), .val (.int (3 : Int32)), .val (.ref a_GROUP_3), .val (.ref a_GROUP_3)] [(.int (1 : Int32))]))
      refine Go.retZ X15 hx (t := .boolean) Bd.returns (by simp) Bd.notSynchronized (hb hby at_55) (by rw [e15]; exact ⟨rfl, N15⟩) (by decide) (by decide)
    next =>
      refine Go.step (fun t_ k_ => XS.iloadN X0.here hx rfl (hb hby at_14) rfl k_) ?_
      show Go p e below _ (s₁.setTop (mkF m 15 #[.val (.int p1), .val (.int p2), .val (.int p1), .unset, .unset] [(.int p1)]))
      obtain ⟨_, _, ⟨T16, L16, k16, n16⟩, -, X16, ⟨Lc16, hQ16, l16, y16, z16⟩, st16⟩ := Jvm.LawKit.callS X0 hx (y := (⟨"com/example/overcap/overcap/plans/ManagementGroup", "numbered", "(I)Ljava/util/Optional;"⟩ : MethodName)) hown (mvT hZ (hw _ (List.mem_of_getElem? (i := 0) rfl))) (mvT hZ (hw _ (List.mem_of_getElem? (i := 1) rfl))) (mvT hZ (hw _ (List.mem_of_getElem? (i := 2) rfl))) (mvT hZ (hw _ (List.mem_of_getElem? (i := 3) rfl))) (by decide) (backOf (W := 0) (rm_num0 l Z a0 hw [] a__VALUES a_GROUP_1 a_GROUP_2 a_GROUP_3 a_EMPTY ka__VALUES HW p1 h0 n0 Ol h_n1 h_n2 h_n3) hZ (hw _ (List.mem_of_getElem? (i := 3) rfl)) (hw _ (List.mem_of_getElem? (i := 2) rfl)) (by decide) (by decide)) (g := (mkF m 15 #[.val (.int p1), .val (.int p2), .val (.int p1), .unset, .unset] [(.int p1)])) rfl (by rw [hml]; rfl) (argsL := [(.int p1)]) (rest := []) (lenOf pd_5 rfl) rfl (by show 2 * 0 + _ ≤ _; exact Nat.le_of_eq rfl) (hb hby at_15) (fun _ _ => ⟨rfl, e0, (by decide : 0 + 1 ≤ _), (by decide : 0 + 3 ≤ _)⟩)
      dsimp only [Pt.U, Pt.locs, Pt.cells, Pt.slots] at X16 l16 y16 z16 st16 hQ16
      subst l16 y16 z16
      obtain ⟨rfl, Nq16, K16⟩ := hQ16
      have old16 := Ol.keep K16 all0
      have kp16 := kp0.trans K16 all0
      have N16 := Fr.app N0 Nq16
      refine Go.step st16 ?_
      show Go p e below _ (T16.setTop (mkF m 18 #[.val (.int p1), .val (.int p2), .val (.int p1), .unset, .unset] [(.ref a_EMPTY)]))
      refine Go.step (fun t_ k_ => XS.aconstNull X16.here hx rfl (hb hby at_18) k_) ?_
      show Go p e below _ (T16.setTop (mkF m 19 #[.val (.int p1), .val (.int p2), .val (.int p1), .unset, .unset] [.null, (.ref a_EMPTY)]))
      obtain ⟨cq17, kq17, q17a, q17b, q17c⟩ := isOf hZ rfl (Ea_EMPTY.ext old16.2)
      obtain ⟨_, _, ⟨T17, L17, k17, n17⟩, -, X17, ⟨Lc17, hQ17, l17, y17, z17⟩, st17⟩ := X16.virtualBack hx (y := (⟨"java/util/Optional", "orElse", "(Ljava/lang/Object;)Ljava/lang/Object;"⟩ : MethodName)) (z := (⟨"java/util/Optional", "orElse", "(Ljava/lang/Object;)Ljava/lang/Object;"⟩ : MethodName)) hown (mvT hZ (hw _ (List.mem_of_getElem? (i := 29) rfl))) (mvT hZ (hw _ (List.mem_of_getElem? (i := 30) rfl))) (notFace_of_selects (args := #[]) (mvT hZ (hw _ (List.mem_of_getElem? (i := 32) rfl)))) (mvT hZ (hw _ (List.mem_of_getElem? (i := 32) rfl))) (mvT hZ (hw _ (List.mem_of_getElem? (i := 31) rfl))) (by decide) (backOf (W := 0) (rm_else0 l Z a0 hw [] a__VALUES a_GROUP_1 a_GROUP_2 a_GROUP_3 a_EMPTY ka__VALUES HW a_EMPTY T16.heap n0 old16 (Fa_EMPTY_value.ext old16.2)) hZ (hw _ (List.mem_of_getElem? (i := 33) rfl)) (hw _ (List.mem_of_getElem? (i := 26) rfl)) (by decide) (by decide)) q17a q17c (g := (mkF m 19 #[.val (.int p1), .val (.int p2), .val (.int p1), .unset, .unset] [.null, (.ref a_EMPTY)])) rfl (by rw [hml]; rfl) (Steps.refl _) (argsL := [.null]) (rest := []) (lenOf pd_0 rfl) rfl (by show 2 * 0 + _ ≤ _; exact Nat.le_of_eq rfl) (hb hby at_19) (fun _ _ => ⟨rfl, rfl, (by decide : 1 + 0 ≤ _), (by decide : 3 + 0 ≤ _)⟩)
      dsimp only [Pt.U, Pt.locs, Pt.cells, Pt.slots] at X17 l17 y17 z17 st17 hQ17
      subst l17 y17 z17
      obtain ⟨rfl, Nq17, e17⟩ := hQ17
      have N17 := Fr.app N16 Nq17
      refine Go.step (fun t_ k_ => st17.trans k_) ?_
      show Go p e below _ (T17.setTop (mkF m 22 #[.val (.int p1), .val (.int p2), .val (.int p1), .unset, .unset] [.null]))
      refine Go.step (fun t_ k_ => X17.checkcastNull hx (g := (mkF m 22 #[.val (.int p1), .val (.int p2), .val (.int p1), .unset, .unset] [.null])) rfl rfl (hb hby at_22) _ k_) ?_
      show Go p e below _ (T17.setTop (mkF m 25 #[.val (.int p1), .val (.int p2), .val (.int p1), .unset, .unset] [.null]))
      refine Go.step (fun t_ k_ => XS.astoreN X17.here hx rfl (hb hby at_25) rfl rfl (l' := #[.val (.int p1), .val (.int p2), .val (.int p1), .val .null, .unset]) rfl k_) ?_
      show Go p e below _ (T17.setTop (mkF m 26 #[.val (.int p1), .val (.int p2), .val (.int p1), .val .null, .unset] []))
      refine Go.step (fun t_ k_ => XS.iloadN X17.here hx rfl (hb hby at_26) rfl k_) ?_
      show Go p e below _ (T17.setTop (mkF m 27 #[.val (.int p1), .val (.int p2), .val (.int p1), .val .null, .unset] [(.int p1)]))
      obtain ⟨_, _, ⟨T18, L18, k18, n18⟩, -, X18, ⟨Lc18, hQ18, l18, y18, z18⟩, st18⟩ := Jvm.LawKit.callS X17 hx (y := (⟨"com/example/overcap/overcap/plans/ManagementGroupNumberedPinLaw", "expected", "(I)Lcom/example/overcap/overcap/plans/ManagementGroup;"⟩ : MethodName)) hown (mvT hZ (hw _ (List.mem_of_getElem? (i := 36) rfl))) (mvT hZ (hw _ (List.mem_of_getElem? (i := 37) rfl))) (mvT hZ (hw _ (List.mem_of_getElem? (i := 38) rfl))) (mvT hZ (hw _ (List.mem_of_getElem? (i := 39) rfl))) (by decide) (backOf (W := 0) (rm_exp0 l Z a0 hw [] a__VALUES a_GROUP_1 a_GROUP_2 a_GROUP_3 a_EMPTY ka__VALUES HW p1 T16.heap n0 old16 h_n1 h_n2 h_n3) hZ (hw _ (List.mem_of_getElem? (i := 39) rfl)) (hw _ (List.mem_of_getElem? (i := 38) rfl)) (by decide) (by decide)) (g := (mkF m 27 #[.val (.int p1), .val (.int p2), .val (.int p1), .val .null, .unset] [(.int p1)])) rfl (by rw [hml]; rfl) (argsL := [(.int p1)]) (rest := []) (lenOf pd_6 rfl) rfl (by show 2 * 0 + _ ≤ _; exact Nat.le_of_eq rfl) (hb hby at_27) (fun _ _ => ⟨rfl, e17, (by decide : 1 + 0 ≤ _), (by decide : 3 + 0 ≤ _)⟩)
      dsimp only [Pt.U, Pt.locs, Pt.cells, Pt.slots] at X18 l18 y18 z18 st18 hQ18
      subst l18 y18 z18
      obtain ⟨rfl, Nq18, e18⟩ := hQ18
      have N18 := Fr.app N17 Nq18
      refine Go.step st18 ?_
      show Go p e below _ (T18.setTop (mkF m 30 #[.val (.int p1), .val (.int p2), .val (.int p1), .val .null, .unset] [.null]))
      refine Go.step (fun t_ k_ => XS.astore X18.here hx rfl (hb hby at_30) rfl rfl (l' := #[.val (.int p1), .val (.int p2), .val (.int p1), .val .null, .val .null]) rfl k_) ?_
      show Go p e below _ (T18.setTop (mkF m 32 #[.val (.int p1), .val (.int p2), .val (.int p1), .val .null, .val .null] []))
      refine Go.step (fun t_ k_ => XS.aloadN X18.here hx rfl (hb hby at_32) rfl rfl k_) ?_
      show Go p e below _ (T18.setTop (mkF m 33 #[.val (.int p1), .val (.int p2), .val (.int p1), .val .null, .val .null] [.null]))
      refine Go.step (fun t_ k_ => XS.aload X18.here hx rfl (hb hby at_33) rfl rfl k_) ?_
      show Go p e below _ (T18.setTop (mkF m 35 #[.val (.int p1), .val (.int p2), .val (.int p1), .val .null, .val .null] [.null, .null]))
      refine Go.step (fun t_ k_ => Jvm.RoadKit.acmp (g := (mkF m 35 #[.val (.int p1), .val (.int p2), .val (.int p1), .val .null, .val .null] [.null, .null])) X18 hx rfl rfl rfl (pc0 := 35) (pc' := 40) (same := true) rfl (hb hby at_35) rfl (decide_eq_true rfl) (by decide) (by decide) k_) ?_
      show Go p e below _ (T18.setTop (mkF m 40 #[.val (.int p1), .val (.int p2), .val (.int p1), .val .null, .val .null] []))
      refine Go.step (fun t_ k_ => XS.aloadN X18.here hx rfl (hb hby at_40) rfl rfl k_) ?_
      show Go p e below _ (T18.setTop (mkF m 41 #[.val (.int p1), .val (.int p2), .val (.int p1), .val .null, .val .null] [.null]))
      refine Go.step (fun t_ k_ => XS.ifnullYes X18.here hx rfl (pc0 := 41) (pc' := 54) rfl (hb hby at_41) rfl (by decide) (by decide) k_) ?_
      show Go p e below _ (T18.setTop (mkF m 54 #[.val (.int p1), .val (.int p2), .val (.int p1), .val .null, .val .null] []))
      refine Go.step (fun t_ k_ => XS.iconst X18.here hx rfl (hb hby at_54) k_) ?_
      show Go p e below _ (T18.setTop (mkF m 55 #[.val (.int p1), .val (.int p2), .val (.int p1), .val .null, .val .null] [(.int (1 : Int32))]))
      refine Go.retZ X18 hx (t := .boolean) Bd.returns (by simp) Bd.notSynchronized (hb hby at_55) (by rw [e18]; exact ⟨rfl, N18⟩) (by decide) (by decide)
  case neg =>
    refine Go.step (fun t_ k_ => XS.ifNo X0.here hx rfl (hb hby at_3) rfl ((if0 _ _).trans (feq hc3).1) k_) ?_
    show Go p e below _ (s₁.setTop (mkF m 6 #[.val (.int p1), .val (.int p2), .unset, .unset, .unset] []))
    refine Go.step (fun t_ k_ => XS.iloadN X0.here hx rfl (hb hby at_6) rfl k_) ?_
    show Go p e below _ (s₁.setTop (mkF m 7 #[.val (.int p1), .val (.int p2), .unset, .unset, .unset] [(.int p1)]))
    refine Go.step (fun t_ k_ => XS.iconst X0.here hx rfl (hb hby at_7) k_) ?_
    show Go p e below _ (s₁.setTop (mkF m 8 #[.val (.int p1), .val (.int p2), .unset, .unset, .unset] [(.int (3 : Int32)), (.int p1)]))
    refine Go.step (fun t_ k_ => XS.iand X0.here hx rfl (hb hby at_8) rfl k_) ?_
    show Go p e below _ (s₁.setTop (mkF m 9 #[.val (.int p1), .val (.int p2), .unset, .unset, .unset] [(.int (p1 &&& (3 : Int32)))]))
    refine Go.step (fun t_ k_ => XS.goto X0.here hx rfl (pc0 := 9) (pc' := 13) rfl (hb hby at_9) (by decide) (by decide) k_) ?_
    show Go p e below _ (s₁.setTop (mkF m 13 #[.val (.int p1), .val (.int p2), .unset, .unset, .unset] [(.int (p1 &&& (3 : Int32)))]))
    refine Go.step (fun t_ k_ => XS.istoreN X0.here hx rfl (hb hby at_13) rfl (l' := #[.val (.int p1), .val (.int p2), .val (.int (p1 &&& (3 : Int32))), .unset, .unset]) rfl k_) ?_
    show Go p e below _ (s₁.setTop (mkF m 14 #[.val (.int p1), .val (.int p2), .val (.int (p1 &&& (3 : Int32))), .unset, .unset] []))
    generalize hkn : (p1 &&& (3 : Int32)) = n
    show Go p e below _ (s₁.setTop (mkF m 14 #[.val (.int p1), .val (.int p2), .val (.int n), .unset, .unset] []))
    rcases four n with rfl | rfl | rfl | ⟨h_n1, h_n2, h_n3⟩
    next =>
      show Go p e below _ (s₁.setTop (mkF m 14 #[.val (.int p1), .val (.int p2), .val (.int (1 : Int32)), .unset, .unset] []))
      refine Go.step (fun t_ k_ => XS.iloadN X0.here hx rfl (hb hby at_14) rfl k_) ?_
      show Go p e below _ (s₁.setTop (mkF m 15 #[.val (.int p1), .val (.int p2), .val (.int (1 : Int32)), .unset, .unset] [(.int (1 : Int32))]))
      obtain ⟨_, _, ⟨T19, L19, k19, n19⟩, -, X19, ⟨Lc19, hQ19, l19, y19, z19⟩, st19⟩ := Jvm.LawKit.callS X0 hx (y := (⟨"com/example/overcap/overcap/plans/ManagementGroup", "numbered", "(I)Ljava/util/Optional;"⟩ : MethodName)) hown (mvT hZ (hw _ (List.mem_of_getElem? (i := 0) rfl))) (mvT hZ (hw _ (List.mem_of_getElem? (i := 1) rfl))) (mvT hZ (hw _ (List.mem_of_getElem? (i := 2) rfl))) (mvT hZ (hw _ (List.mem_of_getElem? (i := 3) rfl))) (by decide) (backOf (W := 0) (rm_num1 l Z a0 hw [] a__VALUES a_GROUP_1 a_GROUP_2 a_GROUP_3 a_EMPTY ka__VALUES HW  h0 n0 Ol ) hZ (hw _ (List.mem_of_getElem? (i := 3) rfl)) (hw _ (List.mem_of_getElem? (i := 2) rfl)) (by decide) (by decide)) (g := (mkF m 15 #[.val (.int p1), .val (.int p2), .val (.int (1 : Int32)), .unset, .unset] [(.int (1 : Int32))])) rfl (by rw [hml]; rfl) (argsL := [(.int (1 : Int32))]) (rest := []) (lenOf pd_5 rfl) rfl (by show 2 * 0 + _ ≤ _; exact Nat.le_of_eq rfl) (hb hby at_15) (fun _ _ => ⟨rfl, e0, (by decide : 0 + 2 ≤ _), (by decide : 0 + 4 ≤ _)⟩)
      dsimp only [Pt.U, Pt.locs, Pt.cells, Pt.slots] at X19 l19 y19 z19 st19 hQ19
      subst l19 y19 z19
      obtain ⟨b19, rfl, gb_b19, Nq19, K19, p19_0, p19_1⟩ := hQ19
      have nn_b19 : n0 ≤ b19 := Nat.le_trans (old_z0 Ol) gb_b19
      have sz_b19 : h0.size ≤ b19 := Nat.le_trans kp0.1 gb_b19
      have old19 := Ol.keep K19 all0
      have kp19 := kp0.trans K19 all0
      have N19 := Fr.app N0 Nq19
      refine Go.step st19 ?_
      show Go p e below _ (T19.setTop (mkF m 18 #[.val (.int p1), .val (.int p2), .val (.int (1 : Int32)), .unset, .unset] [(.ref b19)]))
      refine Go.step (fun t_ k_ => XS.aconstNull X19.here hx rfl (hb hby at_18) k_) ?_
      show Go p e below _ (T19.setTop (mkF m 19 #[.val (.int p1), .val (.int p2), .val (.int (1 : Int32)), .unset, .unset] [.null, (.ref b19)]))
      obtain ⟨cq20, kq20, q20a, q20b, q20c⟩ := isOf hZ rfl p19_0
      obtain ⟨_, _, ⟨T20, L20, k20, n20⟩, -, X20, ⟨Lc20, hQ20, l20, y20, z20⟩, st20⟩ := X19.virtualBack hx (y := (⟨"java/util/Optional", "orElse", "(Ljava/lang/Object;)Ljava/lang/Object;"⟩ : MethodName)) (z := (⟨"java/util/Optional", "orElse", "(Ljava/lang/Object;)Ljava/lang/Object;"⟩ : MethodName)) hown (mvT hZ (hw _ (List.mem_of_getElem? (i := 29) rfl))) (mvT hZ (hw _ (List.mem_of_getElem? (i := 30) rfl))) (notFace_of_selects (args := #[]) (mvT hZ (hw _ (List.mem_of_getElem? (i := 32) rfl)))) (mvT hZ (hw _ (List.mem_of_getElem? (i := 32) rfl))) (mvT hZ (hw _ (List.mem_of_getElem? (i := 31) rfl))) (by decide) (backOf (W := 0) (rm_else1 l Z a0 hw [] a__VALUES a_GROUP_1 a_GROUP_2 a_GROUP_3 a_EMPTY ka__VALUES HW b19 a_GROUP_1 T19.heap n0 old19 p19_1) hZ (hw _ (List.mem_of_getElem? (i := 33) rfl)) (hw _ (List.mem_of_getElem? (i := 26) rfl)) (by decide) (by decide)) q20a q20c (g := (mkF m 19 #[.val (.int p1), .val (.int p2), .val (.int (1 : Int32)), .unset, .unset] [.null, (.ref b19)])) rfl (by rw [hml]; rfl) (Steps.refl _) (argsL := [.null]) (rest := []) (lenOf pd_0 rfl) rfl (by show 2 * 0 + _ ≤ _; exact Nat.le_of_eq rfl) (hb hby at_19) (fun _ _ => ⟨rfl, rfl, (by decide : 2 + 0 ≤ _), (by decide : 4 + 0 ≤ _)⟩)
      dsimp only [Pt.U, Pt.locs, Pt.cells, Pt.slots] at X20 l20 y20 z20 st20 hQ20
      subst l20 y20 z20
      obtain ⟨rfl, Nq20, e20⟩ := hQ20
      have N20 := Fr.app N19 Nq20
      refine Go.step (fun t_ k_ => st20.trans k_) ?_
      show Go p e below _ (T20.setTop (mkF m 22 #[.val (.int p1), .val (.int p2), .val (.int (1 : Int32)), .unset, .unset] [(.ref a_GROUP_1)]))
      obtain ⟨T21, X21, e21, st21⟩ := castY X20 hx hZ hown (hw _ (List.mem_of_getElem? (i := 56) rfl)) e20 (Ins.self (Ea_GROUP_1.ext old19.2)) (g := (mkF m 22 #[.val (.int p1), .val (.int p2), .val (.int (1 : Int32)), .unset, .unset] [(.ref a_GROUP_1)])) rfl rfl (hb hby at_22)
      refine Go.step st21 ?_
      show Go p e below _ (T21.setTop (mkF m 25 #[.val (.int p1), .val (.int p2), .val (.int (1 : Int32)), .unset, .unset] [(.ref a_GROUP_1)]))
      refine Go.step (fun t_ k_ => XS.astoreN X21.here hx rfl (hb hby at_25) rfl rfl (l' := #[.val (.int p1), .val (.int p2), .val (.int (1 : Int32)), .val (.ref a_GROUP_1), .unset]) rfl k_) ?_
      show Go p e below _ (T21.setTop (mkF m 26 #[.val (.int p1), .val (.int p2), .val (.int (1 : Int32)), .val (.ref a_GROUP_1), .unset] []))
      refine Go.step (fun t_ k_ => XS.iloadN X21.here hx rfl (hb hby at_26) rfl k_) ?_
      show Go p e below _ (T21.setTop (mkF m 27 #[.val (.int p1), .val (.int p2), .val (.int (1 : Int32)), .val (.ref a_GROUP_1), .unset] [(.int (1 : Int32))]))
      obtain ⟨_, _, ⟨T22, L22, k22, n22⟩, -, X22, ⟨Lc22, hQ22, l22, y22, z22⟩, st22⟩ := Jvm.LawKit.callS X21 hx (y := (⟨"com/example/overcap/overcap/plans/ManagementGroupNumberedPinLaw", "expected", "(I)Lcom/example/overcap/overcap/plans/ManagementGroup;"⟩ : MethodName)) hown (mvT hZ (hw _ (List.mem_of_getElem? (i := 36) rfl))) (mvT hZ (hw _ (List.mem_of_getElem? (i := 37) rfl))) (mvT hZ (hw _ (List.mem_of_getElem? (i := 38) rfl))) (mvT hZ (hw _ (List.mem_of_getElem? (i := 39) rfl))) (by decide) (backOf (W := 0) (rm_exp1 l Z a0 hw [] a__VALUES a_GROUP_1 a_GROUP_2 a_GROUP_3 a_EMPTY ka__VALUES HW  T19.heap n0 old19 ) hZ (hw _ (List.mem_of_getElem? (i := 39) rfl)) (hw _ (List.mem_of_getElem? (i := 38) rfl)) (by decide) (by decide)) (g := (mkF m 27 #[.val (.int p1), .val (.int p2), .val (.int (1 : Int32)), .val (.ref a_GROUP_1), .unset] [(.int (1 : Int32))])) rfl (by rw [hml]; rfl) (argsL := [(.int (1 : Int32))]) (rest := []) (lenOf pd_6 rfl) rfl (by show 2 * 0 + _ ≤ _; exact Nat.le_of_eq rfl) (hb hby at_27) (fun _ _ => ⟨rfl, e21, (by decide : 2 + 0 ≤ _), (by decide : 4 + 0 ≤ _)⟩)
      dsimp only [Pt.U, Pt.locs, Pt.cells, Pt.slots] at X22 l22 y22 z22 st22 hQ22
      subst l22 y22 z22
      obtain ⟨rfl, Nq22, e22⟩ := hQ22
      have N22 := Fr.app N20 Nq22
      refine Go.step st22 ?_
      show Go p e below _ (T22.setTop (mkF m 30 #[.val (.int p1), .val (.int p2), .val (.int (1 : Int32)), .val (.ref a_GROUP_1), .unset] [(.ref a_GROUP_1)]))
      refine Go.step (fun t_ k_ => XS.astore X22.here hx rfl (hb hby at_30) rfl rfl (l' := #[.val (.int p1), .val (.int p2), .val (.int (1 : Int32)), .val (.ref a_GROUP_1), .val (.ref a_GROUP_1)]) rfl k_) ?_
      show Go p e below _ (T22.setTop (mkF m 32 #[.val (.int p1), .val (.int p2), .val (.int (1 : Int32)), .val (.ref a_GROUP_1), .val (.ref a_GROUP_1)] []))
      refine Go.step (fun t_ k_ => XS.aloadN X22.here hx rfl (hb hby at_32) rfl rfl k_) ?_
      show Go p e below _ (T22.setTop (mkF m 33 #[.val (.int p1), .val (.int p2), .val (.int (1 : Int32)), .val (.ref a_GROUP_1), .val (.ref a_GROUP_1)] [(.ref a_GROUP_1)]))
      refine Go.step (fun t_ k_ => XS.aload X22.here hx rfl (hb hby at_33) rfl rfl k_) ?_
      show Go p e below _ (T22.setTop (mkF m 35 #[.val (.int p1), .val (.int p2), .val (.int (1 : Int32)), .val (.ref a_GROUP_1), .val (.ref a_GROUP_1)] [(.ref a_GROUP_1), (.ref a_GROUP_1)]))
      refine Go.step (fun t_ k_ => Jvm.RoadKit.acmp (g := (mkF m 35 #[.val (.int p1), .val (.int p2), .val (.int (1 : Int32)), .val (.ref a_GROUP_1), .val (.ref a_GROUP_1)] [(.ref a_GROUP_1), (.ref a_GROUP_1)])) X22 hx rfl rfl rfl (pc0 := 35) (pc' := 40) (same := true) rfl (hb hby at_35) rfl (decide_eq_true rfl) (by decide) (by decide) k_) ?_
      show Go p e below _ (T22.setTop (mkF m 40 #[.val (.int p1), .val (.int p2), .val (.int (1 : Int32)), .val (.ref a_GROUP_1), .val (.ref a_GROUP_1)] []))
      refine Go.step (fun t_ k_ => XS.aloadN X22.here hx rfl (hb hby at_40) rfl rfl k_) ?_
      show Go p e below _ (T22.setTop (mkF m 41 #[.val (.int p1), .val (.int p2), .val (.int (1 : Int32)), .val (.ref a_GROUP_1), .val (.ref a_GROUP_1)] [(.ref a_GROUP_1)]))
      refine Go.step (fun t_ k_ => XS.ifnullNo X22.here hx rfl (hb hby at_41) rfl k_) ?_
      show Go p e below _ (T22.setTop (mkF m 44 #[.val (.int p1), .val (.int p2), .val (.int (1 : Int32)), .val (.ref a_GROUP_1), .val (.ref a_GROUP_1)] []))
      refine Go.step (fun t_ k_ => XS.aloadN X22.here hx rfl (hb hby at_44) rfl rfl k_) ?_
      show Go p e below _ (T22.setTop (mkF m 45 #[.val (.int p1), .val (.int p2), .val (.int (1 : Int32)), .val (.ref a_GROUP_1), .val (.ref a_GROUP_1)] [(.ref a_GROUP_1)]))
      obtain ⟨cq23, kq23, q23a, q23b, q23c⟩ := isOf hZ e22 (Ea_GROUP_1.ext old19.2)
      obtain ⟨_, _, ⟨T23, L23, k23, n23⟩, -, X23, ⟨Lc23, hQ23, l23, y23, z23⟩, st23⟩ := X22.virtualBack hx (y := (⟨"com/example/overcap/overcap/plans/ManagementGroup", "number", "()I"⟩ : MethodName)) (z := (⟨"com/example/overcap/overcap/plans/ManagementGroup", "number", "()I"⟩ : MethodName)) hown (mvT hZ (hw _ (List.mem_of_getElem? (i := 59) rfl))) (mvT hZ (hw _ (List.mem_of_getElem? (i := 60) rfl))) (notFace_of_selects (args := #[]) (mvT hZ (hw _ (List.mem_of_getElem? (i := 62) rfl)))) (mvT hZ (hw _ (List.mem_of_getElem? (i := 62) rfl))) (mvT hZ (hw _ (List.mem_of_getElem? (i := 61) rfl))) (by decide) (backOf (W := 0) (rm10 l Z a0 hw [] a__VALUES a_GROUP_1 a_GROUP_2 a_GROUP_3 a_EMPTY ka__VALUES HW a_GROUP_1 (1 : Int32) T19.heap n0 old19 Fa_GROUP_1_number) hZ (hw _ (List.mem_of_getElem? (i := 63) rfl)) (hw _ (List.mem_of_getElem? (i := 2) rfl)) (by decide) (by decide)) q23a q23c (g := (mkF m 45 #[.val (.int p1), .val (.int p2), .val (.int (1 : Int32)), .val (.ref a_GROUP_1), .val (.ref a_GROUP_1)] [(.ref a_GROUP_1)])) rfl (by rw [hml]; rfl) (Steps.refl _) (argsL := []) (rest := []) (lenOf pd_7 rfl) rfl (by show 2 * 0 + _ ≤ _; exact Nat.le_of_eq rfl) (hb hby at_45) (fun _ _ => ⟨rfl, e22, (by decide : 2 + 0 ≤ _), (by decide : 4 + 0 ≤ _)⟩)
      dsimp only [Pt.U, Pt.locs, Pt.cells, Pt.slots] at X23 l23 y23 z23 st23 hQ23
      subst l23 y23 z23
      obtain ⟨rfl, Nq23, e23⟩ := hQ23
      have N23 := Fr.app N22 Nq23
      refine Go.step (fun t_ k_ => st23.trans k_) ?_
      show Go p e below _ (T23.setTop (mkF m 48 #[.val (.int p1), .val (.int p2), .val (.int (1 : Int32)), .val (.ref a_GROUP_1), .val (.ref a_GROUP_1)] [(.int (1 : Int32))]))
      refine Go.step (fun t_ k_ => XS.iloadN X23.here hx rfl (hb hby at_48) rfl k_) ?_
      show Go p e below _ (T23.setTop (mkF m 49 #[.val (.int p1), .val (.int p2), .val (.int (1 : Int32)), .val (.ref a_GROUP_1), .val (.ref a_GROUP_1)] [(.int (1 : Int32)), (.int (1 : Int32))]))
      have hc49 : (1 : Int32) = (1 : Int32) := by decide
      refine Go.step (fun t_ k_ => XS.icmpYes X23.here hx rfl (pc0 := 49) (pc' := 54) rfl (hb hby at_49) rfl (teq hc49).1 (by decide) (by decide) k_) ?_
      show Go p e below _ (T23.setTop (mkF m 54 #[.val (.int p1), .val (.int p2), .val (.int (1 : Int32)), .val (.ref a_GROUP_1), .val (.ref a_GROUP_1)] []))
      refine Go.step (fun t_ k_ => XS.iconst X23.here hx rfl (hb hby at_54) k_) ?_
      show Go p e below _ (T23.setTop (mkF m 55 #[.val (.int p1), .val (.int p2), .val (.int (1 : Int32)), .val (.ref a_GROUP_1), .val (.ref a_GROUP_1)] [(.int (1 : Int32))]))
      refine Go.retZ X23 hx (t := .boolean) Bd.returns (by simp) Bd.notSynchronized (hb hby at_55) (by rw [e23]; exact ⟨rfl, N23⟩) (by decide) (by decide)
    next =>
      show Go p e below _ (s₁.setTop (mkF m 14 #[.val (.int p1), .val (.int p2), .val (.int (2 : Int32)), .unset, .unset] []))
      refine Go.step (fun t_ k_ => XS.iloadN X0.here hx rfl (hb hby at_14) rfl k_) ?_
      show Go p e below _ (s₁.setTop (mkF m 15 #[.val (.int p1), .val (.int p2), .val (.int (2 : Int32)), .unset, .unset] [(.int (2 : Int32))]))
      obtain ⟨_, _, ⟨T24, L24, k24, n24⟩, -, X24, ⟨Lc24, hQ24, l24, y24, z24⟩, st24⟩ := Jvm.LawKit.callS X0 hx (y := (⟨"com/example/overcap/overcap/plans/ManagementGroup", "numbered", "(I)Ljava/util/Optional;"⟩ : MethodName)) hown (mvT hZ (hw _ (List.mem_of_getElem? (i := 0) rfl))) (mvT hZ (hw _ (List.mem_of_getElem? (i := 1) rfl))) (mvT hZ (hw _ (List.mem_of_getElem? (i := 2) rfl))) (mvT hZ (hw _ (List.mem_of_getElem? (i := 3) rfl))) (by decide) (backOf (W := 0) (rm_num2 l Z a0 hw [] a__VALUES a_GROUP_1 a_GROUP_2 a_GROUP_3 a_EMPTY ka__VALUES HW  h0 n0 Ol ) hZ (hw _ (List.mem_of_getElem? (i := 3) rfl)) (hw _ (List.mem_of_getElem? (i := 2) rfl)) (by decide) (by decide)) (g := (mkF m 15 #[.val (.int p1), .val (.int p2), .val (.int (2 : Int32)), .unset, .unset] [(.int (2 : Int32))])) rfl (by rw [hml]; rfl) (argsL := [(.int (2 : Int32))]) (rest := []) (lenOf pd_5 rfl) rfl (by show 2 * 0 + _ ≤ _; exact Nat.le_of_eq rfl) (hb hby at_15) (fun _ _ => ⟨rfl, e0, (by decide : 0 + 2 ≤ _), (by decide : 0 + 4 ≤ _)⟩)
      dsimp only [Pt.U, Pt.locs, Pt.cells, Pt.slots] at X24 l24 y24 z24 st24 hQ24
      subst l24 y24 z24
      obtain ⟨b24, rfl, gb_b24, Nq24, K24, p24_0, p24_1⟩ := hQ24
      have nn_b24 : n0 ≤ b24 := Nat.le_trans (old_z0 Ol) gb_b24
      have sz_b24 : h0.size ≤ b24 := Nat.le_trans kp0.1 gb_b24
      have old24 := Ol.keep K24 all0
      have kp24 := kp0.trans K24 all0
      have N24 := Fr.app N0 Nq24
      refine Go.step st24 ?_
      show Go p e below _ (T24.setTop (mkF m 18 #[.val (.int p1), .val (.int p2), .val (.int (2 : Int32)), .unset, .unset] [(.ref b24)]))
      refine Go.step (fun t_ k_ => XS.aconstNull X24.here hx rfl (hb hby at_18) k_) ?_
      show Go p e below _ (T24.setTop (mkF m 19 #[.val (.int p1), .val (.int p2), .val (.int (2 : Int32)), .unset, .unset] [.null, (.ref b24)]))
      obtain ⟨cq25, kq25, q25a, q25b, q25c⟩ := isOf hZ rfl p24_0
      obtain ⟨_, _, ⟨T25, L25, k25, n25⟩, -, X25, ⟨Lc25, hQ25, l25, y25, z25⟩, st25⟩ := X24.virtualBack hx (y := (⟨"java/util/Optional", "orElse", "(Ljava/lang/Object;)Ljava/lang/Object;"⟩ : MethodName)) (z := (⟨"java/util/Optional", "orElse", "(Ljava/lang/Object;)Ljava/lang/Object;"⟩ : MethodName)) hown (mvT hZ (hw _ (List.mem_of_getElem? (i := 29) rfl))) (mvT hZ (hw _ (List.mem_of_getElem? (i := 30) rfl))) (notFace_of_selects (args := #[]) (mvT hZ (hw _ (List.mem_of_getElem? (i := 32) rfl)))) (mvT hZ (hw _ (List.mem_of_getElem? (i := 32) rfl))) (mvT hZ (hw _ (List.mem_of_getElem? (i := 31) rfl))) (by decide) (backOf (W := 0) (rm_else1 l Z a0 hw [] a__VALUES a_GROUP_1 a_GROUP_2 a_GROUP_3 a_EMPTY ka__VALUES HW b24 a_GROUP_2 T24.heap n0 old24 p24_1) hZ (hw _ (List.mem_of_getElem? (i := 33) rfl)) (hw _ (List.mem_of_getElem? (i := 26) rfl)) (by decide) (by decide)) q25a q25c (g := (mkF m 19 #[.val (.int p1), .val (.int p2), .val (.int (2 : Int32)), .unset, .unset] [.null, (.ref b24)])) rfl (by rw [hml]; rfl) (Steps.refl _) (argsL := [.null]) (rest := []) (lenOf pd_0 rfl) rfl (by show 2 * 0 + _ ≤ _; exact Nat.le_of_eq rfl) (hb hby at_19) (fun _ _ => ⟨rfl, rfl, (by decide : 2 + 0 ≤ _), (by decide : 4 + 0 ≤ _)⟩)
      dsimp only [Pt.U, Pt.locs, Pt.cells, Pt.slots] at X25 l25 y25 z25 st25 hQ25
      subst l25 y25 z25
      obtain ⟨rfl, Nq25, e25⟩ := hQ25
      have N25 := Fr.app N24 Nq25
      refine Go.step (fun t_ k_ => st25.trans k_) ?_
      show Go p e below _ (T25.setTop (mkF m 22 #[.val (.int p1), .val (.int p2), .val (.int (2 : Int32)), .unset, .unset] [(.ref a_GROUP_2)]))
      obtain ⟨T26, X26, e26, st26⟩ := castY X25 hx hZ hown (hw _ (List.mem_of_getElem? (i := 56) rfl)) e25 (Ins.self (Ea_GROUP_2.ext old24.2)) (g := (mkF m 22 #[.val (.int p1), .val (.int p2), .val (.int (2 : Int32)), .unset, .unset] [(.ref a_GROUP_2)])) rfl rfl (hb hby at_22)
      refine Go.step st26 ?_
      show Go p e below _ (T26.setTop (mkF m 25 #[.val (.int p1), .val (.int p2), .val (.int (2 : Int32)), .unset, .unset] [(.ref a_GROUP_2)]))
      refine Go.step (fun t_ k_ => XS.astoreN X26.here hx rfl (hb hby at_25) rfl rfl (l' := #[.val (.int p1), .val (.int p2), .val (.int (2 : Int32)), .val (.ref a_GROUP_2), .unset]) rfl k_) ?_
      show Go p e below _ (T26.setTop (mkF m 26 #[.val (.int p1), .val (.int p2), .val (.int (2 : Int32)), .val (.ref a_GROUP_2), .unset] []))
      refine Go.step (fun t_ k_ => XS.iloadN X26.here hx rfl (hb hby at_26) rfl k_) ?_
      show Go p e below _ (T26.setTop (mkF m 27 #[.val (.int p1), .val (.int p2), .val (.int (2 : Int32)), .val (.ref a_GROUP_2), .unset] [(.int (2 : Int32))]))
      obtain ⟨_, _, ⟨T27, L27, k27, n27⟩, -, X27, ⟨Lc27, hQ27, l27, y27, z27⟩, st27⟩ := Jvm.LawKit.callS X26 hx (y := (⟨"com/example/overcap/overcap/plans/ManagementGroupNumberedPinLaw", "expected", "(I)Lcom/example/overcap/overcap/plans/ManagementGroup;"⟩ : MethodName)) hown (mvT hZ (hw _ (List.mem_of_getElem? (i := 36) rfl))) (mvT hZ (hw _ (List.mem_of_getElem? (i := 37) rfl))) (mvT hZ (hw _ (List.mem_of_getElem? (i := 38) rfl))) (mvT hZ (hw _ (List.mem_of_getElem? (i := 39) rfl))) (by decide) (backOf (W := 0) (rm_exp2 l Z a0 hw [] a__VALUES a_GROUP_1 a_GROUP_2 a_GROUP_3 a_EMPTY ka__VALUES HW  T24.heap n0 old24 ) hZ (hw _ (List.mem_of_getElem? (i := 39) rfl)) (hw _ (List.mem_of_getElem? (i := 38) rfl)) (by decide) (by decide)) (g := (mkF m 27 #[.val (.int p1), .val (.int p2), .val (.int (2 : Int32)), .val (.ref a_GROUP_2), .unset] [(.int (2 : Int32))])) rfl (by rw [hml]; rfl) (argsL := [(.int (2 : Int32))]) (rest := []) (lenOf pd_6 rfl) rfl (by show 2 * 0 + _ ≤ _; exact Nat.le_of_eq rfl) (hb hby at_27) (fun _ _ => ⟨rfl, e26, (by decide : 2 + 0 ≤ _), (by decide : 4 + 0 ≤ _)⟩)
      dsimp only [Pt.U, Pt.locs, Pt.cells, Pt.slots] at X27 l27 y27 z27 st27 hQ27
      subst l27 y27 z27
      obtain ⟨rfl, Nq27, e27⟩ := hQ27
      have N27 := Fr.app N25 Nq27
      refine Go.step st27 ?_
      show Go p e below _ (T27.setTop (mkF m 30 #[.val (.int p1), .val (.int p2), .val (.int (2 : Int32)), .val (.ref a_GROUP_2), .unset] [(.ref a_GROUP_2)]))
      refine Go.step (fun t_ k_ => XS.astore X27.here hx rfl (hb hby at_30) rfl rfl (l' := #[.val (.int p1), .val (.int p2), .val (.int (2 : Int32)), .val (.ref a_GROUP_2), .val (.ref a_GROUP_2)]) rfl k_) ?_
      show Go p e below _ (T27.setTop (mkF m 32 #[.val (.int p1), .val (.int p2), .val (.int (2 : Int32)), .val (.ref a_GROUP_2), .val (.ref a_GROUP_2)] []))
      refine Go.step (fun t_ k_ => XS.aloadN X27.here hx rfl (hb hby at_32) rfl rfl k_) ?_
      show Go p e below _ (T27.setTop (mkF m 33 #[.val (.int p1), .val (.int p2), .val (.int (2 : Int32)), .val (.ref a_GROUP_2), .val (.ref a_GROUP_2)] [(.ref a_GROUP_2)]))
      refine Go.step (fun t_ k_ => XS.aload X27.here hx rfl (hb hby at_33) rfl rfl k_) ?_
      show Go p e below _ (T27.setTop (mkF m 35 #[.val (.int p1), .val (.int p2), .val (.int (2 : Int32)), .val (.ref a_GROUP_2), .val (.ref a_GROUP_2)] [(.ref a_GROUP_2), (.ref a_GROUP_2)]))
      refine Go.step (fun t_ k_ => Jvm.RoadKit.acmp (g := (mkF m 35 #[.val (.int p1), .val (.int p2), .val (.int (2 : Int32)), .val (.ref a_GROUP_2), .val (.ref a_GROUP_2)] [(.ref a_GROUP_2), (.ref a_GROUP_2)])) X27 hx rfl rfl rfl (pc0 := 35) (pc' := 40) (same := true) rfl (hb hby at_35) rfl (decide_eq_true rfl) (by decide) (by decide) k_) ?_
      show Go p e below _ (T27.setTop (mkF m 40 #[.val (.int p1), .val (.int p2), .val (.int (2 : Int32)), .val (.ref a_GROUP_2), .val (.ref a_GROUP_2)] []))
      refine Go.step (fun t_ k_ => XS.aloadN X27.here hx rfl (hb hby at_40) rfl rfl k_) ?_
      show Go p e below _ (T27.setTop (mkF m 41 #[.val (.int p1), .val (.int p2), .val (.int (2 : Int32)), .val (.ref a_GROUP_2), .val (.ref a_GROUP_2)] [(.ref a_GROUP_2)]))
      refine Go.step (fun t_ k_ => XS.ifnullNo X27.here hx rfl (hb hby at_41) rfl k_) ?_
      show Go p e below _ (T27.setTop (mkF m 44 #[.val (.int p1), .val (.int p2), .val (.int (2 : Int32)), .val (.ref a_GROUP_2), .val (.ref a_GROUP_2)] []))
      refine Go.step (fun t_ k_ => XS.aloadN X27.here hx rfl (hb hby at_44) rfl rfl k_) ?_
      show Go p e below _ (T27.setTop (mkF m 45 #[.val (.int p1), .val (.int p2), .val (.int (2 : Int32)), .val (.ref a_GROUP_2), .val (.ref a_GROUP_2)] [(.ref a_GROUP_2)]))
      obtain ⟨cq28, kq28, q28a, q28b, q28c⟩ := isOf hZ e27 (Ea_GROUP_2.ext old24.2)
      obtain ⟨_, _, ⟨T28, L28, k28, n28⟩, -, X28, ⟨Lc28, hQ28, l28, y28, z28⟩, st28⟩ := X27.virtualBack hx (y := (⟨"com/example/overcap/overcap/plans/ManagementGroup", "number", "()I"⟩ : MethodName)) (z := (⟨"com/example/overcap/overcap/plans/ManagementGroup", "number", "()I"⟩ : MethodName)) hown (mvT hZ (hw _ (List.mem_of_getElem? (i := 59) rfl))) (mvT hZ (hw _ (List.mem_of_getElem? (i := 60) rfl))) (notFace_of_selects (args := #[]) (mvT hZ (hw _ (List.mem_of_getElem? (i := 62) rfl)))) (mvT hZ (hw _ (List.mem_of_getElem? (i := 62) rfl))) (mvT hZ (hw _ (List.mem_of_getElem? (i := 61) rfl))) (by decide) (backOf (W := 0) (rm10 l Z a0 hw [] a__VALUES a_GROUP_1 a_GROUP_2 a_GROUP_3 a_EMPTY ka__VALUES HW a_GROUP_2 (2 : Int32) T24.heap n0 old24 Fa_GROUP_2_number) hZ (hw _ (List.mem_of_getElem? (i := 63) rfl)) (hw _ (List.mem_of_getElem? (i := 2) rfl)) (by decide) (by decide)) q28a q28c (g := (mkF m 45 #[.val (.int p1), .val (.int p2), .val (.int (2 : Int32)), .val (.ref a_GROUP_2), .val (.ref a_GROUP_2)] [(.ref a_GROUP_2)])) rfl (by rw [hml]; rfl) (Steps.refl _) (argsL := []) (rest := []) (lenOf pd_7 rfl) rfl (by show 2 * 0 + _ ≤ _; exact Nat.le_of_eq rfl) (hb hby at_45) (fun _ _ => ⟨rfl, e27, (by decide : 2 + 0 ≤ _), (by decide : 4 + 0 ≤ _)⟩)
      dsimp only [Pt.U, Pt.locs, Pt.cells, Pt.slots] at X28 l28 y28 z28 st28 hQ28
      subst l28 y28 z28
      obtain ⟨rfl, Nq28, e28⟩ := hQ28
      have N28 := Fr.app N27 Nq28
      refine Go.step (fun t_ k_ => st28.trans k_) ?_
      show Go p e below _ (T28.setTop (mkF m 48 #[.val (.int p1), .val (.int p2), .val (.int (2 : Int32)), .val (.ref a_GROUP_2), .val (.ref a_GROUP_2)] [(.int (2 : Int32))]))
      refine Go.step (fun t_ k_ => XS.iloadN X28.here hx rfl (hb hby at_48) rfl k_) ?_
      show Go p e below _ (T28.setTop (mkF m 49 #[.val (.int p1), .val (.int p2), .val (.int (2 : Int32)), .val (.ref a_GROUP_2), .val (.ref a_GROUP_2)] [(.int (2 : Int32)), (.int (2 : Int32))]))
      have hc49 : (2 : Int32) = (2 : Int32) := by decide
      refine Go.step (fun t_ k_ => XS.icmpYes X28.here hx rfl (pc0 := 49) (pc' := 54) rfl (hb hby at_49) rfl (teq hc49).1 (by decide) (by decide) k_) ?_
      show Go p e below _ (T28.setTop (mkF m 54 #[.val (.int p1), .val (.int p2), .val (.int (2 : Int32)), .val (.ref a_GROUP_2), .val (.ref a_GROUP_2)] []))
      refine Go.step (fun t_ k_ => XS.iconst X28.here hx rfl (hb hby at_54) k_) ?_
      show Go p e below _ (T28.setTop (mkF m 55 #[.val (.int p1), .val (.int p2), .val (.int (2 : Int32)), .val (.ref a_GROUP_2), .val (.ref a_GROUP_2)] [(.int (1 : Int32))]))
      refine Go.retZ X28 hx (t := .boolean) Bd.returns (by simp) Bd.notSynchronized (hb hby at_55) (by rw [e28]; exact ⟨rfl, N28⟩) (by decide) (by decide)
    next =>
      show Go p e below _ (s₁.setTop (mkF m 14 #[.val (.int p1), .val (.int p2), .val (.int (3 : Int32)), .unset, .unset] []))
      refine Go.step (fun t_ k_ => XS.iloadN X0.here hx rfl (hb hby at_14) rfl k_) ?_
      show Go p e below _ (s₁.setTop (mkF m 15 #[.val (.int p1), .val (.int p2), .val (.int (3 : Int32)), .unset, .unset] [(.int (3 : Int32))]))
      obtain ⟨_, _, ⟨T29, L29, k29, n29⟩, -, X29, ⟨Lc29, hQ29, l29, y29, z29⟩, st29⟩ := Jvm.LawKit.callS X0 hx (y := (⟨"com/example/overcap/overcap/plans/ManagementGroup", "numbered", "(I)Ljava/util/Optional;"⟩ : MethodName)) hown (mvT hZ (hw _ (List.mem_of_getElem? (i := 0) rfl))) (mvT hZ (hw _ (List.mem_of_getElem? (i := 1) rfl))) (mvT hZ (hw _ (List.mem_of_getElem? (i := 2) rfl))) (mvT hZ (hw _ (List.mem_of_getElem? (i := 3) rfl))) (by decide) (backOf (W := 0) (rm_num3 l Z a0 hw [] a__VALUES a_GROUP_1 a_GROUP_2 a_GROUP_3 a_EMPTY ka__VALUES HW  h0 n0 Ol ) hZ (hw _ (List.mem_of_getElem? (i := 3) rfl)) (hw _ (List.mem_of_getElem? (i := 2) rfl)) (by decide) (by decide)) (g := (mkF m 15 #[.val (.int p1), .val (.int p2), .val (.int (3 : Int32)), .unset, .unset] [(.int (3 : Int32))])) rfl (by rw [hml]; rfl) (argsL := [(.int (3 : Int32))]) (rest := []) (lenOf pd_5 rfl) rfl (by show 2 * 0 + _ ≤ _; exact Nat.le_of_eq rfl) (hb hby at_15) (fun _ _ => ⟨rfl, e0, (by decide : 0 + 2 ≤ _), (by decide : 0 + 4 ≤ _)⟩)
      dsimp only [Pt.U, Pt.locs, Pt.cells, Pt.slots] at X29 l29 y29 z29 st29 hQ29
      subst l29 y29 z29
      obtain ⟨b29, rfl, gb_b29, Nq29, K29, p29_0, p29_1⟩ := hQ29
      have nn_b29 : n0 ≤ b29 := Nat.le_trans (old_z0 Ol) gb_b29
      have sz_b29 : h0.size ≤ b29 := Nat.le_trans kp0.1 gb_b29
      have old29 := Ol.keep K29 all0
      have kp29 := kp0.trans K29 all0
      have N29 := Fr.app N0 Nq29
      refine Go.step st29 ?_
      show Go p e below _ (T29.setTop (mkF m 18 #[.val (.int p1), .val (.int p2), .val (.int (3 : Int32)), .unset, .unset] [(.ref b29)]))
      refine Go.step (fun t_ k_ => XS.aconstNull X29.here hx rfl (hb hby at_18) k_) ?_
      show Go p e below _ (T29.setTop (mkF m 19 #[.val (.int p1), .val (.int p2), .val (.int (3 : Int32)), .unset, .unset] [.null, (.ref b29)]))
      obtain ⟨cq30, kq30, q30a, q30b, q30c⟩ := isOf hZ rfl p29_0
      obtain ⟨_, _, ⟨T30, L30, k30, n30⟩, -, X30, ⟨Lc30, hQ30, l30, y30, z30⟩, st30⟩ := X29.virtualBack hx (y := (⟨"java/util/Optional", "orElse", "(Ljava/lang/Object;)Ljava/lang/Object;"⟩ : MethodName)) (z := (⟨"java/util/Optional", "orElse", "(Ljava/lang/Object;)Ljava/lang/Object;"⟩ : MethodName)) hown (mvT hZ (hw _ (List.mem_of_getElem? (i := 29) rfl))) (mvT hZ (hw _ (List.mem_of_getElem? (i := 30) rfl))) (notFace_of_selects (args := #[]) (mvT hZ (hw _ (List.mem_of_getElem? (i := 32) rfl)))) (mvT hZ (hw _ (List.mem_of_getElem? (i := 32) rfl))) (mvT hZ (hw _ (List.mem_of_getElem? (i := 31) rfl))) (by decide) (backOf (W := 0) (rm_else1 l Z a0 hw [] a__VALUES a_GROUP_1 a_GROUP_2 a_GROUP_3 a_EMPTY ka__VALUES HW b29 a_GROUP_3 T29.heap n0 old29 p29_1) hZ (hw _ (List.mem_of_getElem? (i := 33) rfl)) (hw _ (List.mem_of_getElem? (i := 26) rfl)) (by decide) (by decide)) q30a q30c (g := (mkF m 19 #[.val (.int p1), .val (.int p2), .val (.int (3 : Int32)), .unset, .unset] [.null, (.ref b29)])) rfl (by rw [hml]; rfl) (Steps.refl _) (argsL := [.null]) (rest := []) (lenOf pd_0 rfl) rfl (by show 2 * 0 + _ ≤ _; exact Nat.le_of_eq rfl) (hb hby at_19) (fun _ _ => ⟨rfl, rfl, (by decide : 2 + 0 ≤ _), (by decide : 4 + 0 ≤ _)⟩)
      dsimp only [Pt.U, Pt.locs, Pt.cells, Pt.slots] at X30 l30 y30 z30 st30 hQ30
      subst l30 y30 z30
      obtain ⟨rfl, Nq30, e30⟩ := hQ30
      have N30 := Fr.app N29 Nq30
      refine Go.step (fun t_ k_ => st30.trans k_) ?_
      show Go p e below _ (T30.setTop (mkF m 22 #[.val (.int p1), .val (.int p2), .val (.int (3 : Int32)), .unset, .unset] [(.ref a_GROUP_3)]))
      obtain ⟨T31, X31, e31, st31⟩ := castY X30 hx hZ hown (hw _ (List.mem_of_getElem? (i := 56) rfl)) e30 (Ins.self (Ea_GROUP_3.ext old29.2)) (g := (mkF m 22 #[.val (.int p1), .val (.int p2), .val (.int (3 : Int32)), .unset, .unset] [(.ref a_GROUP_3)])) rfl rfl (hb hby at_22)
      refine Go.step st31 ?_
      show Go p e below _ (T31.setTop (mkF m 25 #[.val (.int p1), .val (.int p2), .val (.int (3 : Int32)), .unset, .unset] [(.ref a_GROUP_3)]))
      refine Go.step (fun t_ k_ => XS.astoreN X31.here hx rfl (hb hby at_25) rfl rfl (l' := #[.val (.int p1), .val (.int p2), .val (.int (3 : Int32)), .val (.ref a_GROUP_3), .unset]) rfl k_) ?_
      show Go p e below _ (T31.setTop (mkF m 26 #[.val (.int p1), .val (.int p2), .val (.int (3 : Int32)), .val (.ref a_GROUP_3), .unset] []))
      refine Go.step (fun t_ k_ => XS.iloadN X31.here hx rfl (hb hby at_26) rfl k_) ?_
      show Go p e below _ (T31.setTop (mkF m 27 #[.val (.int p1), .val (.int p2), .val (.int (3 : Int32)), .val (.ref a_GROUP_3), .unset] [(.int (3 : Int32))]))
      obtain ⟨_, _, ⟨T32, L32, k32, n32⟩, -, X32, ⟨Lc32, hQ32, l32, y32, z32⟩, st32⟩ := Jvm.LawKit.callS X31 hx (y := (⟨"com/example/overcap/overcap/plans/ManagementGroupNumberedPinLaw", "expected", "(I)Lcom/example/overcap/overcap/plans/ManagementGroup;"⟩ : MethodName)) hown (mvT hZ (hw _ (List.mem_of_getElem? (i := 36) rfl))) (mvT hZ (hw _ (List.mem_of_getElem? (i := 37) rfl))) (mvT hZ (hw _ (List.mem_of_getElem? (i := 38) rfl))) (mvT hZ (hw _ (List.mem_of_getElem? (i := 39) rfl))) (by decide) (backOf (W := 0) (rm_exp3 l Z a0 hw [] a__VALUES a_GROUP_1 a_GROUP_2 a_GROUP_3 a_EMPTY ka__VALUES HW  T29.heap n0 old29 ) hZ (hw _ (List.mem_of_getElem? (i := 39) rfl)) (hw _ (List.mem_of_getElem? (i := 38) rfl)) (by decide) (by decide)) (g := (mkF m 27 #[.val (.int p1), .val (.int p2), .val (.int (3 : Int32)), .val (.ref a_GROUP_3), .unset] [(.int (3 : Int32))])) rfl (by rw [hml]; rfl) (argsL := [(.int (3 : Int32))]) (rest := []) (lenOf pd_6 rfl) rfl (by show 2 * 0 + _ ≤ _; exact Nat.le_of_eq rfl) (hb hby at_27) (fun _ _ => ⟨rfl, e31, (by decide : 2 + 0 ≤ _), (by decide : 4 + 0 ≤ _)⟩)
      dsimp only [Pt.U, Pt.locs, Pt.cells, Pt.slots] at X32 l32 y32 z32 st32 hQ32
      subst l32 y32 z32
      obtain ⟨rfl, Nq32, e32⟩ := hQ32
      have N32 := Fr.app N30 Nq32
      refine Go.step st32 ?_
      show Go p e below _ (T32.setTop (mkF m 30 #[.val (.int p1), .val (.int p2), .val (.int (3 : Int32)), .val (.ref a_GROUP_3), .unset] [(.ref a_GROUP_3)]))
      refine Go.step (fun t_ k_ => XS.astore X32.here hx rfl (hb hby at_30) rfl rfl (l' := #[.val (.int p1), .val (.int p2), .val (.int (3 : Int32)), .val (.ref a_GROUP_3), .val (.ref a_GROUP_3)]) rfl k_) ?_
      show Go p e below _ (T32.setTop (mkF m 32 #[.val (.int p1), .val (.int p2), .val (.int (3 : Int32)), .val (.ref a_GROUP_3), .val (.ref a_GROUP_3)] []))
      refine Go.step (fun t_ k_ => XS.aloadN X32.here hx rfl (hb hby at_32) rfl rfl k_) ?_
      show Go p e below _ (T32.setTop (mkF m 33 #[.val (.int p1), .val (.int p2), .val (.int (3 : Int32)), .val (.ref a_GROUP_3), .val (.ref a_GROUP_3)] [(.ref a_GROUP_3)]))
      refine Go.step (fun t_ k_ => XS.aload X32.here hx rfl (hb hby at_33) rfl rfl k_) ?_
      show Go p e below _ (T32.setTop (mkF m 35 #[.val (.int p1), .val (.int p2), .val (.int (3 : Int32)), .val (.ref a_GROUP_3), .val (.ref a_GROUP_3)] [(.ref a_GROUP_3), (.ref a_GROUP_3)]))
      refine Go.step (fun t_ k_ => Jvm.RoadKit.acmp (g := (mkF m 35 #[.val (.int p1), .val (.int p2), .val (.int (3 : Int32)), .val (.ref a_GROUP_3), .val (.ref a_GROUP_3)] [(.ref a_GROUP_3), (.ref a_GROUP_3)])) X32 hx rfl rfl rfl (pc0 := 35) (pc' := 40) (same := true) rfl (hb hby at_35) rfl (decide_eq_true rfl) (by decide) (by decide) k_) ?_
      show Go p e below _ (T32.setTop (mkF m 40 #[.val (.int p1), .val (.int p2), .val (.int (3 : Int32)), .val (.ref a_GROUP_3), .val (.ref a_GROUP_3)] []))
      refine Go.step (fun t_ k_ => XS.aloadN X32.here hx rfl (hb hby at_40) rfl rfl k_) ?_
      show Go p e below _ (T32.setTop (mkF m 41 #[.val (.int p1), .val (.int p2), .val (.int (3 : Int32)), .val (.ref a_GROUP_3), .val (.ref a_GROUP_3)] [(.ref a_GROUP_3)]))
      refine Go.step (fun t_ k_ => XS.ifnullNo X32.here hx rfl (hb hby at_41) rfl k_) ?_
      show Go p e below _ (T32.setTop (mkF m 44 #[.val (.int p1), .val (.int p2), .val (.int (3 : Int32)), .val (.ref a_GROUP_3), .val (.ref a_GROUP_3)] []))
      refine Go.step (fun t_ k_ => XS.aloadN X32.here hx rfl (hb hby at_44) rfl rfl k_) ?_
      show Go p e below _ (T32.setTop (mkF m 45 #[.val (.int p1), .val (.int p2), .val (.int (3 : Int32)), .val (.ref a_GROUP_3), .val (.ref a_GROUP_3)] [(.ref a_GROUP_3)]))
      obtain ⟨cq33, kq33, q33a, q33b, q33c⟩ := isOf hZ e32 (Ea_GROUP_3.ext old29.2)
      obtain ⟨_, _, ⟨T33, L33, k33, n33⟩, -, X33, ⟨Lc33, hQ33, l33, y33, z33⟩, st33⟩ := X32.virtualBack hx (y := (⟨"com/example/overcap/overcap/plans/ManagementGroup", "number", "()I"⟩ : MethodName)) (z := (⟨"com/example/overcap/overcap/plans/ManagementGroup", "number", "()I"⟩ : MethodName)) hown (mvT hZ (hw _ (List.mem_of_getElem? (i := 59) rfl))) (mvT hZ (hw _ (List.mem_of_getElem? (i := 60) rfl))) (notFace_of_selects (args := #[]) (mvT hZ (hw _ (List.mem_of_getElem? (i := 62) rfl)))) (mvT hZ (hw _ (List.mem_of_getElem? (i := 62) rfl))) (mvT hZ (hw _ (List.mem_of_getElem? (i := 61) rfl))) (by decide) (backOf (W := 0) (rm10 l Z a0 hw [] a__VALUES a_GROUP_1 a_GROUP_2 a_GROUP_3 a_EMPTY ka__VALUES HW a_GROUP_3 (3 : Int32) T29.heap n0 old29 Fa_GROUP_3_number) hZ (hw _ (List.mem_of_getElem? (i := 63) rfl)) (hw _ (List.mem_of_getElem? (i := 2) rfl)) (by decide) (by decide)) q33a q33c (g := (mkF m 45 #[.val (.int p1), .val (.int p2), .val (.int (3 : Int32)), .val (.ref a_GROUP_3), .val (.ref a_GROUP_3)] [(.ref a_GROUP_3)])) rfl (by rw [hml]; rfl) (Steps.refl _) (argsL := []) (rest := []) (lenOf pd_7 rfl) rfl (by show 2 * 0 + _ ≤ _; exact Nat.le_of_eq rfl) (hb hby at_45) (fun _ _ => ⟨rfl, e32, (by decide : 2 + 0 ≤ _), (by decide : 4 + 0 ≤ _)⟩)
      dsimp only [Pt.U, Pt.locs, Pt.cells, Pt.slots] at X33 l33 y33 z33 st33 hQ33
      subst l33 y33 z33
      obtain ⟨rfl, Nq33, e33⟩ := hQ33
      have N33 := Fr.app N32 Nq33
      refine Go.step (fun t_ k_ => st33.trans k_) ?_
      show Go p e below _ (T33.setTop (mkF m 48 #[.val (.int p1), .val (.int p2), .val (.int (3 : Int32)), .val (.ref a_GROUP_3), .val (.ref a_GROUP_3)] [(.int (3 : Int32))]))
      refine Go.step (fun t_ k_ => XS.iloadN X33.here hx rfl (hb hby at_48) rfl k_) ?_
      show Go p e below _ (T33.setTop (mkF m 49 #[.val (.int p1), .val (.int p2), .val (.int (3 : Int32)), .val (.ref a_GROUP_3), .val (.ref a_GROUP_3)] [(.int (3 : Int32)), (.int (3 : Int32))]))
      have hc49 : (3 : Int32) = (3 : Int32) := by decide
      refine Go.step (fun t_ k_ => XS.icmpYes X33.here hx rfl (pc0 := 49) (pc' := 54) rfl (hb hby at_49) rfl (teq hc49).1 (by decide) (by decide) k_) ?_
      show Go p e below _ (T33.setTop (mkF m 54 #[.val (.int p1), .val (.int p2), .val (.int (3 : Int32)), .val (.ref a_GROUP_3), .val (.ref a_GROUP_3)] []))
      refine Go.step (fun t_ k_ => XS.iconst X33.here hx rfl (hb hby at_54) k_) ?_
      show Go p e below _ (T33.setTop (mkF m 55 #[.val (.int p1), .val (.int p2), .val (.int (3 : Int32)), .val (.ref a_GROUP_3), .val (.ref a_GROUP_3)] [(.int (1 : Int32))]))
      refine Go.retZ X33 hx (t := .boolean) Bd.returns (by simp) Bd.notSynchronized (hb hby at_55) (by rw [e33]; exact ⟨rfl, N33⟩) (by decide) (by decide)
    next =>
      refine Go.step (fun t_ k_ => XS.iloadN X0.here hx rfl (hb hby at_14) rfl k_) ?_
      show Go p e below _ (s₁.setTop (mkF m 15 #[.val (.int p1), .val (.int p2), .val (.int n), .unset, .unset] [(.int n)]))
      obtain ⟨_, _, ⟨T34, L34, k34, n34⟩, -, X34, ⟨Lc34, hQ34, l34, y34, z34⟩, st34⟩ := Jvm.LawKit.callS X0 hx (y := (⟨"com/example/overcap/overcap/plans/ManagementGroup", "numbered", "(I)Ljava/util/Optional;"⟩ : MethodName)) hown (mvT hZ (hw _ (List.mem_of_getElem? (i := 0) rfl))) (mvT hZ (hw _ (List.mem_of_getElem? (i := 1) rfl))) (mvT hZ (hw _ (List.mem_of_getElem? (i := 2) rfl))) (mvT hZ (hw _ (List.mem_of_getElem? (i := 3) rfl))) (by decide) (backOf (W := 0) (rm_num0 l Z a0 hw [] a__VALUES a_GROUP_1 a_GROUP_2 a_GROUP_3 a_EMPTY ka__VALUES HW n h0 n0 Ol h_n1 h_n2 h_n3) hZ (hw _ (List.mem_of_getElem? (i := 3) rfl)) (hw _ (List.mem_of_getElem? (i := 2) rfl)) (by decide) (by decide)) (g := (mkF m 15 #[.val (.int p1), .val (.int p2), .val (.int n), .unset, .unset] [(.int n)])) rfl (by rw [hml]; rfl) (argsL := [(.int n)]) (rest := []) (lenOf pd_5 rfl) rfl (by show 2 * 0 + _ ≤ _; exact Nat.le_of_eq rfl) (hb hby at_15) (fun _ _ => ⟨rfl, e0, (by decide : 0 + 1 ≤ _), (by decide : 0 + 3 ≤ _)⟩)
      dsimp only [Pt.U, Pt.locs, Pt.cells, Pt.slots] at X34 l34 y34 z34 st34 hQ34
      subst l34 y34 z34
      obtain ⟨rfl, Nq34, K34⟩ := hQ34
      have old34 := Ol.keep K34 all0
      have kp34 := kp0.trans K34 all0
      have N34 := Fr.app N0 Nq34
      refine Go.step st34 ?_
      show Go p e below _ (T34.setTop (mkF m 18 #[.val (.int p1), .val (.int p2), .val (.int n), .unset, .unset] [(.ref a_EMPTY)]))
      refine Go.step (fun t_ k_ => XS.aconstNull X34.here hx rfl (hb hby at_18) k_) ?_
      show Go p e below _ (T34.setTop (mkF m 19 #[.val (.int p1), .val (.int p2), .val (.int n), .unset, .unset] [.null, (.ref a_EMPTY)]))
      obtain ⟨cq35, kq35, q35a, q35b, q35c⟩ := isOf hZ rfl (Ea_EMPTY.ext old34.2)
      obtain ⟨_, _, ⟨T35, L35, k35, n35⟩, -, X35, ⟨Lc35, hQ35, l35, y35, z35⟩, st35⟩ := X34.virtualBack hx (y := (⟨"java/util/Optional", "orElse", "(Ljava/lang/Object;)Ljava/lang/Object;"⟩ : MethodName)) (z := (⟨"java/util/Optional", "orElse", "(Ljava/lang/Object;)Ljava/lang/Object;"⟩ : MethodName)) hown (mvT hZ (hw _ (List.mem_of_getElem? (i := 29) rfl))) (mvT hZ (hw _ (List.mem_of_getElem? (i := 30) rfl))) (notFace_of_selects (args := #[]) (mvT hZ (hw _ (List.mem_of_getElem? (i := 32) rfl)))) (mvT hZ (hw _ (List.mem_of_getElem? (i := 32) rfl))) (mvT hZ (hw _ (List.mem_of_getElem? (i := 31) rfl))) (by decide) (backOf (W := 0) (rm_else0 l Z a0 hw [] a__VALUES a_GROUP_1 a_GROUP_2 a_GROUP_3 a_EMPTY ka__VALUES HW a_EMPTY T34.heap n0 old34 (Fa_EMPTY_value.ext old34.2)) hZ (hw _ (List.mem_of_getElem? (i := 33) rfl)) (hw _ (List.mem_of_getElem? (i := 26) rfl)) (by decide) (by decide)) q35a q35c (g := (mkF m 19 #[.val (.int p1), .val (.int p2), .val (.int n), .unset, .unset] [.null, (.ref a_EMPTY)])) rfl (by rw [hml]; rfl) (Steps.refl _) (argsL := [.null]) (rest := []) (lenOf pd_0 rfl) rfl (by show 2 * 0 + _ ≤ _; exact Nat.le_of_eq rfl) (hb hby at_19) (fun _ _ => ⟨rfl, rfl, (by decide : 1 + 0 ≤ _), (by decide : 3 + 0 ≤ _)⟩)
      dsimp only [Pt.U, Pt.locs, Pt.cells, Pt.slots] at X35 l35 y35 z35 st35 hQ35
      subst l35 y35 z35
      obtain ⟨rfl, Nq35, e35⟩ := hQ35
      have N35 := Fr.app N34 Nq35
      refine Go.step (fun t_ k_ => st35.trans k_) ?_
      show Go p e below _ (T35.setTop (mkF m 22 #[.val (.int p1), .val (.int p2), .val (.int n), .unset, .unset] [.null]))
      refine Go.step (fun t_ k_ => X35.checkcastNull hx (g := (mkF m 22 #[.val (.int p1), .val (.int p2), .val (.int n), .unset, .unset] [.null])) rfl rfl (hb hby at_22) _ k_) ?_
      show Go p e below _ (T35.setTop (mkF m 25 #[.val (.int p1), .val (.int p2), .val (.int n), .unset, .unset] [.null]))
      refine Go.step (fun t_ k_ => XS.astoreN X35.here hx rfl (hb hby at_25) rfl rfl (l' := #[.val (.int p1), .val (.int p2), .val (.int n), .val .null, .unset]) rfl k_) ?_
      show Go p e below _ (T35.setTop (mkF m 26 #[.val (.int p1), .val (.int p2), .val (.int n), .val .null, .unset] []))
      refine Go.step (fun t_ k_ => XS.iloadN X35.here hx rfl (hb hby at_26) rfl k_) ?_
      show Go p e below _ (T35.setTop (mkF m 27 #[.val (.int p1), .val (.int p2), .val (.int n), .val .null, .unset] [(.int n)]))
      obtain ⟨_, _, ⟨T36, L36, k36, n36⟩, -, X36, ⟨Lc36, hQ36, l36, y36, z36⟩, st36⟩ := Jvm.LawKit.callS X35 hx (y := (⟨"com/example/overcap/overcap/plans/ManagementGroupNumberedPinLaw", "expected", "(I)Lcom/example/overcap/overcap/plans/ManagementGroup;"⟩ : MethodName)) hown (mvT hZ (hw _ (List.mem_of_getElem? (i := 36) rfl))) (mvT hZ (hw _ (List.mem_of_getElem? (i := 37) rfl))) (mvT hZ (hw _ (List.mem_of_getElem? (i := 38) rfl))) (mvT hZ (hw _ (List.mem_of_getElem? (i := 39) rfl))) (by decide) (backOf (W := 0) (rm_exp0 l Z a0 hw [] a__VALUES a_GROUP_1 a_GROUP_2 a_GROUP_3 a_EMPTY ka__VALUES HW n T34.heap n0 old34 h_n1 h_n2 h_n3) hZ (hw _ (List.mem_of_getElem? (i := 39) rfl)) (hw _ (List.mem_of_getElem? (i := 38) rfl)) (by decide) (by decide)) (g := (mkF m 27 #[.val (.int p1), .val (.int p2), .val (.int n), .val .null, .unset] [(.int n)])) rfl (by rw [hml]; rfl) (argsL := [(.int n)]) (rest := []) (lenOf pd_6 rfl) rfl (by show 2 * 0 + _ ≤ _; exact Nat.le_of_eq rfl) (hb hby at_27) (fun _ _ => ⟨rfl, e35, (by decide : 1 + 0 ≤ _), (by decide : 3 + 0 ≤ _)⟩)
      dsimp only [Pt.U, Pt.locs, Pt.cells, Pt.slots] at X36 l36 y36 z36 st36 hQ36
      subst l36 y36 z36
      obtain ⟨rfl, Nq36, e36⟩ := hQ36
      have N36 := Fr.app N35 Nq36
      refine Go.step st36 ?_
      show Go p e below _ (T36.setTop (mkF m 30 #[.val (.int p1), .val (.int p2), .val (.int n), .val .null, .unset] [.null]))
      refine Go.step (fun t_ k_ => XS.astore X36.here hx rfl (hb hby at_30) rfl rfl (l' := #[.val (.int p1), .val (.int p2), .val (.int n), .val .null, .val .null]) rfl k_) ?_
      show Go p e below _ (T36.setTop (mkF m 32 #[.val (.int p1), .val (.int p2), .val (.int n), .val .null, .val .null] []))
      refine Go.step (fun t_ k_ => XS.aloadN X36.here hx rfl (hb hby at_32) rfl rfl k_) ?_
      show Go p e below _ (T36.setTop (mkF m 33 #[.val (.int p1), .val (.int p2), .val (.int n), .val .null, .val .null] [.null]))
      refine Go.step (fun t_ k_ => XS.aload X36.here hx rfl (hb hby at_33) rfl rfl k_) ?_
      show Go p e below _ (T36.setTop (mkF m 35 #[.val (.int p1), .val (.int p2), .val (.int n), .val .null, .val .null] [.null, .null]))
      refine Go.step (fun t_ k_ => Jvm.RoadKit.acmp (g := (mkF m 35 #[.val (.int p1), .val (.int p2), .val (.int n), .val .null, .val .null] [.null, .null])) X36 hx rfl rfl rfl (pc0 := 35) (pc' := 40) (same := true) rfl (hb hby at_35) rfl (decide_eq_true rfl) (by decide) (by decide) k_) ?_
      show Go p e below _ (T36.setTop (mkF m 40 #[.val (.int p1), .val (.int p2), .val (.int n), .val .null, .val .null] []))
      refine Go.step (fun t_ k_ => XS.aloadN X36.here hx rfl (hb hby at_40) rfl rfl k_) ?_
      show Go p e below _ (T36.setTop (mkF m 41 #[.val (.int p1), .val (.int p2), .val (.int n), .val .null, .val .null] [.null]))
      refine Go.step (fun t_ k_ => XS.ifnullYes X36.here hx rfl (pc0 := 41) (pc' := 54) rfl (hb hby at_41) rfl (by decide) (by decide) k_) ?_
      show Go p e below _ (T36.setTop (mkF m 54 #[.val (.int p1), .val (.int p2), .val (.int n), .val .null, .val .null] []))
      refine Go.step (fun t_ k_ => XS.iconst X36.here hx rfl (hb hby at_54) k_) ?_
      show Go p e below _ (T36.setTop (mkF m 55 #[.val (.int p1), .val (.int p2), .val (.int n), .val .null, .val .null] [(.int (1 : Int32))]))
      refine Go.retZ X36 hx (t := .boolean) Bd.returns (by simp) Bd.notSynchronized (hb hby at_55) (by rw [e36]; exact ⟨rfl, N36⟩) (by decide) (by decide)
set_option maxRecDepth 65536 in
set_option maxHeartbeats 40000000 in
theorem comes_1 {Post : Tables → Env → Array Value → State → Outcome → State → Prop} (hpost : ∀ tb e args s v u, (limb_1_1.after args s (.returned v) u = true ∧ limb_1_2.after args s (.returned v) u = true ∧ True) → FrameEnd s (.returned v) u (Jvm.fieldLocs frame_1_writes args s ++ Jvm.arrayLocs frame_1_arrays args s ++ Jvm.staticLocs frame_1_statics s) 16 128 → Post tb e args s (.returned v) u) :
    ArmFor flags0 classFile x code maxLocals ret World_1 tables_1 room_1 Calls_1 rest_1 Pre_1 Post := by
  intro l hfl _ _ p e ha hc hk s m args below hf hA hF happ hP
  obtain ⟨hcalls, hrest, hpre⟩ := hP
  obtain ⟨-, -, -, hnamed, -, -, -, hat⟩ := (Spec.applies_iff hf).mp happ
  obtain ⟨hg, hn⟩ := and_e (Cond.before_iff.mp (show (Jvm.Cond.and given_1 narrow_1).before args s = true from hpre))
  obtain ⟨hgl, hgr⟩ := and_e hg
  obtain ⟨hgrl, hgrr⟩ := and_e hgr
  obtain ⟨w0, w1, rfl⟩ : ∃ w0 w1 : Value, args = #[w0, w1] := by
    have hs : args.size = 2 := by simpa [Cond.value, given_1] using hgl
    obtain ⟨L⟩ := args
    match L, hs with
    | [w0, w1], _ => exact ⟨w0, w1, rfl⟩
  have hw := fun d (hd : d ∈ tables_1) => atoms_spec (ws := Jvm.Cond.code x code maxLocals ret :: tables_1) hat d (List.mem_cons_of_mem _ hd)
  have hfit : Fit s := fun {y c} hc i hi => by
    obtain ⟨ha, rfl⟩ := Array.getElem?_eq_some_iff.mp hc
    have q := List.all_eq_true.mp ((Array.all_eq_true_iff_forall_mem.mp hF) _ (Array.getElem_mem ha)) i (List.mem_range.mpr hi)
    simpa [Array.getElem?_eq_getElem hi] using q
  obtain ⟨hsets, hown0⟩ := atoms_of _ (rest_1_c_eq ▸ (show rest_1_c.before _ s = true from hrest))
  have hr0 := Cond.before_iff.mp hown0
  obtain ⟨i0, ei0⟩ := is_v hgrl
  obtain rfl : w0 = (.int i0) := Option.some.inj ei0
  obtain ⟨i1, ei1⟩ := is_v hgrr
  obtain rfl : w1 = (.int i1) := Option.some.inj ei1
  obtain ⟨hnl, hnr⟩ := and_e hn
  obtain ⟨hnrl, hnrr⟩ := and_e hnr
  obtain ⟨hnrrl, hnrrr⟩ := and_e hnrr
  obtain ⟨hnrrrl, hnrrrr⟩ := and_e hnrrr
  obtain ⟨hnrrrrl, hnrrrrr⟩ := and_e hnrrrr
  obtain ⟨hnrrrrrl, hnrrrrrr⟩ := and_e hnrrrrr
  obtain ⟨hnrrrrrrl, hnrrrrrrr⟩ := and_e hnrrrrrr
  obtain ⟨hnrrrrrrrl, hnrrrrrrrr⟩ := and_e hnrrrrrrr
  obtain ⟨hnrrrrrrrrl, hnrrrrrrrrr⟩ := and_e hnrrrrrrrr
  obtain ⟨hnrrrrrrrrrl, hnrrrrrrrrrr⟩ := and_e hnrrrrrrrrr
  obtain ⟨hnrrrrrrrrrrl, hnrrrrrrrrrrr⟩ := and_e hnrrrrrrrrrr
  obtain ⟨a__VALUES, eva__VALUES⟩ := arr_v hnl
  obtain ⟨cla__VALUES, Ara__VALUES⟩ := Arr.start eva__VALUES hnl
  obtain ⟨a_GROUP_1, eva_GROUP_1⟩ := exa_v hnrrrl
  obtain ⟨a_GROUP_2, eva_GROUP_2⟩ := exa_v hnrrrrrl
  obtain ⟨a_GROUP_3, eva_GROUP_3⟩ := exa_v hnrrrrrrrl
  obtain ⟨a_EMPTY, eva_EMPTY⟩ := exa_v (Cond.before_iff.mp (hsets _ (List.mem_of_getElem? (i := 2) rfl)))
  have ela__VALUES_0 := eq_ref hnrrrrl eva_GROUP_1
  have ela__VALUES_1 := eq_ref hnrrrrrrl eva_GROUP_2
  have ela__VALUES_2 := eq_ref hnrrrrrrrrl eva_GROUP_3
  obtain ⟨q1a__VALUES, q2a__VALUES⟩ := len_start Ara__VALUES eva__VALUES (eq_int hnrrl)
  have ela__VALUES_0' := elem_start (n := 0) Ara__VALUES eva__VALUES ela__VALUES_0 (by decide)
  have ela__VALUES_1' := elem_start (n := 1) Ara__VALUES eva__VALUES ela__VALUES_1 (by decide)
  have ela__VALUES_2' := elem_start (n := 2) Ara__VALUES eva__VALUES ela__VALUES_2 (by decide)
  obtain ⟨ka__VALUES, hka__VALUES⟩ : ∃ z, z = cla__VALUES.cls := ⟨_, rfl⟩
  have HW : Wd s a__VALUES a_GROUP_1 a_GROUP_2 a_GROUP_3 a_EMPTY ka__VALUES := ⟨Exa.start eva__VALUES hnrl, Sta.start eva__VALUES (Or.inr ⟨(hw _ (List.mem_of_getElem? (i := 2) rfl)), (hw _ (List.mem_of_getElem? (i := 8) rfl))⟩), Exa.start eva_GROUP_1 hnrrrl, Sta.start eva_GROUP_1 (Or.inr ⟨(hw _ (List.mem_of_getElem? (i := 2) rfl)), (hw _ (List.mem_of_getElem? (i := 16) rfl))⟩), Exa.start eva_GROUP_2 hnrrrrrl, Sta.start eva_GROUP_2 (Or.inr ⟨(hw _ (List.mem_of_getElem? (i := 2) rfl)), (hw _ (List.mem_of_getElem? (i := 17) rfl))⟩), Exa.start eva_GROUP_3 hnrrrrrrrl, Sta.start eva_GROUP_3 (Or.inr ⟨(hw _ (List.mem_of_getElem? (i := 2) rfl)), (hw _ (List.mem_of_getElem? (i := 18) rfl))⟩), Exa.start eva_EMPTY (Cond.before_iff.mp (hsets _ (List.mem_of_getElem? (i := 2) rfl))), Sta.start eva_EMPTY (Or.inl (hsets _ (List.mem_of_getElem? (i := 1) rfl))), Fld.start ((fld_at eva_GROUP_1).symm.trans (eq_int hnrrrrrrrrrl)), Fld.start ((fld_at eva_GROUP_2).symm.trans (eq_int hnrrrrrrrrrrl)), Fld.start ((fld_at eva_GROUP_3).symm.trans (eq_int hnrrrrrrrrrrr)), Fld.start ((fld_at eva_EMPTY).symm.trans (null_v (Cond.before_iff.mp (hsets _ (List.mem_of_getElem? (i := 3) rfl))))), hka__VALUES ▸ Arv.start hfit Ara__VALUES q1a__VALUES q2a__VALUES (by decide) (by show Int32.toNatClampNeg 3 = 3; decide) ⟨ela__VALUES_0', ela__VALUES_1', ela__VALUES_2', trivial⟩⟩
  obtain ⟨n, o, h1, h2, h3, _, L, rfl, ⟨rfl, N⟩, hq⟩ := rm0 l s _ hw tables_1 a__VALUES a_GROUP_1 a_GROUP_2 a_GROUP_3 a_EMPTY ka__VALUES HW i0 i1 s.heap s.heap.size (Old.start s)  p e ha hc hk s m _ below hf ((Spec.applies_iff_loose hf).mp happ).1 ⟨rfl, State.Warmed39.refl s, rfl⟩ trivial
  refine ⟨n, _, h1, h2, h3, hpost _ _ _ _ _ _ ⟨Cond.after_iff.mpr rfl, Cond.after_iff.mpr (eq_i res_at (Term.int_eval (1)) rfl), trivial⟩ ⟨hq.1, hq.2.1, (hq.2.2.sift fun y hy => Or.inr (N y hy)).mono (by decide) (by decide)⟩⟩
theorem main_1_1 : Claimed_1_1 := comes_1 fun _ _ _ _ _ _ h hF => ⟨h.1, hF⟩
theorem main_1_2 : Claimed_1_2 := comes_1 fun _ _ _ _ _ _ h hF => ⟨h.2.1, hF⟩
end Jvm.Pilot.@@N@@
namespace Jvm.Pilot.@@N@@
open Jvm Jvm.ClassFile Sem Op Lib Jvm.Free Jvm.Stand Jvm.Pilot.@@N@@.Jvm.D
/-! MADE BY PROGRAM (witnessworld.py) out of the Statement's table words and the real class files: 15 classes; the members and pool entries that the words name. The judged class is class 1, her method 2. -/
namespace start1
open Jvm.ClassFile
def u (s : String) : CpInfo := .utf8 (stringToUtf16 s)
/-- a pool by its gaps: so many unusable entries, then the entry; so many at the end -/
def gap : Nat → List CpInfo → List CpInfo
  | 0, r => r
  | n + 1, r => .unusable :: gap n r
def poolList (es : List (Nat × CpInfo)) (last : Nat) : List CpInfo := es.foldr (fun e r => gap e.1 (e.2 :: r)) (gap last [])
def pool (es : List (Nat × CpInfo)) (last : Nat) : Array CpInfo := ⟨poolList es last⟩
def fileOf (pool : Array CpInfo) (this : Nat) (attrs : Array Attribute := #[]) (ms : Array MethodInfo := #[]) (fl : Nat := 33) (sup : Nat := 0) (ifs : Array Nat := #[]) (fds : Array FieldInfo := #[]) : ClassFile where
  minorVersion := 0
  majorVersion := 65
  constantPool := pool
  accessFlags := fl
  thisClass := this
  superClass := sup
  interfaces := ifs
  fields := fds
  methods := ms
  attributes := attrs
def plain (name : String) (sup : Option ClassId) : Class where
  name := name
  kind := .ordinary
  loader := none
  accessFlags := 33
  super := sup
  interfaces := #[]
  cf := none
  fields := #[]
  methods := #[]
  instanceTypes := #[]
  staticTypes := #[]
  resolved := #[]
  callSites := []
  init := .initialized
  statics := none
  mirror := none

def pool0 : Array CpInfo := pool [(5, u "<init>"), (0, u "()V"), (1, .class_ 10), (1, u "java/lang/Object"), (85, u "clone"), (0, u "()Ljava/lang/Object;")] 26

def k0c0 : Code := { maxStack := 0, maxLocals := 1, code := object_method_1_code, exceptionTable := #[], attributes := #[] }
def k0m0 : Method := { name := "<init>", desc := "()V", sig := { parameters := [], returnType := none }, accessFlags := 1, code := some k0c0 }
def k0m1 : Method := { name := "clone", desc := "()Ljava/lang/Object;", sig := { parameters := [], returnType := some (.object "java/lang/Object") }, accessFlags := 260, code := none }
/-- java/lang/Object -/
def k0 : Class := { plain "java/lang/Object" none with
  accessFlags := 33
  interfaces := #[]
  cf := some (fileOf pool0 8 #[] #[{ accessFlags := 1, nameIndex := 5, descriptorIndex := 6, attributes := #[] }, { accessFlags := 260, nameIndex := 96, descriptorIndex := 97, attributes := #[] }] 33 0 #[] #[])
  fields := #[]
  methods := #[k0m0, k0m1]
  instanceTypes := #[]
  staticTypes := #[]
  resolved := Array.replicate 124 none
  statics := none }

def pool1 : Array CpInfo := pool [(2, .class_ 4), (1, u "java/lang/Object"), (0, u "<init>"), (0, u "()V"), (0, .fieldref 8 9), (0, .class_ 10), (0, .nameAndType 11 12), (0, u "com/example/overcap/overcap/plans/ManagementGroup"), (0, u "GROUP_1"), (0, u "Lcom/example/overcap/overcap/plans/ManagementGroup;"), (0, .fieldref 8 14), (0, .nameAndType 15 12), (0, u "GROUP_2"), (0, .fieldref 8 17), (0, .nameAndType 18 12), (0, u "GROUP_3"), (0, .methodref 8 20), (0, .nameAndType 21 22), (0, u "numbered"), (0, u "(I)Ljava/util/Optional;"), (0, .methodref 24 25), (0, .class_ 26), (0, .nameAndType 27 28), (0, u "java/util/Optional"), (0, u "orElse"), (0, u "(Ljava/lang/Object;)Ljava/lang/Object;"), (0, .methodref 30 31), (0, .class_ 32), (0, .nameAndType 33 34), (0, u "com/example/overcap/overcap/plans/ManagementGroupNumberedPinLaw"), (0, u "expected"), (0, u "(I)Lcom/example/overcap/overcap/plans/ManagementGroup;"), (0, .methodref 8 36), (0, .nameAndType 37 38), (0, u "number"), (0, u "()I"), (3, u "law"), (0, u "(II)Z")] 2

def k1m0 : Method := { name := "<init>", desc := "()V", sig := { parameters := [], returnType := none }, accessFlags := 1, code := none }
def k1c1 : Code := { maxStack := 2, maxLocals := 1, code := method_2_code, exceptionTable := #[], attributes := #[] }
def k1m1 : Method := { name := "expected", desc := "(I)Lcom/example/overcap/overcap/plans/ManagementGroup;", sig := { parameters := [.int], returnType := some (.object "com/example/overcap/overcap/plans/ManagementGroup") }, accessFlags := 10, code := some k1c1 }
def k1c2 : Code := { maxStack := 2, maxLocals := 5, code := code, exceptionTable := #[], attributes := #[] }
def k1m2 : Method := { name := "law", desc := "(II)Z", sig := { parameters := [.int, .int], returnType := some .boolean }, accessFlags := 9, code := some k1c2 }
/-- com/example/overcap/overcap/plans/ManagementGroupNumberedPinLaw -/
def k1 : Class := { plain "com/example/overcap/overcap/plans/ManagementGroupNumberedPinLaw" (some 0) with
  accessFlags := 49
  interfaces := #[]
  cf := some (fileOf pool1 30 #[] #[{ accessFlags := 1, nameIndex := 5, descriptorIndex := 6, attributes := #[] }, { accessFlags := 10, nameIndex := 33, descriptorIndex := 34, attributes := #[] }, { accessFlags := 9, nameIndex := 42, descriptorIndex := 43, attributes := #[] }] 49 2 #[] #[])
  fields := #[]
  methods := #[k1m0, k1m1, k1m2]
  instanceTypes := #[]
  staticTypes := #[]
  resolved := Array.replicate 46 none
  statics := none }

def pool2 : Array CpInfo := pool [(1, .class_ 2), (0, u "java/lang/constant/Constable"), (0, .class_ 4), (0, u "java/lang/Object")] 6

/-- java/lang/constant/Constable -/
def k2 : Class := { plain "java/lang/constant/Constable" (some 0) with
  accessFlags := 1537
  interfaces := #[]
  cf := some (fileOf pool2 1 #[] #[] 1537 3 #[] #[])
  fields := #[]
  methods := #[]
  instanceTypes := #[]
  staticTypes := #[]
  resolved := Array.replicate 11 none
  statics := none }

def pool3 : Array CpInfo := pool [(1, .class_ 2), (0, u "java/lang/Comparable"), (0, .class_ 4), (0, u "java/lang/Object")] 7

/-- java/lang/Comparable -/
def k3 : Class := { plain "java/lang/Comparable" (some 0) with
  accessFlags := 1537
  interfaces := #[]
  cf := some (fileOf pool3 1 #[] #[] 1537 3 #[] #[])
  fields := #[]
  methods := #[]
  instanceTypes := #[]
  staticTypes := #[]
  resolved := Array.replicate 12 none
  statics := none }

def pool4 : Array CpInfo := pool [(1, .class_ 2), (0, u "java/io/Serializable"), (0, .class_ 4), (0, u "java/lang/Object")] 2

/-- java/io/Serializable -/
def k4 : Class := { plain "java/io/Serializable" (some 0) with
  accessFlags := 1537
  interfaces := #[]
  cf := some (fileOf pool4 1 #[] #[] 1537 3 #[] #[])
  fields := #[]
  methods := #[]
  instanceTypes := #[]
  staticTypes := #[]
  resolved := Array.replicate 7 none
  statics := none }

def pool5 : Array CpInfo := pool [(2, .class_ 4), (1, u "java/lang/Enum"), (0, u "name"), (0, u "Ljava/lang/String;"), (2, u "ordinal"), (0, u "I"), (1, .class_ 14), (1, u "java/lang/Object"), (4, u "hash"), (86, .class_ 108), (1, u "java/lang/Enum$EnumDesc"), (2, .class_ 112), (0, u "java/lang/constant/Constable"), (0, .class_ 114), (0, u "java/lang/Comparable"), (0, .class_ 116), (0, u "java/io/Serializable")] 87

/-- java/lang/Enum -/
def k5 : Class := { plain "java/lang/Enum" (some 0) with
  accessFlags := 1057
  interfaces := #[2, 3, 4]
  cf := some (fileOf pool5 2 #[.nestMembers #[106]] #[] 1057 12 #[111, 113, 115] #[{ accessFlags := 18, nameIndex := 5, descriptorIndex := 6, attributes := #[] }, { accessFlags := 18, nameIndex := 9, descriptorIndex := 10, attributes := #[] }, { accessFlags := 2, nameIndex := 19, descriptorIndex := 10, attributes := #[] }])
  fields := #[{ name := "name", type := (.object "java/lang/String"), accessFlags := 18, slot := 0, constantValue := 0 }, { name := "ordinal", type := .int, accessFlags := 18, slot := 1, constantValue := 0 }, { name := "hash", type := .int, accessFlags := 2, slot := 2, constantValue := 0 }]
  methods := #[]
  instanceTypes := #[(.object "java/lang/String"), .int, .int]
  staticTypes := #[]
  resolved := Array.replicate 204 none
  statics := none }

def pool6 : Array CpInfo := pool [(1, .class_ 2), (0, u "com/example/overcap/overcap/plans/ManagementGroup"), (2, u "GROUP_1"), (0, u "Lcom/example/overcap/overcap/plans/ManagementGroup;"), (2, u "GROUP_2"), (2, u "GROUP_3"), (0, .fieldref 1 14), (0, .nameAndType 15 16), (0, u "$VALUES"), (0, u "[Lcom/example/overcap/overcap/plans/ManagementGroup;"), (0, .methodref 18 19), (0, .class_ 16), (0, .nameAndType 20 21), (0, u "clone"), (0, u "()Ljava/lang/Object;"), (1, .class_ 25), (1, u "java/lang/Enum"), (6, .fieldref 1 33), (0, .nameAndType 34 35), (0, u "number"), (0, u "I"), (4, u "of"), (3, u "basePercentage"), (0, u "Lcom/example/overcap/overcap/model/Rational;"), (7, u "serviceIndex"), (0, u "Lcom/example/overcap/overcap/model/YearsMonths;"), (2, u "reductionPerYearBelow"), (0, .methodref 1 59), (0, .nameAndType 60 61), (0, u "values"), (0, u "()[Lcom/example/overcap/overcap/plans/ManagementGroup;"), (0, .methodref 63 64), (0, .class_ 65), (0, .nameAndType 40 66), (0, u "java/util/Optional"), (0, u "(Ljava/lang/Object;)Ljava/util/Optional;"), (0, .methodref 63 68), (0, .nameAndType 69 70), (0, u "empty"), (0, u "()Ljava/util/Optional;"), (22, u "numbered"), (0, u "(I)Ljava/util/Optional;"), (2, u "()I")] 7

def k6c0 : Code := { maxStack := 1, maxLocals := 0, code := prog_44_method_1_code, exceptionTable := #[], attributes := #[] }
def k6m0 : Method := { name := "values", desc := "()[Lcom/example/overcap/overcap/plans/ManagementGroup;", sig := { parameters := [], returnType := some (.array (.object "com/example/overcap/overcap/plans/ManagementGroup")) }, accessFlags := 9, code := some k6c0 }
def k6c1 : Code := { maxStack := 2, maxLocals := 5, code := prog_44_method_4_code, exceptionTable := #[], attributes := #[] }
def k6m1 : Method := { name := "numbered", desc := "(I)Ljava/util/Optional;", sig := { parameters := [.int], returnType := some (.object "java/util/Optional") }, accessFlags := 9, code := some k6c1 }
def k6c2 : Code := { maxStack := 1, maxLocals := 1, code := prog_44_method_5_code, exceptionTable := #[], attributes := #[] }
def k6m2 : Method := { name := "number", desc := "()I", sig := { parameters := [], returnType := some .int }, accessFlags := 1, code := some k6c2 }
/-- com/example/overcap/overcap/plans/ManagementGroup -/
def k6 : Class := { plain "com/example/overcap/overcap/plans/ManagementGroup" (some 5) with
  accessFlags := 16433
  interfaces := #[]
  cf := some (fileOf pool6 1 #[] #[{ accessFlags := 9, nameIndex := 60, descriptorIndex := 61, attributes := #[] }, { accessFlags := 9, nameIndex := 93, descriptorIndex := 94, attributes := #[] }, { accessFlags := 1, nameIndex := 34, descriptorIndex := 97, attributes := #[] }] 16433 23 #[] #[{ accessFlags := 16409, nameIndex := 5, descriptorIndex := 6, attributes := #[] }, { accessFlags := 16409, nameIndex := 9, descriptorIndex := 6, attributes := #[] }, { accessFlags := 16409, nameIndex := 12, descriptorIndex := 6, attributes := #[] }, { accessFlags := 18, nameIndex := 34, descriptorIndex := 35, attributes := #[] }, { accessFlags := 18, nameIndex := 44, descriptorIndex := 45, attributes := #[] }, { accessFlags := 18, nameIndex := 53, descriptorIndex := 54, attributes := #[] }, { accessFlags := 18, nameIndex := 57, descriptorIndex := 45, attributes := #[] }, { accessFlags := 4122, nameIndex := 15, descriptorIndex := 16, attributes := #[] }])
  fields := #[{ name := "GROUP_1", type := (.object "com/example/overcap/overcap/plans/ManagementGroup"), accessFlags := 16409, slot := 0, constantValue := 0 }, { name := "GROUP_2", type := (.object "com/example/overcap/overcap/plans/ManagementGroup"), accessFlags := 16409, slot := 1, constantValue := 0 }, { name := "GROUP_3", type := (.object "com/example/overcap/overcap/plans/ManagementGroup"), accessFlags := 16409, slot := 2, constantValue := 0 }, { name := "number", type := .int, accessFlags := 18, slot := 3, constantValue := 0 }, { name := "basePercentage", type := (.object "com/example/overcap/overcap/model/Rational"), accessFlags := 18, slot := 4, constantValue := 0 }, { name := "serviceIndex", type := (.object "com/example/overcap/overcap/model/YearsMonths"), accessFlags := 18, slot := 5, constantValue := 0 }, { name := "reductionPerYearBelow", type := (.object "com/example/overcap/overcap/model/Rational"), accessFlags := 18, slot := 6, constantValue := 0 }, { name := "$VALUES", type := (.array (.object "com/example/overcap/overcap/plans/ManagementGroup")), accessFlags := 4122, slot := 3, constantValue := 0 }]
  methods := #[k6m0, k6m1, k6m2]
  instanceTypes := #[(.object "java/lang/String"), .int, .int, .int, (.object "com/example/overcap/overcap/model/Rational"), (.object "com/example/overcap/overcap/model/YearsMonths"), (.object "com/example/overcap/overcap/model/Rational")]
  staticTypes := #[(.object "com/example/overcap/overcap/plans/ManagementGroup"), (.object "com/example/overcap/overcap/plans/ManagementGroup"), (.object "com/example/overcap/overcap/plans/ManagementGroup"), (.array (.object "com/example/overcap/overcap/plans/ManagementGroup"))]
  resolved := Array.replicate 105 none
  statics := some 0 }

def pool7 : Array CpInfo := pool [(1, .class_ 2), (0, u "java/lang/Cloneable"), (0, .class_ 4), (0, u "java/lang/Object")] 2

/-- java/lang/Cloneable -/
def k7 : Class := { plain "java/lang/Cloneable" (some 0) with
  accessFlags := 1537
  interfaces := #[]
  cf := some (fileOf pool7 1 #[] #[] 1537 3 #[] #[])
  fields := #[]
  methods := #[]
  instanceTypes := #[]
  staticTypes := #[]
  resolved := Array.replicate 7 none
  statics := none }

def pool8 : Array CpInfo := pool [(1, .fieldref 2 3), (0, .class_ 4), (0, .nameAndType 5 6), (0, u "java/util/Optional"), (0, u "EMPTY"), (0, u "Ljava/util/Optional;"), (0, .methodref 8 9), (0, .class_ 10), (0, .nameAndType 11 12), (0, u "java/lang/Object"), (0, u "<init>"), (0, u "()V"), (0, .fieldref 2 14), (0, .nameAndType 15 16), (0, u "value"), (0, u "Ljava/lang/Object;"), (0, .methodref 18 19), (0, .class_ 20), (0, .nameAndType 21 22), (0, u "java/util/Objects"), (0, u "requireNonNull"), (0, u "(Ljava/lang/Object;)Ljava/lang/Object;"), (0, .methodref 2 24), (0, .nameAndType 11 25), (0, u "(Ljava/lang/Object;)V"), (29, u "empty"), (0, u "()Ljava/util/Optional;"), (8, u "(Ljava/lang/Object;)Ljava/util/Optional;"), (16, u "of"), (82, u "orElse")] 21

def k8c0 : Code := { maxStack := 1, maxLocals := 1, code := jdk_32_method_1_code, exceptionTable := #[], attributes := #[] }
def k8m0 : Method := { name := "empty", desc := "()Ljava/util/Optional;", sig := { parameters := [], returnType := some (.object "java/util/Optional") }, accessFlags := 9, code := some k8c0 }
def k8c1 : Code := { maxStack := 2, maxLocals := 2, code := jdk_32_method_2_code, exceptionTable := #[], attributes := #[] }
def k8m1 : Method := { name := "<init>", desc := "(Ljava/lang/Object;)V", sig := { parameters := [(.object "java/lang/Object")], returnType := none }, accessFlags := 2, code := some k8c1 }
def k8c2 : Code := { maxStack := 3, maxLocals := 1, code := jdk_32_method_3_code, exceptionTable := #[], attributes := #[] }
def k8m2 : Method := { name := "of", desc := "(Ljava/lang/Object;)Ljava/util/Optional;", sig := { parameters := [(.object "java/lang/Object")], returnType := some (.object "java/util/Optional") }, accessFlags := 9, code := some k8c2 }
def k8c3 : Code := { maxStack := 1, maxLocals := 2, code := jdk_32_method_15_code, exceptionTable := #[], attributes := #[] }
def k8m3 : Method := { name := "orElse", desc := "(Ljava/lang/Object;)Ljava/lang/Object;", sig := { parameters := [(.object "java/lang/Object")], returnType := some (.object "java/lang/Object") }, accessFlags := 1, code := some k8c3 }
/-- java/util/Optional -/
def k8 : Class := { plain "java/util/Optional" (some 0) with
  accessFlags := 49
  interfaces := #[]
  cf := some (fileOf pool8 2 #[] #[{ accessFlags := 9, nameIndex := 55, descriptorIndex := 56, attributes := #[] }, { accessFlags := 2, nameIndex := 11, descriptorIndex := 25, attributes := #[] }, { accessFlags := 9, nameIndex := 82, descriptorIndex := 65, attributes := #[] }, { accessFlags := 1, nameIndex := 165, descriptorIndex := 22, attributes := #[] }] 49 8 #[] #[{ accessFlags := 26, nameIndex := 5, descriptorIndex := 6, attributes := #[] }, { accessFlags := 18, nameIndex := 15, descriptorIndex := 16, attributes := #[] }])
  fields := #[{ name := "EMPTY", type := (.object "java/util/Optional"), accessFlags := 26, slot := 0, constantValue := 0 }, { name := "value", type := (.object "java/lang/Object"), accessFlags := 18, slot := 0, constantValue := 0 }]
  methods := #[k8m0, k8m1, k8m2, k8m3]
  instanceTypes := #[(.object "java/lang/Object")]
  staticTypes := #[(.object "java/util/Optional")]
  resolved := Array.replicate 187 none
  statics := some 1 }

def pool9 : Array CpInfo := pool [(2, .class_ 4), (1, u "java/lang/Object"), (0, u "<init>"), (0, u "()V"), (35, .class_ 44), (1, u "java/util/Objects"), (0, u "requireNonNull"), (0, u "(Ljava/lang/Object;)Ljava/lang/Object;")] 137

def k9m0 : Method := { name := "<init>", desc := "()V", sig := { parameters := [], returnType := none }, accessFlags := 2, code := none }
def k9c1 : Code := { maxStack := 2, maxLocals := 1, code := jdk_31_method_10_code, exceptionTable := #[], attributes := #[] }
def k9m1 : Method := { name := "requireNonNull", desc := "(Ljava/lang/Object;)Ljava/lang/Object;", sig := { parameters := [(.object "java/lang/Object")], returnType := some (.object "java/lang/Object") }, accessFlags := 9, code := some k9c1 }
/-- java/util/Objects -/
def k9 : Class := { plain "java/util/Objects" (some 0) with
  accessFlags := 49
  interfaces := #[]
  cf := some (fileOf pool9 42 #[] #[{ accessFlags := 2, nameIndex := 5, descriptorIndex := 6, attributes := #[] }, { accessFlags := 9, nameIndex := 45, descriptorIndex := 46, attributes := #[] }] 49 2 #[] #[])
  fields := #[]
  methods := #[k9m0, k9m1]
  instanceTypes := #[]
  staticTypes := #[]
  resolved := Array.replicate 184 none
  statics := none }

/-- the primitive byte -/
def k10 : Class := { plain "byte" none with kind := .primitive 'B', accessFlags := 0x411 }
/-- [B -/
def k11 : Class := { plain "[B" (some 0) with kind := .array 10 .byte, interfaces := #[7, 4], accessFlags := 1041 }

/-- the primitive int -/
def k12 : Class := { plain "int" none with kind := .primitive 'I', accessFlags := 0x411 }
/-- [I -/
def k13 : Class := { plain "[I" (some 0) with kind := .array 12 .int, interfaces := #[7, 4], accessFlags := 1041 }

/-- [Lcom/example/overcap/overcap/plans/ManagementGroup; -/
def k14 : Class := { plain "[Lcom/example/overcap/overcap/plans/ManagementGroup;" (some 0) with kind := .array 6 (.object "com/example/overcap/overcap/plans/ManagementGroup"), interfaces := #[7, 4], accessFlags := 1041 }

def heap : Heap := #[{ cls := 6, slots := #[.ref 3, .ref 4, .ref 5, .ref 2], vm := .statics 6 },
  { cls := 8, slots := #[.ref 6], vm := .statics 8 },
  { cls := 14, slots := #[.ref 3, .ref 4, .ref 5], vm := .none },
  { cls := 6, slots := #[.null, .int 0, .int 0, .int 1, .null, .null, .null], vm := .none },
  { cls := 6, slots := #[.null, .int 0, .int 0, .int 2, .null, .null, .null], vm := .none },
  { cls := 6, slots := #[.null, .int 0, .int 0, .int 3, .null, .null, .null], vm := .none },
  { cls := 8, slots := #[.null], vm := .none }]
def classes : Array Class := #[k0, k1, k2, k3, k4, k5, k6, k7, k8, k9, k10, k11, k12, k13, k14]
def interned : List (Array UInt16 × Addr) := []
def slotsUsed : Nat := 30
def theMethod : MethodId := ⟨1, 2⟩
def args0 : Array Value := #[.int 2, .int 5]
def aboutOver (below : List Frame) : State where
  vm := { classes := classes, interned := interned.toArray }
  heap := heap
  slotsUsed := slotsUsed
  threads := #[{ frames := .invoking theMethod args0 :: below }]
def below0 : List Frame := [.native { method := ⟨0, 0⟩, args := #[] }]
def about1 : State := aboutOver below0
def p0 : Program := .bare "" "" ""
def e0 : Env := launch0.env 0 0 0
theorem w_frames : about1.frames = Frame.invoking theMethod args0 :: below0 := rfl
set_option maxRecDepth 65536 in
theorem w_args : argsFit about1.vm theMethod args0 = true := by decide +kernel
set_option maxRecDepth 65536 in
theorem w_heap : heapFits about1 = true := by decide +kernel
set_option maxRecDepth 65536 in
theorem w_runnable : about1.curStatus? = some .runnable := by decide +kernel
set_option maxRecDepth 65536 in
theorem w_alone : about1.alone = true := by decide +kernel
set_option maxRecDepth 65536 in
theorem w_named : about1.methodNamed? x = some theMethod := by decide +kernel
set_option maxRecDepth 65536 in
theorem w_hears : about1.hears theMethod below0 = true := by decide +kernel
set_option maxRecDepth 65536 in
theorem w_ripe : about1.ripe theMethod args0 below0 = true := by decide +kernel
theorem w_running : about1.status = .running := rfl
set_option maxRecDepth 65536 in
theorem w_room : about1.hasRoom e0.platform room_1 = true :=
  launch0.hasRoom_least _ room_1 (by decide +kernel) (by decide +kernel) (by decide +kernel) (by decide +kernel) (by decide +kernel) (by decide +kernel)
theorem allAtoms_all (ts : List Jvm.Cond) (a : Array Jvm.Value) (st : Jvm.State) : (allAtoms ts).before a st = ts.all (fun c => c.before a st) := by
  induction ts with
  | nil => rfl
  | cons c t ih =>
    show (Jvm.Cond.and c (allAtoms t)).before a st = _
    rw [Jvm.Cond.before_and, ih, List.all_cons]
def words1 : List Jvm.Cond := Jvm.Cond.code x code maxLocals ret :: tables_1
/-- a 'code' word, met by the world's own term for the bytes: nothing is compared byte by byte -/
theorem code_word {y : MethodName} {bytes : ByteArray} {mx : Nat} {rt : Option FieldType} {a : Array Value} {s : State} {m : MethodId} {meth : Method} {c : Code} (h1 : s.methodNamed? y = some m) (h2 : s.vm.method? m = some meth) (h3 : meth.code = some c) (h4 : c.code = bytes)
    (h5 : (c.maxLocals == mx && c.exceptionTable.isEmpty && decide (c.maxStack ≤ mostOperands) && decide (meth.sig.returnType = rt) && !meth.locks && decide (parseMethodDescriptor y.desc = some meth.sig)) = true) : (Jvm.Cond.code y bytes mx rt).before a s = true := by
  simp only [Bool.and_eq_true, beq_iff_eq, Bool.not_eq_true', decide_eq_true_eq] at h5
  obtain ⟨⟨⟨⟨⟨g1, g2⟩, g3⟩, g4⟩, g5⟩, g6⟩ := h5
  simp [Cond.before, Cond.holds, Cond.value, h1, h2, h3, h4, g1, g2, g3, g4, g5, g6]
def isCode : Jvm.Cond → Bool
  | .code _ _ _ _ => true
  | _ => false
theorem all_split {L : List Jvm.Cond} {P : Jvm.Cond → Bool} (h1 : L.all (fun c => isCode c || P c) = true) (h2 : ∀ c ∈ L.filter isCode, P c = true) : L.all P = true := by
  refine List.all_eq_true.mpr fun c hc => ?_
  have h := List.all_eq_true.mp h1 c hc
  rcases Bool.eq_false_or_eq_true (isCode c) with hi | hi
  · exact h2 c (List.mem_filter.mpr ⟨hc, hi⟩)
  · simpa [hi] using h
set_option maxRecDepth 65536 in
theorem w_c0 : (Jvm.Cond.code x code maxLocals ret).before args0 about1 = true := code_word (m := ⟨1, 2⟩) (meth := k1m2) (c := k1c2) (by decide +kernel) rfl rfl rfl (by decide +kernel)
set_option maxRecDepth 65536 in
theorem w_c1 : (Jvm.Cond.code ({ cls := "com/example/overcap/overcap/plans/ManagementGroup", name := "numbered", desc := "(I)Ljava/util/Optional;" } : Jvm.MethodName) prog_44_method_4_code (5 : Nat) (Option.some (Jvm.ClassFile.FieldType.object "java/util/Optional"))).before args0 about1 = true := code_word (m := ⟨6, 1⟩) (meth := k6m1) (c := k6c1) (by decide +kernel) rfl rfl rfl (by decide +kernel)
set_option maxRecDepth 65536 in
theorem w_c2 : (Jvm.Cond.code ({ cls := "com/example/overcap/overcap/plans/ManagementGroup", name := "values", desc := "()[Lcom/example/overcap/overcap/plans/ManagementGroup;" } : Jvm.MethodName) prog_44_method_1_code (0 : Nat) (Option.some (Jvm.ClassFile.FieldType.array (Jvm.ClassFile.FieldType.object "com/example/overcap/overcap/plans/ManagementGroup")))).before args0 about1 = true := code_word (m := ⟨6, 0⟩) (meth := k6m0) (c := k6c0) (by decide +kernel) rfl rfl rfl (by decide +kernel)
set_option maxRecDepth 65536 in
theorem w_c3 : (Jvm.Cond.code ({ cls := "java/util/Optional", name := "empty", desc := "()Ljava/util/Optional;" } : Jvm.MethodName) jdk_32_method_1_code (1 : Nat) (Option.some (Jvm.ClassFile.FieldType.object "java/util/Optional"))).before args0 about1 = true := code_word (m := ⟨8, 0⟩) (meth := k8m0) (c := k8c0) (by decide +kernel) rfl rfl rfl (by decide +kernel)
set_option maxRecDepth 65536 in
theorem w_c4 : (Jvm.Cond.code ({ cls := "java/util/Optional", name := "orElse", desc := "(Ljava/lang/Object;)Ljava/lang/Object;" } : Jvm.MethodName) jdk_32_method_15_code (2 : Nat) (Option.some (Jvm.ClassFile.FieldType.object "java/lang/Object"))).before args0 about1 = true := code_word (m := ⟨8, 3⟩) (meth := k8m3) (c := k8c3) (by decide +kernel) rfl rfl rfl (by decide +kernel)
set_option maxRecDepth 65536 in
theorem w_c5 : (Jvm.Cond.code ({ cls := "com/example/overcap/overcap/plans/ManagementGroupNumberedPinLaw", name := "expected", desc := "(I)Lcom/example/overcap/overcap/plans/ManagementGroup;" } : Jvm.MethodName) method_2_code (1 : Nat) (Option.some (Jvm.ClassFile.FieldType.object "com/example/overcap/overcap/plans/ManagementGroup"))).before args0 about1 = true := code_word (m := ⟨1, 1⟩) (meth := k1m1) (c := k1c1) (by decide +kernel) rfl rfl rfl (by decide +kernel)
set_option maxRecDepth 65536 in
theorem w_c6 : (Jvm.Cond.code ({ cls := "java/util/Optional", name := "of", desc := "(Ljava/lang/Object;)Ljava/util/Optional;" } : Jvm.MethodName) jdk_32_method_3_code (1 : Nat) (Option.some (Jvm.ClassFile.FieldType.object "java/util/Optional"))).before args0 about1 = true := code_word (m := ⟨8, 2⟩) (meth := k8m2) (c := k8c2) (by decide +kernel) rfl rfl rfl (by decide +kernel)
set_option maxRecDepth 65536 in
theorem w_c7 : (Jvm.Cond.code ({ cls := "java/util/Objects", name := "requireNonNull", desc := "(Ljava/lang/Object;)Ljava/lang/Object;" } : Jvm.MethodName) jdk_31_method_10_code (1 : Nat) (Option.some (Jvm.ClassFile.FieldType.object "java/lang/Object"))).before args0 about1 = true := code_word (m := ⟨9, 1⟩) (meth := k9m1) (c := k9c1) (by decide +kernel) rfl rfl rfl (by decide +kernel)
set_option maxRecDepth 65536 in
theorem w_c8 : (Jvm.Cond.code ({ cls := "java/util/Optional", name := "<init>", desc := "(Ljava/lang/Object;)V" } : Jvm.MethodName) jdk_32_method_2_code (2 : Nat) (Option.none : Option Jvm.ClassFile.FieldType)).before args0 about1 = true := code_word (m := ⟨8, 1⟩) (meth := k8m1) (c := k8c1) (by decide +kernel) rfl rfl rfl (by decide +kernel)
set_option maxRecDepth 65536 in
theorem w_c9 : (Jvm.Cond.code ({ cls := "java/lang/Object", name := "<init>", desc := "()V" } : Jvm.MethodName) object_method_1_code (1 : Nat) (Option.none : Option Jvm.ClassFile.FieldType)).before args0 about1 = true := code_word (m := ⟨0, 0⟩) (meth := k0m0) (c := k0c0) (by decide +kernel) rfl rfl rfl (by decide +kernel)
set_option maxRecDepth 65536 in
theorem w_c10 : (Jvm.Cond.code ({ cls := "com/example/overcap/overcap/plans/ManagementGroup", name := "number", desc := "()I" } : Jvm.MethodName) prog_44_method_5_code (1 : Nat) (Option.some Jvm.ClassFile.FieldType.int)).before args0 about1 = true := code_word (m := ⟨6, 2⟩) (meth := k6m2) (c := k6c2) (by decide +kernel) rfl rfl rfl (by decide +kernel)
def codes1 : List Jvm.Cond := [Jvm.Cond.code x code maxLocals ret, Jvm.Cond.code ({ cls := "com/example/overcap/overcap/plans/ManagementGroup", name := "numbered", desc := "(I)Ljava/util/Optional;" } : Jvm.MethodName) prog_44_method_4_code (5 : Nat) (Option.some (Jvm.ClassFile.FieldType.object "java/util/Optional")), Jvm.Cond.code ({ cls := "com/example/overcap/overcap/plans/ManagementGroup", name := "values", desc := "()[Lcom/example/overcap/overcap/plans/ManagementGroup;" } : Jvm.MethodName) prog_44_method_1_code (0 : Nat) (Option.some (Jvm.ClassFile.FieldType.array (Jvm.ClassFile.FieldType.object "com/example/overcap/overcap/plans/ManagementGroup"))), Jvm.Cond.code ({ cls := "java/util/Optional", name := "empty", desc := "()Ljava/util/Optional;" } : Jvm.MethodName) jdk_32_method_1_code (1 : Nat) (Option.some (Jvm.ClassFile.FieldType.object "java/util/Optional")), Jvm.Cond.code ({ cls := "java/util/Optional", name := "orElse", desc := "(Ljava/lang/Object;)Ljava/lang/Object;" } : Jvm.MethodName) jdk_32_method_15_code (2 : Nat) (Option.some (Jvm.ClassFile.FieldType.object "java/lang/Object")), Jvm.Cond.code ({ cls := "com/example/overcap/overcap/plans/ManagementGroupNumberedPinLaw", name := "expected", desc := "(I)Lcom/example/overcap/overcap/plans/ManagementGroup;" } : Jvm.MethodName) method_2_code (1 : Nat) (Option.some (Jvm.ClassFile.FieldType.object "com/example/overcap/overcap/plans/ManagementGroup")), Jvm.Cond.code ({ cls := "java/util/Optional", name := "of", desc := "(Ljava/lang/Object;)Ljava/util/Optional;" } : Jvm.MethodName) jdk_32_method_3_code (1 : Nat) (Option.some (Jvm.ClassFile.FieldType.object "java/util/Optional")), Jvm.Cond.code ({ cls := "java/util/Objects", name := "requireNonNull", desc := "(Ljava/lang/Object;)Ljava/lang/Object;" } : Jvm.MethodName) jdk_31_method_10_code (1 : Nat) (Option.some (Jvm.ClassFile.FieldType.object "java/lang/Object")), Jvm.Cond.code ({ cls := "java/util/Optional", name := "<init>", desc := "(Ljava/lang/Object;)V" } : Jvm.MethodName) jdk_32_method_2_code (2 : Nat) (Option.none : Option Jvm.ClassFile.FieldType), Jvm.Cond.code ({ cls := "java/lang/Object", name := "<init>", desc := "()V" } : Jvm.MethodName) object_method_1_code (1 : Nat) (Option.none : Option Jvm.ClassFile.FieldType), Jvm.Cond.code ({ cls := "com/example/overcap/overcap/plans/ManagementGroup", name := "number", desc := "()I" } : Jvm.MethodName) prog_44_method_5_code (1 : Nat) (Option.some Jvm.ClassFile.FieldType.int)]
set_option maxRecDepth 65536 in
theorem codes_eq : words1.filter isCode = codes1 := rfl
theorem w_codes : ∀ c ∈ words1.filter isCode, c.before args0 about1 = true := by
  rw [codes_eq]
  intro c hc
  simp only [codes1, List.mem_cons, List.not_mem_nil, or_false] at hc
  rcases hc with rfl | rfl | rfl | rfl | rfl | rfl | rfl | rfl | rfl | rfl | rfl
  · exact w_c0
  · exact w_c1
  · exact w_c2
  · exact w_c3
  · exact w_c4
  · exact w_c5
  · exact w_c6
  · exact w_c7
  · exact w_c8
  · exact w_c9
  · exact w_c10
set_option maxRecDepth 65536 in
theorem w_t1 : (words1.take 24).all (fun c => isCode c || c.before args0 about1) = true := by decide +kernel
set_option maxRecDepth 65536 in
theorem w_t2 : ((words1.drop 24).take 24).all (fun c => isCode c || c.before args0 about1) = true := by decide +kernel
set_option maxRecDepth 65536 in
theorem w_t3 : ((words1.drop 24).drop 24).all (fun c => isCode c || c.before args0 about1) = true := by decide +kernel
theorem w_tables : (allAtoms (Jvm.Cond.code x code maxLocals ret :: tables_1)).before args0 about1 = true := by
  rw [allAtoms_all]
  show words1.all (fun c => c.before args0 about1) = true
  refine all_split ?_ w_codes
  rw [← List.take_append_drop 24 words1, List.all_append, w_t1, ← List.take_append_drop 24 (words1.drop 24), List.all_append, w_t2, w_t3]
  rfl
set_option maxRecDepth 65536 in
theorem w_rest : rest_1_c.before args0 about1 = true := by decide +kernel
set_option maxRecDepth 65536 in
theorem w_case : (Jvm.Cond.and given_1 narrow_1).before args0 about1 = true := by decide +kernel
theorem w_applies : (headSpec (Jvm.Cond.code x code maxLocals ret :: tables_1) room_1).applies x e0.platform about1 = true :=
  (Spec.applies_iff w_frames).mpr ⟨w_running, w_runnable, w_alone, w_named, w_hears, w_ripe, w_room, w_tables⟩
theorem atStart : AtStart classFile x code maxLocals ret World_1 tables_1 room_1 Calls_1 rest_1 Pre_1 launch0 p0 e0 about1 theMethod args0 below0 :=
  ⟨lists_1, trivial, launch0.admits_env _ _ _, launch0.least_env, fairChoices_fair.cas, fairChoices_fair.clock, w_frames, w_args, w_heap, w_applies, trivial, w_rest, w_case⟩
end start1
theorem witness_1 : WitnessClaimed_1 := ⟨start1.p0, start1.e0, start1.about1, start1.theMethod, start1.args0, start1.below0, start1.atStart⟩
end Jvm.Pilot.@@N@@
