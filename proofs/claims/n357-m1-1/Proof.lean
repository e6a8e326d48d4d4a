import JvmDerived
import JvmDerived.Pilot.@@N@@Statement
import JvmDerived.Pilot.@@N@@Code
set_option linter.unusedVariables false
set_option linter.unusedSimpArgs false
@@BLOCK:NumsL.lean.txt@@
namespace Jvm.RoadKit
open Sem ClassFile Op Lib Jvm.Stand Jvm.Free Jvm.LawKit
section New
variable {p : Program} {l : Launch} {e : Env} {R : Room} {s : State} {m : MethodId} {args : Array Value} {below : List Frame} {meth : Method} {c : Code} {T : State} {locs : List Loc} {cells slots : Nat}
theorem retI (X : Stand p l e R s m args below meth c T locs cells slots) (hx : p.tables.exec = Jvm.exec) {pc : Nat} {Ls : Array Slot} {z : Int32} {rest : List Value} (hret : meth.sig.returnType = some .int) (hd : decode c.code pc = .ok (.ireturn, 1)) {fs : List Frame}
    (hl : ∀ (f : JFrame) (acts : List Action), f.method = m → f.locked = none → f.entered = [] → (doReturn e (T.setTop f) acts (some (.int z))).1 = T.setFrames fs) : Steps p.tables e below (T.setTop (mkF m pc Ls (.int z :: rest))) (T.setFrames fs) := by
  have hm' : T.vm.method? m = some meth := X.method'
  have hn : narrow .int (.int z) = .int z := rfl
  show Steps p.tables e below (T.setTop { method := m, pc := pc, locals := Ls, stack := _ :: rest, locked := none }) _
  jvm_step X.here [X.here.top, hx, hd, hm', hret, hn]
  first | (intro acts; rw [hl _ acts rfl rfl rfl]) | rw [hl _ _ rfl rfl rfl]
  exact Steps.refl _
end New
end Jvm.RoadKit
namespace Jvm.Pilot.@@N@@
open Jvm Jvm.ClassFile Sem Op Lib Jvm.Free Jvm.Stand Jvm.LawKit Jvm.RoadKit Bundle Jvm.Pilot.@@N@@.Jvm.D
/-- what a walk comes to, said forward -/
def Go (p : Program) (e : Env) (below : List Frame) (R : State → Outcome → Prop) (A : State) : Prop := ∃ t o, Steps p.tables e below A t ∧ R t o
def Fin1 (s : State) (below : List Frame) (Q : Option Value → Heap → List Loc → Prop) (K N : Nat) (t : State) (o : Outcome) : Prop := t.status = .running ∧ Ended t below o ∧ ∃ v L, o = .returned v ∧ Q v t.heap L ∧ FrameEnd s o t L K N
theorem Go.step {p : Program} {e : Env} {below : List Frame} {R : State → Outcome → Prop} {A B : State} (k : ∀ t, Steps p.tables e below A t → Steps p.tables e below B t) (h : Go p e below R A) : Go p e below R B := by
  obtain ⟨t, o, h1, h2⟩ := h
  exact ⟨t, o, k t h1, h2⟩
section GoRet
variable {p : Program} {l : Launch} {e : Env} {R : Room} {s : State} {m : MethodId} {args : Array Value} {below : List Frame} {meth : Method} {c : Code} {T : State} {locs : List Loc} {cells slots : Nat} {Q : Option Value → Heap → List Loc → Prop} {K N pc : Nat} {Ls : Array Slot} {rest : List Value}
theorem Go.retZ (X : Stand p l e R s m args below meth c T locs cells slots) (hx : p.tables.exec = Jvm.exec) {z : Int32} {t : FieldType} (hret : meth.sig.returnType = some t) (ht : t = .boolean ∨ t = .byte ∨ t = .char ∨ t = .short) (hlk : meth.locks = false) (hd : decode c.code pc = .ok (.ireturn, 1)) (hq : Q (some (.int (nar t z))) T.heap locs) (hc : cells ≤ K) (hn : slots ≤ N) : Go p e below (Fin1 s below Q K N) (T.setTop (mkF m pc Ls (.int z :: rest))) := by
  obtain ⟨fs, hr, hrun, hended, hW, hsame⟩ := X.leave (v := some (.int (nar t z))) (fun h => by rw [hret] at h; cases h) hlk
  exact ⟨_, _, retN X hx hret ht hd hr, hrun, hended, _, _, rfl, hq, ⟨_, rfl⟩, hW, hsame.mono hc hn⟩
theorem Go.retI (X : Stand p l e R s m args below meth c T locs cells slots) (hx : p.tables.exec = Jvm.exec) {z : Int32} (hret : meth.sig.returnType = some .int) (hlk : meth.locks = false) (hd : decode c.code pc = .ok (.ireturn, 1)) (hq : Q (some (.int z)) T.heap locs) (hc : cells ≤ K) (hn : slots ≤ N) : Go p e below (Fin1 s below Q K N) (T.setTop (mkF m pc Ls (.int z :: rest))) := by
  obtain ⟨fs, hr, hrun, hended, hW, hsame⟩ := X.leave (v := some (.int z)) (fun h => by rw [hret] at h; cases h) hlk
  exact ⟨_, _, Jvm.RoadKit.retI X hx hret hd hr, hrun, hended, _, _, rfl, hq, ⟨_, rfl⟩, hW, hsame.mono hc hn⟩
theorem Go.retJ (X : Stand p l e R s m args below meth c T locs cells slots) (hx : p.tables.exec = Jvm.exec) {z : Int64} (hret : meth.sig.returnType = some .long) (hlk : meth.locks = false) (hd : decode c.code pc = .ok (.lreturn, 1)) (hq : Q (some (.long z)) T.heap locs) (hc : cells ≤ K) (hn : slots ≤ N) : Go p e below (Fin1 s below Q K N) (T.setTop (mkF m pc Ls (.long z :: rest))) := by
  obtain ⟨fs, hr, hrun, hended, hW, hsame⟩ := X.leave (v := some (.long z)) (fun h => by rw [hret] at h; cases h) hlk
  exact ⟨_, _, retOut X hx hret rfl (Or.inr (Or.inl ⟨rfl, rfl, _, rfl⟩)) hd hr, hrun, hended, _, _, rfl, hq, ⟨_, rfl⟩, hW, hsame.mono hc hn⟩
theorem Go.retR (X : Stand p l e R s m args below meth c T locs cells slots) (hx : p.tables.exec = Jvm.exec) {w : Value} {t : FieldType} (hret : meth.sig.returnType = some t) (ht : t.isReference = true) (hw : w.isRef = true) (hlk : meth.locks = false) (hd : decode c.code pc = .ok (.areturn, 1)) (hq : Q (some w) T.heap locs) (hc : cells ≤ K) (hn : slots ≤ N) : Go p e below (Fin1 s below Q K N) (T.setTop (mkF m pc Ls (w :: rest))) := by
  obtain ⟨fs, hr, hrun, hended, hW, hsame⟩ := X.leave (v := some w) (fun h => by rw [hret] at h; cases h) hlk
  have hnw : narrow t w = w := by rcases ref_cases hw with rfl | ⟨a, rfl⟩ <;> cases t <;> first | rfl | (cases ht)
  exact ⟨_, _, retOut X hx hret hnw (Or.inr (Or.inr (Or.inr (Or.inr ⟨rfl, ht, hw⟩)))) hd hr, hrun, hended, _, _, rfl, hq, ⟨_, rfl⟩, hW, hsame.mono hc hn⟩
theorem Go.retV (X : Stand p l e R s m args below meth c T locs cells slots) (hx : p.tables.exec = Jvm.exec) (hret : meth.sig.returnType = none) (hlk : meth.locks = false) (hd : decode c.code pc = .ok (.return_, 1)) (hq : Q none T.heap locs) (hc : cells ≤ K) (hn : slots ≤ N) : Go p e below (Fin1 s below Q K N) (T.setTop (mkF m pc Ls [])) := by
  obtain ⟨fs, hr, hrun, hended, hW, hsame⟩ := X.leave (v := none) (fun _ => rfl) hlk
  exact ⟨_, _, X.returnOut hx hret hd hr, hrun, hended, _, _, rfl, hq, ⟨_, rfl⟩, hW, hsame.mono hc hn⟩
end GoRet
def Fin2 (s : State) (below : List Frame) (Q : Option Value → Heap → List Loc → Prop) (K N : Nat) (t : State) (o : Outcome) : Prop := t.status = .running ∧ Ended t below o ∧ ∃ v L, o = .returned v ∧ Q v t.heap L ∧ ReturnedEndW s o t L K N
theorem wmono {s t : State} {o : Outcome} {L : List Loc} {k n k' n' : Nat} (h : ReturnedEndW s o t L k n) (h1 : k ≤ k') (h2 : n ≤ n') : ReturnedEndW s o t L k' n' := ⟨h.1, h.2.1, h.2.2.1, h.2.2.2.mono h1 h2⟩
section GoRetW
variable {p : Program} {l : Launch} {e : Env} {R : Room} {s : State} {vm0 : Vm} {m : MethodId} {args : Array Value} {below : List Frame} {meth : Method} {c : Code} {T : State} {locs : List Loc} {cells slots : Nat} {Q : Option Value → Heap → List Loc → Prop} {K N pc k0 : Nat} {Ls : Array Slot} {rest : List Value}
theorem GoW.retZ (X : Stand p l e R (s.setVm vm0) m args below meth c T locs cells slots) (hS : s.Since vm0 k0) (hk : k0 ≤ T.heap.size) (hx : p.tables.exec = Jvm.exec) {z : Int32} {t : FieldType} (hret : meth.sig.returnType = some t) (ht : t = .boolean ∨ t = .byte ∨ t = .char ∨ t = .short) (hlk : meth.locks = false) (hd : decode c.code pc = .ok (.ireturn, 1)) (hq : Q (some (.int (nar t z))) T.heap locs) (hc : cells ≤ K) (hn : slots ≤ N) : Go p e below (Fin2 s below Q K N) (T.setTop (mkF m pc Ls (.int z :: rest))) := by
  obtain ⟨fs, hr, hrun, hended, hW⟩ := X.leaveW hS hk (v := some (.int (nar t z))) (fun h => by rw [hret] at h; cases h) hlk
  exact ⟨_, _, retN X hx hret ht hd hr, hrun, hended, _, _, rfl, hq, wmono hW hc hn⟩
theorem GoW.retI (X : Stand p l e R (s.setVm vm0) m args below meth c T locs cells slots) (hS : s.Since vm0 k0) (hk : k0 ≤ T.heap.size) (hx : p.tables.exec = Jvm.exec) {z : Int32} (hret : meth.sig.returnType = some .int) (hlk : meth.locks = false) (hd : decode c.code pc = .ok (.ireturn, 1)) (hq : Q (some (.int z)) T.heap locs) (hc : cells ≤ K) (hn : slots ≤ N) : Go p e below (Fin2 s below Q K N) (T.setTop (mkF m pc Ls (.int z :: rest))) := by
  obtain ⟨fs, hr, hrun, hended, hW⟩ := X.leaveW hS hk (v := some (.int z)) (fun h => by rw [hret] at h; cases h) hlk
  exact ⟨_, _, Jvm.RoadKit.retI X hx hret hd hr, hrun, hended, _, _, rfl, hq, wmono hW hc hn⟩
theorem GoW.retR (X : Stand p l e R (s.setVm vm0) m args below meth c T locs cells slots) (hS : s.Since vm0 k0) (hk : k0 ≤ T.heap.size) (hx : p.tables.exec = Jvm.exec) {w : Value} {t : FieldType} (hret : meth.sig.returnType = some t) (ht : t.isReference = true) (hw : w.isRef = true) (hlk : meth.locks = false) (hd : decode c.code pc = .ok (.areturn, 1)) (hq : Q (some w) T.heap locs) (hc : cells ≤ K) (hn : slots ≤ N) : Go p e below (Fin2 s below Q K N) (T.setTop (mkF m pc Ls (w :: rest))) := by
  obtain ⟨fs, hr, hrun, hended, hW⟩ := X.leaveW hS hk (v := some w) (fun h => by rw [hret] at h; cases h) hlk
  have hnw : narrow t w = w := by rcases ref_cases hw with rfl | ⟨a, rfl⟩ <;> cases t <;> first | rfl | (cases ht)
  exact ⟨_, _, retOut X hx hret hnw (Or.inr (Or.inr (Or.inr (Or.inr ⟨rfl, ht, hw⟩)))) hd hr, hrun, hended, _, _, rfl, hq, wmono hW hc hn⟩
theorem GoW.retV (X : Stand p l e R (s.setVm vm0) m args below meth c T locs cells slots) (hS : s.Since vm0 k0) (hk : k0 ≤ T.heap.size) (hx : p.tables.exec = Jvm.exec) (hret : meth.sig.returnType = none) (hlk : meth.locks = false) (hd : decode c.code pc = .ok (.return_, 1)) (hq : Q none T.heap locs) (hc : cells ≤ K) (hn : slots ≤ N) : Go p e below (Fin2 s below Q K N) (T.setTop (mkF m pc Ls [])) := by
  obtain ⟨fs, hr, hrun, hended, hW⟩ := X.leaveW hS hk (v := none) (fun _ => rfl) hlk
  exact ⟨_, _, X.returnOut hx hret hd hr, hrun, hended, _, _, rfl, hq, wmono hW hc hn⟩
end GoRetW
theorem old_z0 {Z : State} {n0 : Nat} {h : Heap} (O : Old Z n0 h) : n0 ≤ h.size := O.1 ▸ O.2.1
theorem eq_long {args : Array Value} {s : State} {t : Term} {z : Int64} (h : (Jvm.Cond.eq t (.long z)).value args s none s [] = some true) : t.eval args s none [] s = some (.long z) := by
  simp only [Cond.value, Term.eval] at h
  cases e : t.eval args s none [] s with
  | none => simp [e] at h
  | some v => cases v <;> simp_all
theorem eq_int {args : Array Value} {s : State} {t : Term} {z : Int32} (h : (Jvm.Cond.eq t (.int z)).value args s none s [] = some true) : t.eval args s none [] s = some (.int z) := by
  simp only [Cond.value, Term.eval] at h
  cases e : t.eval args s none [] s with
  | none => simp [e] at h
  | some v => cases v <;> simp_all
def Wd (Z : State) (a_TRUE : Addr) (a_UNDETERMINED : Addr) (a_FALSE : Addr) : Prop := (Sta Z Z.heap "com/example/wacl/wacl/core/Condition$Truth" "TRUE" "Lcom/example/wacl/wacl/core/Condition$Truth;" (.ref a_TRUE)) ∧ (Exa Z Z.heap a_TRUE "com/example/wacl/wacl/core/Condition$Truth") ∧ (Sta Z Z.heap "com/example/wacl/wacl/core/Condition$Truth" "UNDETERMINED" "Lcom/example/wacl/wacl/core/Condition$Truth;" (.ref a_UNDETERMINED)) ∧ (Exa Z Z.heap a_UNDETERMINED "com/example/wacl/wacl/core/Condition$Truth") ∧ (Sta Z Z.heap "com/example/wacl/wacl/core/Condition$Truth" "FALSE" "Lcom/example/wacl/wacl/core/Condition$Truth;" (.ref a_FALSE)) ∧ (Exa Z Z.heap a_FALSE "com/example/wacl/wacl/core/Condition$Truth") ∧ (Fld Z Z.heap a_TRUE "java/lang/Enum" "ordinal" "I" (.int (0 : Int32))) ∧ (Fld Z Z.heap a_FALSE "java/lang/Enum" "ordinal" "I" (.int (1 : Int32))) ∧ (Fld Z Z.heap a_UNDETERMINED "java/lang/Enum" "ordinal" "I" (.int (2 : Int32)))
theorem i32_is {k : Int32} (z : Int32) (h : k.toInt = z.toInt) : k = z := Int32.toInt_inj.mp h
theorem rem_bd (x m : Int32) (hm : 0 < m.toInt) : 0 ≤ ((x &&& (2147483647 : Int32)) % m).toInt ∧ ((x &&& (2147483647 : Int32)) % m).toInt < m.toInt := by
  have e1 : (x &&& (2147483647 : Int32)).toInt = x.toInt % 2 ^ 31 := Jvm.Kit.i32_mask x 2147483647 (k := 31) (by decide) (by decide)
  have h0 : 0 ≤ (x &&& (2147483647 : Int32)).toInt := by rw [e1]; exact Int.emod_nonneg _ (by decide)
  rw [Jvm.Kit.i32_rem_nonneg h0]
  exact ⟨Int.emod_nonneg _ (by omega), Int.emod_lt_of_pos _ hm⟩
theorem cs3 {k : Int32} (h : 0 ≤ k.toInt ∧ k.toInt < 3) : k = (0 : Int32) ∨ k = (1 : Int32) ∨ k = (2 : Int32) := by
  have q : k.toInt = 0 ∨ k.toInt = 1 ∨ k.toInt = 2 := by omega
  rcases q with q | q | q
  · exact Or.inl (i32_is 0 q)
  · exact Or.inr (Or.inl (i32_is 1 q))
  · exact Or.inr (Or.inr ((i32_is 2 q)))
theorem d1_0 : decode method_3_code 0 = .ok (.iload_n 0, 1) := by decide +kernel
theorem d1_1 : decode method_3_code 1 = .ok (.ldc 29, 2) := by decide +kernel
theorem d1_3 : decode method_3_code 3 = .ok (.iand, 1) := by decide +kernel
theorem d1_4 : decode method_3_code 4 = .ok (.iconst 3, 1) := by decide +kernel
theorem d1_5 : decode method_3_code 5 = .ok (.irem, 1) := by decide +kernel
theorem d1_6 : decode method_3_code 6 = .ok (.istore_n 1, 1) := by decide +kernel
theorem d1_7 : decode method_3_code 7 = .ok (.iload_n 1, 1) := by decide +kernel
theorem d1_8 : decode method_3_code 8 = .ok (.ifCond .ne 7, 3) := by decide +kernel
theorem d1_11 : decode method_3_code 11 = .ok (.getstatic 30, 3) := by decide +kernel
theorem d1_14 : decode method_3_code 14 = .ok (.areturn, 1) := by decide +kernel
theorem d1_15 : decode method_3_code 15 = .ok (.iload_n 1, 1) := by decide +kernel
theorem d1_16 : decode method_3_code 16 = .ok (.iconst 1, 1) := by decide +kernel
theorem d1_17 : decode method_3_code 17 = .ok (.if_icmp .ne 7, 3) := by decide +kernel
theorem d1_20 : decode method_3_code 20 = .ok (.getstatic 34, 3) := by decide +kernel
theorem d1_23 : decode method_3_code 23 = .ok (.areturn, 1) := by decide +kernel
theorem d1_24 : decode method_3_code 24 = .ok (.getstatic 37, 3) := by decide +kernel
theorem d1_27 : decode method_3_code 27 = .ok (.areturn, 1) := by decide +kernel
theorem pn_0 : plainName "com/example/wacl/wacl/core/TruthAndPinLaw" = true := by first | (simp [plainName, overriddenIn]; done) | decide +kernel
theorem ef_rm1 (m : MethodId) (x0 : Int32)  : entryFrame m #[(.int x0)] 2 = mkF m 0 #[.val (.int x0), .unset] [] := by first | (simp [entryFrame, mkF, argsToLocals, Value.category]; done) | rfl
def Q_rm1 (Z : State) (a_TRUE : Addr) (a_UNDETERMINED : Addr) (a_FALSE : Addr) (x : Int32) (k : Int32) (res : Addr) (h0 : Heap) (n0 : Nat) (v : Option Value) (h : Heap) (L : List Loc) : Prop := v = some (.ref res) ∧ Fr n0 L ∧ h = h0
set_option maxRecDepth 65536 in
set_option maxHeartbeats 40000000 in
theorem rm1 (l : Launch) (Z : State) (a0 : Array Value) (hw : ∀ d ∈ tables_1, d.before a0 Z = true) (ws : List Jvm.Cond) (a_TRUE : Addr) (a_UNDETERMINED : Addr) (a_FALSE : Addr) (HW : Wd Z a_TRUE a_UNDETERMINED a_FALSE) (x : Int32) (k : Int32) (res : Addr) (h0 : Heap) (n0 : Nat) (Ol : Old Z n0 h0) (hk : ((x &&& (2147483647 : Int32)) % (3 : Int32)) = k) (hres : (if k = (0 : Int32) then a_TRUE else if k = (1 : Int32) then a_UNDETERMINED else a_FALSE) = res) :
    MetFree l (⟨"com/example/wacl/wacl/core/TruthAndPinLaw", "pick", "(I)Lcom/example/wacl/wacl/core/Condition$Truth;"⟩ : MethodName) (head1 (Jvm.Cond.code (⟨"com/example/wacl/wacl/core/TruthAndPinLaw", "pick", "(I)Lcom/example/wacl/wacl/core/Condition$Truth;"⟩ : MethodName) method_3_code 2 (some (.object "com/example/wacl/wacl/core/Condition$Truth")) :: ws) ({ frames := 0, cells := 0, slots := 0, locals := 0 } : Room)) (fun a U => a = #[(.int x)] ∧ Z.Warmed39 U.vm ∧ U.heap = h0) (fun _ _ _ _ _ => True) (fun _ U o U' => ∃ v L, o = .returned v ∧ Q_rm1 Z a_TRUE a_UNDETERMINED a_FALSE x k res h0 n0 v U'.heap L ∧ FrameEnd U o U' L ({ frames := 0, cells := 0, slots := 0, locals := 0 } : Room).cells ({ frames := 0, cells := 0, slots := 0, locals := 0 } : Room).slots) := by
  refine MetFree.of_bodySF (plainFor_of_name pn_0) hisR ?_
  intro p e s m args below meth c s₁ Bd hml0 hP hK
  obtain ⟨rfl, hZ, hh⟩ := hP
  have hx := Bd.exec
  have hby := Bd.bytes
  have hml : c.maxLocals = 2 := hml0
  have hown : s.vm.findClass "com/example/wacl/wacl/core/TruthAndPinLaw" = some m.cls := findClass_of_methodNamed Bd.named
  have hnm := (name_of_methodNamed Bd.named Bd.method).1
  have X0 : Stand p l e ({ frames := 0, cells := 0, slots := 0, locals := 0 } : Room) s m #[(.int x)] below meth c s₁ [] 0 0 := Stand.of_body Bd
  have e0 : s₁.heap = h0 := by rw [← hh, Bd.state]; rfl
  have N0 := Fr.nil n0
  have kp0 := Keep.refl h0 []
  show Go p e below (Fin1 s below (Q_rm1 Z a_TRUE a_UNDETERMINED a_FALSE x k res h0 n0) ({ frames := 0, cells := 0, slots := 0, locals := 0 } : Room).cells ({ frames := 0, cells := 0, slots := 0, locals := 0 } : Room).slots) _
  refine Go.step (fun t_ k_ => castTop (ef_rm1 m x) k_) ?_
  obtain ⟨S_TRUE, E_TRUE, S_UNDETERMINED, E_UNDETERMINED, S_FALSE, E_FALSE, F_TRUE_ordinal, F_FALSE_ordinal, F_UNDETERMINED_ordinal⟩ := id HW
  show Go p e below _ (s₁.setTop (mkF m 0 #[.val (.int x), .unset] []))
  refine Go.step (fun t_ k_ => XS.iloadN X0.here hx rfl (hb hby d1_0) rfl k_) ?_
  show Go p e below _ (s₁.setTop (mkF m 1 #[.val (.int x), .unset] [(.int x)]))
  refine Go.step (fun t_ k_ => X0.ldcInt hx hown (mvT hZ (hw _ (List.mem_of_getElem? (i := 4) rfl))) (g := (mkF m 1 #[.val (.int x), .unset] [(.int x)])) rfl (hb hby d1_1) _ k_) ?_
  show Go p e below _ (s₁.setTop (mkF m 3 #[.val (.int x), .unset] [(.int (2147483647 : Int32)), (.int x)]))
  refine Go.step (fun t_ k_ => XS.iand X0.here hx rfl (hb hby d1_3) rfl k_) ?_
  show Go p e below _ (s₁.setTop (mkF m 4 #[.val (.int x), .unset] [(.int (x &&& (2147483647 : Int32)))]))
  refine Go.step (fun t_ k_ => XS.iconst X0.here hx rfl (hb hby d1_4) k_) ?_
  show Go p e below _ (s₁.setTop (mkF m 5 #[.val (.int x), .unset] [(.int (3 : Int32)), (.int (x &&& (2147483647 : Int32)))]))
  refine Go.step (fun t_ k_ => iremM X0 hx rfl (hb hby d1_5) rfl (by decide) k_) ?_
  show Go p e below _ (s₁.setTop (mkF m 6 #[.val (.int x), .unset] [(.int ((x &&& (2147483647 : Int32)) % (3 : Int32)))]))
  refine Go.step (fun t_ k_ => XS.istoreN X0.here hx rfl (hb hby d1_6) rfl (l' := #[.val (.int x), .val (.int ((x &&& (2147483647 : Int32)) % (3 : Int32)))]) rfl k_) ?_
  show Go p e below _ (s₁.setTop (mkF m 7 #[.val (.int x), .val (.int ((x &&& (2147483647 : Int32)) % (3 : Int32)))] []))
  rw [hk]
  show Go p e below _ (s₁.setTop (mkF m 7 #[.val (.int x), .val (.int k)] []))
  refine Go.step (fun t_ k_ => XS.iloadN X0.here hx rfl (hb hby d1_7) rfl k_) ?_
  show Go p e below _ (s₁.setTop (mkF m 8 #[.val (.int x), .val (.int k)] [(.int k)]))
  by_cases hc8 : k = (0 : Int32)
  case pos =>
    refine Go.step (fun t_ k_ => XS.ifNo X0.here hx rfl (hb hby d1_8) rfl ((if0 _ _).trans (teq hc8).2) k_) ?_
    show Go p e below _ (s₁.setTop (mkF m 11 #[.val (.int x), .val (.int k)] []))
    obtain ⟨T1, X1, e1, st1⟩ := getS2 X0 hx hZ hown (host := "") (Or.inl (hw _ (List.mem_of_getElem? (i := 5) rfl))) Via.refl e0 (S_TRUE.ext Ol.2) (g := (mkF m 11 #[.val (.int x), .val (.int k)] [])) rfl (hb hby d1_11)
    refine Go.step st1 ?_
    show Go p e below _ (T1.setTop (mkF m 14 #[.val (.int x), .val (.int k)] [(.ref a_TRUE)]))
    refine Go.retR X1 hx Bd.returns rfl rfl Bd.notSynchronized (hb hby d1_14) (by rw [e1]; exact ⟨by rw [← hres]; first | (simp [if_pos hc8]; done) | (simp [hc8]; done) | (simp_all; done), N0, rfl⟩) (by decide) (by decide)
  case neg =>
    refine Go.step (fun t_ k_ => XS.ifYes X0.here hx rfl (pc0 := 8) (pc' := 15) rfl (hb hby d1_8) rfl ((if0 _ _).trans (feq hc8).2) (by decide) (by decide) k_) ?_
    show Go p e below _ (s₁.setTop (mkF m 15 #[.val (.int x), .val (.int k)] []))
    refine Go.step (fun t_ k_ => XS.iloadN X0.here hx rfl (hb hby d1_15) rfl k_) ?_
    show Go p e below _ (s₁.setTop (mkF m 16 #[.val (.int x), .val (.int k)] [(.int k)]))
    refine Go.step (fun t_ k_ => XS.iconst X0.here hx rfl (hb hby d1_16) k_) ?_
    show Go p e below _ (s₁.setTop (mkF m 17 #[.val (.int x), .val (.int k)] [(.int (1 : Int32)), (.int k)]))
    by_cases hc17 : k = (1 : Int32)
    case pos =>
      refine Go.step (fun t_ k_ => XS.icmpNo X0.here hx rfl (hb hby d1_17) rfl (teq hc17).2 k_) ?_
      show Go p e below _ (s₁.setTop (mkF m 20 #[.val (.int x), .val (.int k)] []))
      obtain ⟨T2, X2, e2, st2⟩ := getS2 X0 hx hZ hown (host := "") (Or.inl (hw _ (List.mem_of_getElem? (i := 26) rfl))) Via.refl e0 (S_UNDETERMINED.ext Ol.2) (g := (mkF m 20 #[.val (.int x), .val (.int k)] [])) rfl (hb hby d1_20)
      refine Go.step st2 ?_
      show Go p e below _ (T2.setTop (mkF m 23 #[.val (.int x), .val (.int k)] [(.ref a_UNDETERMINED)]))
      refine Go.retR X2 hx Bd.returns rfl rfl Bd.notSynchronized (hb hby d1_23) (by rw [e2]; exact ⟨by rw [← hres]; first | (simp [if_neg hc8, if_pos hc17]; done) | (simp [hc8, hc17]; done) | (simp_all; done), N0, rfl⟩) (by decide) (by decide)
    case neg =>
      refine Go.step (fun t_ k_ => XS.icmpYes X0.here hx rfl (pc0 := 17) (pc' := 24) rfl (hb hby d1_17) rfl (feq hc17).2 (by decide) (by decide) k_) ?_
      show Go p e below _ (s₁.setTop (mkF m 24 #[.val (.int x), .val (.int k)] []))
      obtain ⟨T3, X3, e3, st3⟩ := getS2 X0 hx hZ hown (host := "") (Or.inl (hw _ (List.mem_of_getElem? (i := 25) rfl))) Via.refl e0 (S_FALSE.ext Ol.2) (g := (mkF m 24 #[.val (.int x), .val (.int k)] [])) rfl (hb hby d1_24)
      refine Go.step st3 ?_
      show Go p e below _ (T3.setTop (mkF m 27 #[.val (.int x), .val (.int k)] [(.ref a_FALSE)]))
      refine Go.retR X3 hx Bd.returns rfl rfl Bd.notSynchronized (hb hby d1_27) (by rw [e3]; exact ⟨by rw [← hres]; first | (simp [if_neg hc8, if_neg hc17]; done) | (simp [hc8, hc17]; done) | (simp_all; done), N0, rfl⟩) (by decide) (by decide)
theorem d2_0 : decode prog_22_method_5_code 0 = .ok (.getstatic 10, 3) := by decide +kernel
theorem d2_3 : decode prog_22_method_5_code 3 = .ok (.astore_n 2, 1) := by decide +kernel
theorem d2_4 : decode prog_22_method_5_code 4 = .ok (.aload_n 0, 1) := by decide +kernel
theorem d2_5 : decode prog_22_method_5_code 5 = .ok (.getstatic 7, 3) := by decide +kernel
theorem d2_8 : decode prog_22_method_5_code 8 = .ok (.if_acmp .eq 10, 3) := by decide +kernel
theorem d2_18 : decode prog_22_method_5_code 18 = .ok (.getstatic 7, 3) := by decide +kernel
theorem d2_21 : decode prog_22_method_5_code 21 = .ok (.astore_n 2, 1) := by decide +kernel
theorem d2_22 : decode prog_22_method_5_code 22 = .ok (.goto 21, 3) := by decide +kernel
theorem d2_43 : decode prog_22_method_5_code 43 = .ok (.aload_n 2, 1) := by decide +kernel
theorem d2_44 : decode prog_22_method_5_code 44 = .ok (.areturn, 1) := by decide +kernel
theorem d2_11 : decode prog_22_method_5_code 11 = .ok (.aload_n 1, 1) := by decide +kernel
theorem d2_12 : decode prog_22_method_5_code 12 = .ok (.getstatic 7, 3) := by decide +kernel
theorem d2_15 : decode prog_22_method_5_code 15 = .ok (.if_acmp .ne 10, 3) := by decide +kernel
theorem d2_25 : decode prog_22_method_5_code 25 = .ok (.aload_n 0, 1) := by decide +kernel
theorem d2_26 : decode prog_22_method_5_code 26 = .ok (.getstatic 3, 3) := by decide +kernel
theorem d2_29 : decode prog_22_method_5_code 29 = .ok (.if_acmp .ne 14, 3) := by decide +kernel
theorem d2_32 : decode prog_22_method_5_code 32 = .ok (.aload_n 1, 1) := by decide +kernel
theorem d2_33 : decode prog_22_method_5_code 33 = .ok (.getstatic 3, 3) := by decide +kernel
theorem d2_36 : decode prog_22_method_5_code 36 = .ok (.if_acmp .ne 7, 3) := by decide +kernel
theorem d2_39 : decode prog_22_method_5_code 39 = .ok (.getstatic 3, 3) := by decide +kernel
theorem d2_42 : decode prog_22_method_5_code 42 = .ok (.astore_n 2, 1) := by decide +kernel
theorem pn_1 : plainName "com/example/wacl/wacl/core/Condition$Truth" = true := by first | (simp [plainName, overriddenIn]; done) | decide +kernel
theorem ef_rm2 (m : MethodId) (x0 : Addr) (x1 : Addr)  : entryFrame m #[(.ref x0), (.ref x1)] 3 = mkF m 0 #[.val (.ref x0), .val (.ref x1), .unset] [] := by first | (simp [entryFrame, mkF, argsToLocals, Value.category]; done) | rfl
def Q_rm2 (Z : State) (a_TRUE : Addr) (a_UNDETERMINED : Addr) (a_FALSE : Addr) (r : Addr) (q : Addr) (res : Addr) (h0 : Heap) (n0 : Nat) (v : Option Value) (h : Heap) (L : List Loc) : Prop := v = some (.ref res) ∧ Fr n0 L ∧ h = h0
set_option maxRecDepth 65536 in
set_option maxHeartbeats 40000000 in
theorem rm2 (l : Launch) (Z : State) (a0 : Array Value) (hw : ∀ d ∈ tables_1, d.before a0 Z = true) (ws : List Jvm.Cond) (a_TRUE : Addr) (a_UNDETERMINED : Addr) (a_FALSE : Addr) (HW : Wd Z a_TRUE a_UNDETERMINED a_FALSE) (r : Addr) (q : Addr) (res : Addr) (h0 : Heap) (n0 : Nat) (Ol : Old Z n0 h0)  (hres : (if r = a_FALSE then a_FALSE else if q = a_FALSE then a_FALSE else if r = a_TRUE then (if q = a_TRUE then a_TRUE else a_UNDETERMINED) else a_UNDETERMINED) = res) :
    MetFree l (⟨"com/example/wacl/wacl/core/Condition$Truth", "and", "(Lcom/example/wacl/wacl/core/Condition$Truth;)Lcom/example/wacl/wacl/core/Condition$Truth;"⟩ : MethodName) (head1 (Jvm.Cond.code (⟨"com/example/wacl/wacl/core/Condition$Truth", "and", "(Lcom/example/wacl/wacl/core/Condition$Truth;)Lcom/example/wacl/wacl/core/Condition$Truth;"⟩ : MethodName) prog_22_method_5_code 3 (some (.object "com/example/wacl/wacl/core/Condition$Truth")) :: ws) ({ frames := 0, cells := 0, slots := 0, locals := 0 } : Room)) (fun a U => a = #[(.ref r), (.ref q)] ∧ Z.Warmed39 U.vm ∧ U.heap = h0) (fun _ _ _ _ _ => True) (fun _ U o U' => ∃ v L, o = .returned v ∧ Q_rm2 Z a_TRUE a_UNDETERMINED a_FALSE r q res h0 n0 v U'.heap L ∧ FrameEnd U o U' L ({ frames := 0, cells := 0, slots := 0, locals := 0 } : Room).cells ({ frames := 0, cells := 0, slots := 0, locals := 0 } : Room).slots) := by
  refine MetFree.of_bodySF (plainFor_of_name pn_1) hisR ?_
  intro p e s m args below meth c s₁ Bd hml0 hP hK
  obtain ⟨rfl, hZ, hh⟩ := hP
  have hx := Bd.exec
  have hby := Bd.bytes
  have hml : c.maxLocals = 3 := hml0
  have hown : s.vm.findClass "com/example/wacl/wacl/core/Condition$Truth" = some m.cls := findClass_of_methodNamed Bd.named
  have hnm := (name_of_methodNamed Bd.named Bd.method).1
  have X0 : Stand p l e ({ frames := 0, cells := 0, slots := 0, locals := 0 } : Room) s m #[(.ref r), (.ref q)] below meth c s₁ [] 0 0 := Stand.of_body Bd
  have e0 : s₁.heap = h0 := by rw [← hh, Bd.state]; rfl
  have N0 := Fr.nil n0
  have kp0 := Keep.refl h0 []
  show Go p e below (Fin1 s below (Q_rm2 Z a_TRUE a_UNDETERMINED a_FALSE r q res h0 n0) ({ frames := 0, cells := 0, slots := 0, locals := 0 } : Room).cells ({ frames := 0, cells := 0, slots := 0, locals := 0 } : Room).slots) _
  refine Go.step (fun t_ k_ => castTop (ef_rm2 m r q) k_) ?_
  obtain ⟨S_TRUE, E_TRUE, S_UNDETERMINED, E_UNDETERMINED, S_FALSE, E_FALSE, F_TRUE_ordinal, F_FALSE_ordinal, F_UNDETERMINED_ordinal⟩ := id HW
  show Go p e below _ (s₁.setTop (mkF m 0 #[.val (.ref r), .val (.ref q), .unset] []))
  obtain ⟨T1, X1, e1, st1⟩ := getS2 X0 hx hZ hown (host := "") (Or.inl (hw _ (List.mem_of_getElem? (i := 13) rfl))) Via.refl e0 (S_UNDETERMINED.ext Ol.2) (g := (mkF m 0 #[.val (.ref r), .val (.ref q), .unset] [])) rfl (hb hby d2_0)
  refine Go.step st1 ?_
  show Go p e below _ (T1.setTop (mkF m 3 #[.val (.ref r), .val (.ref q), .unset] [(.ref a_UNDETERMINED)]))
  refine Go.step (fun t_ k_ => XS.astoreN X1.here hx rfl (hb hby d2_3) rfl rfl (l' := #[.val (.ref r), .val (.ref q), .val (.ref a_UNDETERMINED)]) rfl k_) ?_
  show Go p e below _ (T1.setTop (mkF m 4 #[.val (.ref r), .val (.ref q), .val (.ref a_UNDETERMINED)] []))
  refine Go.step (fun t_ k_ => XS.aloadN X1.here hx rfl (hb hby d2_4) rfl rfl k_) ?_
  show Go p e below _ (T1.setTop (mkF m 5 #[.val (.ref r), .val (.ref q), .val (.ref a_UNDETERMINED)] [(.ref r)]))
  obtain ⟨T2, X2, e2, st2⟩ := getS2 X1 hx hZ hown (host := "") (Or.inl (hw _ (List.mem_of_getElem? (i := 15) rfl))) Via.refl e1 (S_FALSE.ext Ol.2) (g := (mkF m 5 #[.val (.ref r), .val (.ref q), .val (.ref a_UNDETERMINED)] [(.ref r)])) rfl (hb hby d2_5)
  refine Go.step st2 ?_
  show Go p e below _ (T2.setTop (mkF m 8 #[.val (.ref r), .val (.ref q), .val (.ref a_UNDETERMINED)] [(.ref a_FALSE), (.ref r)]))
  by_cases ha8 : r = a_FALSE
  case pos =>
    refine Go.step (fun t_ k_ => Jvm.RoadKit.acmp (g := (mkF m 8 #[.val (.ref r), .val (.ref q), .val (.ref a_UNDETERMINED)] [(.ref a_FALSE), (.ref r)])) X2 hx rfl rfl rfl (pc0 := 8) (pc' := 18) (same := true) rfl (hb hby d2_8) rfl (decide_eq_true (congrArg Value.ref ha8)) (by decide) (by decide) k_) ?_
    show Go p e below _ (T2.setTop (mkF m 18 #[.val (.ref r), .val (.ref q), .val (.ref a_UNDETERMINED)] []))
    obtain ⟨T3, X3, e3, st3⟩ := getS2 X2 hx hZ hown (host := "") (Or.inl (hw _ (List.mem_of_getElem? (i := 15) rfl))) Via.refl e2 (S_FALSE.ext Ol.2) (g := (mkF m 18 #[.val (.ref r), .val (.ref q), .val (.ref a_UNDETERMINED)] [])) rfl (hb hby d2_18)
    refine Go.step st3 ?_
    show Go p e below _ (T3.setTop (mkF m 21 #[.val (.ref r), .val (.ref q), .val (.ref a_UNDETERMINED)] [(.ref a_FALSE)]))
    refine Go.step (fun t_ k_ => XS.astoreN X3.here hx rfl (hb hby d2_21) rfl rfl (l' := #[.val (.ref r), .val (.ref q), .val (.ref a_FALSE)]) rfl k_) ?_
    show Go p e below _ (T3.setTop (mkF m 22 #[.val (.ref r), .val (.ref q), .val (.ref a_FALSE)] []))
    refine Go.step (fun t_ k_ => XS.goto X3.here hx rfl (pc0 := 22) (pc' := 43) rfl (hb hby d2_22) (by decide) (by decide) k_) ?_
    show Go p e below _ (T3.setTop (mkF m 43 #[.val (.ref r), .val (.ref q), .val (.ref a_FALSE)] []))
    refine Go.step (fun t_ k_ => XS.aloadN X3.here hx rfl (hb hby d2_43) rfl rfl k_) ?_
    show Go p e below _ (T3.setTop (mkF m 44 #[.val (.ref r), .val (.ref q), .val (.ref a_FALSE)] [(.ref a_FALSE)]))
    refine Go.retR X3 hx Bd.returns rfl rfl Bd.notSynchronized (hb hby d2_44) (by rw [e3]; exact ⟨by rw [← hres]; first | (simp [if_pos ha8]; done) | (simp [ha8]; done) | (simp_all; done), N0, rfl⟩) (by decide) (by decide)
  case neg =>
    refine Go.step (fun t_ k_ => Jvm.RoadKit.acmp (g := (mkF m 8 #[.val (.ref r), .val (.ref q), .val (.ref a_UNDETERMINED)] [(.ref a_FALSE), (.ref r)])) X2 hx rfl rfl rfl (pc0 := 8) (pc' := 11) (same := false) rfl (hb hby d2_8) rfl (decide_eq_false fun q => ha8 (Value.ref.inj q)) (by decide) (by decide) k_) ?_
    show Go p e below _ (T2.setTop (mkF m 11 #[.val (.ref r), .val (.ref q), .val (.ref a_UNDETERMINED)] []))
    refine Go.step (fun t_ k_ => XS.aloadN X2.here hx rfl (hb hby d2_11) rfl rfl k_) ?_
    show Go p e below _ (T2.setTop (mkF m 12 #[.val (.ref r), .val (.ref q), .val (.ref a_UNDETERMINED)] [(.ref q)]))
    obtain ⟨T4, X4, e4, st4⟩ := getS2 X2 hx hZ hown (host := "") (Or.inl (hw _ (List.mem_of_getElem? (i := 15) rfl))) Via.refl e2 (S_FALSE.ext Ol.2) (g := (mkF m 12 #[.val (.ref r), .val (.ref q), .val (.ref a_UNDETERMINED)] [(.ref q)])) rfl (hb hby d2_12)
    refine Go.step st4 ?_
    show Go p e below _ (T4.setTop (mkF m 15 #[.val (.ref r), .val (.ref q), .val (.ref a_UNDETERMINED)] [(.ref a_FALSE), (.ref q)]))
    by_cases ha15 : q = a_FALSE
    case pos =>
      refine Go.step (fun t_ k_ => Jvm.RoadKit.acmp (g := (mkF m 15 #[.val (.ref r), .val (.ref q), .val (.ref a_UNDETERMINED)] [(.ref a_FALSE), (.ref q)])) X4 hx rfl rfl rfl (pc0 := 15) (pc' := 18) (same := true) rfl (hb hby d2_15) rfl (decide_eq_true (congrArg Value.ref ha15)) (by decide) (by decide) k_) ?_
      show Go p e below _ (T4.setTop (mkF m 18 #[.val (.ref r), .val (.ref q), .val (.ref a_UNDETERMINED)] []))
      obtain ⟨T5, X5, e5, st5⟩ := getS2 X4 hx hZ hown (host := "") (Or.inl (hw _ (List.mem_of_getElem? (i := 15) rfl))) Via.refl e4 (S_FALSE.ext Ol.2) (g := (mkF m 18 #[.val (.ref r), .val (.ref q), .val (.ref a_UNDETERMINED)] [])) rfl (hb hby d2_18)
      refine Go.step st5 ?_
      show Go p e below _ (T5.setTop (mkF m 21 #[.val (.ref r), .val (.ref q), .val (.ref a_UNDETERMINED)] [(.ref a_FALSE)]))
      refine Go.step (fun t_ k_ => XS.astoreN X5.here hx rfl (hb hby d2_21) rfl rfl (l' := #[.val (.ref r), .val (.ref q), .val (.ref a_FALSE)]) rfl k_) ?_
      show Go p e below _ (T5.setTop (mkF m 22 #[.val (.ref r), .val (.ref q), .val (.ref a_FALSE)] []))
      refine Go.step (fun t_ k_ => XS.goto X5.here hx rfl (pc0 := 22) (pc' := 43) rfl (hb hby d2_22) (by decide) (by decide) k_) ?_
      show Go p e below _ (T5.setTop (mkF m 43 #[.val (.ref r), .val (.ref q), .val (.ref a_FALSE)] []))
      refine Go.step (fun t_ k_ => XS.aloadN X5.here hx rfl (hb hby d2_43) rfl rfl k_) ?_
      show Go p e below _ (T5.setTop (mkF m 44 #[.val (.ref r), .val (.ref q), .val (.ref a_FALSE)] [(.ref a_FALSE)]))
      refine Go.retR X5 hx Bd.returns rfl rfl Bd.notSynchronized (hb hby d2_44) (by rw [e5]; exact ⟨by rw [← hres]; first | (simp [if_neg ha8, if_pos ha15]; done) | (simp [ha8, ha15]; done) | (simp_all; done), N0, rfl⟩) (by decide) (by decide)
    case neg =>
      refine Go.step (fun t_ k_ => Jvm.RoadKit.acmp (g := (mkF m 15 #[.val (.ref r), .val (.ref q), .val (.ref a_UNDETERMINED)] [(.ref a_FALSE), (.ref q)])) X4 hx rfl rfl rfl (pc0 := 15) (pc' := 25) (same := false) rfl (hb hby d2_15) rfl (decide_eq_false fun q => ha15 (Value.ref.inj q)) (by decide) (by decide) k_) ?_
      show Go p e below _ (T4.setTop (mkF m 25 #[.val (.ref r), .val (.ref q), .val (.ref a_UNDETERMINED)] []))
      refine Go.step (fun t_ k_ => XS.aloadN X4.here hx rfl (hb hby d2_25) rfl rfl k_) ?_
      show Go p e below _ (T4.setTop (mkF m 26 #[.val (.ref r), .val (.ref q), .val (.ref a_UNDETERMINED)] [(.ref r)]))
      obtain ⟨T6, X6, e6, st6⟩ := getS2 X4 hx hZ hown (host := "") (Or.inl (hw _ (List.mem_of_getElem? (i := 17) rfl))) Via.refl e4 (S_TRUE.ext Ol.2) (g := (mkF m 26 #[.val (.ref r), .val (.ref q), .val (.ref a_UNDETERMINED)] [(.ref r)])) rfl (hb hby d2_26)
      refine Go.step st6 ?_
      show Go p e below _ (T6.setTop (mkF m 29 #[.val (.ref r), .val (.ref q), .val (.ref a_UNDETERMINED)] [(.ref a_TRUE), (.ref r)]))
      by_cases ha29 : r = a_TRUE
      case pos =>
        refine Go.step (fun t_ k_ => Jvm.RoadKit.acmp (g := (mkF m 29 #[.val (.ref r), .val (.ref q), .val (.ref a_UNDETERMINED)] [(.ref a_TRUE), (.ref r)])) X6 hx rfl rfl rfl (pc0 := 29) (pc' := 32) (same := true) rfl (hb hby d2_29) rfl (decide_eq_true (congrArg Value.ref ha29)) (by decide) (by decide) k_) ?_
        show Go p e below _ (T6.setTop (mkF m 32 #[.val (.ref r), .val (.ref q), .val (.ref a_UNDETERMINED)] []))
        refine Go.step (fun t_ k_ => XS.aloadN X6.here hx rfl (hb hby d2_32) rfl rfl k_) ?_
        show Go p e below _ (T6.setTop (mkF m 33 #[.val (.ref r), .val (.ref q), .val (.ref a_UNDETERMINED)] [(.ref q)]))
        obtain ⟨T7, X7, e7, st7⟩ := getS2 X6 hx hZ hown (host := "") (Or.inl (hw _ (List.mem_of_getElem? (i := 17) rfl))) Via.refl e6 (S_TRUE.ext Ol.2) (g := (mkF m 33 #[.val (.ref r), .val (.ref q), .val (.ref a_UNDETERMINED)] [(.ref q)])) rfl (hb hby d2_33)
        refine Go.step st7 ?_
        show Go p e below _ (T7.setTop (mkF m 36 #[.val (.ref r), .val (.ref q), .val (.ref a_UNDETERMINED)] [(.ref a_TRUE), (.ref q)]))
        by_cases ha36 : q = a_TRUE
        case pos =>
          refine Go.step (fun t_ k_ => Jvm.RoadKit.acmp (g := (mkF m 36 #[.val (.ref r), .val (.ref q), .val (.ref a_UNDETERMINED)] [(.ref a_TRUE), (.ref q)])) X7 hx rfl rfl rfl (pc0 := 36) (pc' := 39) (same := true) rfl (hb hby d2_36) rfl (decide_eq_true (congrArg Value.ref ha36)) (by decide) (by decide) k_) ?_
          show Go p e below _ (T7.setTop (mkF m 39 #[.val (.ref r), .val (.ref q), .val (.ref a_UNDETERMINED)] []))
          obtain ⟨T8, X8, e8, st8⟩ := getS2 X7 hx hZ hown (host := "") (Or.inl (hw _ (List.mem_of_getElem? (i := 17) rfl))) Via.refl e7 (S_TRUE.ext Ol.2) (g := (mkF m 39 #[.val (.ref r), .val (.ref q), .val (.ref a_UNDETERMINED)] [])) rfl (hb hby d2_39)
          refine Go.step st8 ?_
          show Go p e below _ (T8.setTop (mkF m 42 #[.val (.ref r), .val (.ref q), .val (.ref a_UNDETERMINED)] [(.ref a_TRUE)]))
          refine Go.step (fun t_ k_ => XS.astoreN X8.here hx rfl (hb hby d2_42) rfl rfl (l' := #[.val (.ref r), .val (.ref q), .val (.ref a_TRUE)]) rfl k_) ?_
          show Go p e below _ (T8.setTop (mkF m 43 #[.val (.ref r), .val (.ref q), .val (.ref a_TRUE)] []))
          refine Go.step (fun t_ k_ => XS.aloadN X8.here hx rfl (hb hby d2_43) rfl rfl k_) ?_
          show Go p e below _ (T8.setTop (mkF m 44 #[.val (.ref r), .val (.ref q), .val (.ref a_TRUE)] [(.ref a_TRUE)]))
          refine Go.retR X8 hx Bd.returns rfl rfl Bd.notSynchronized (hb hby d2_44) (by rw [e8]; exact ⟨by rw [← hres]; first | (simp [if_neg ha8, if_neg ha15, if_pos ha29, if_pos ha36]; done) | (simp [ha8, ha15, ha29, ha36]; done) | (simp_all; done), N0, rfl⟩) (by decide) (by decide)
        case neg =>
          refine Go.step (fun t_ k_ => Jvm.RoadKit.acmp (g := (mkF m 36 #[.val (.ref r), .val (.ref q), .val (.ref a_UNDETERMINED)] [(.ref a_TRUE), (.ref q)])) X7 hx rfl rfl rfl (pc0 := 36) (pc' := 43) (same := false) rfl (hb hby d2_36) rfl (decide_eq_false fun q => ha36 (Value.ref.inj q)) (by decide) (by decide) k_) ?_
          show Go p e below _ (T7.setTop (mkF m 43 #[.val (.ref r), .val (.ref q), .val (.ref a_UNDETERMINED)] []))
          refine Go.step (fun t_ k_ => XS.aloadN X7.here hx rfl (hb hby d2_43) rfl rfl k_) ?_
          show Go p e below _ (T7.setTop (mkF m 44 #[.val (.ref r), .val (.ref q), .val (.ref a_UNDETERMINED)] [(.ref a_UNDETERMINED)]))
          refine Go.retR X7 hx Bd.returns rfl rfl Bd.notSynchronized (hb hby d2_44) (by rw [e7]; exact ⟨by rw [← hres]; first | (simp [if_neg ha8, if_neg ha15, if_pos ha29, if_neg ha36]; done) | (simp [ha8, ha15, ha29, ha36]; done) | (simp_all; done), N0, rfl⟩) (by decide) (by decide)
      case neg =>
        refine Go.step (fun t_ k_ => Jvm.RoadKit.acmp (g := (mkF m 29 #[.val (.ref r), .val (.ref q), .val (.ref a_UNDETERMINED)] [(.ref a_TRUE), (.ref r)])) X6 hx rfl rfl rfl (pc0 := 29) (pc' := 43) (same := false) rfl (hb hby d2_29) rfl (decide_eq_false fun q => ha29 (Value.ref.inj q)) (by decide) (by decide) k_) ?_
        show Go p e below _ (T6.setTop (mkF m 43 #[.val (.ref r), .val (.ref q), .val (.ref a_UNDETERMINED)] []))
        refine Go.step (fun t_ k_ => XS.aloadN X6.here hx rfl (hb hby d2_43) rfl rfl k_) ?_
        show Go p e below _ (T6.setTop (mkF m 44 #[.val (.ref r), .val (.ref q), .val (.ref a_UNDETERMINED)] [(.ref a_UNDETERMINED)]))
        refine Go.retR X6 hx Bd.returns rfl rfl Bd.notSynchronized (hb hby d2_44) (by rw [e6]; exact ⟨by rw [← hres]; first | (simp [if_neg ha8, if_neg ha15, if_neg ha29]; done) | (simp [ha8, ha15, ha29]; done) | (simp_all; done), N0, rfl⟩) (by decide) (by decide)
theorem d3_0 : decode method_4_code 0 = .ok (.aload_n 0, 1) := by decide +kernel
theorem d3_1 : decode method_4_code 1 = .ok (.getstatic 30, 3) := by decide +kernel
theorem d3_4 : decode method_4_code 4 = .ok (.if_acmp .ne 5, 3) := by decide +kernel
theorem d3_7 : decode method_4_code 7 = .ok (.iconst 2, 1) := by decide +kernel
theorem d3_8 : decode method_4_code 8 = .ok (.ireturn, 1) := by decide +kernel
theorem d3_9 : decode method_4_code 9 = .ok (.aload_n 0, 1) := by decide +kernel
theorem d3_10 : decode method_4_code 10 = .ok (.getstatic 34, 3) := by decide +kernel
theorem d3_13 : decode method_4_code 13 = .ok (.if_acmp .ne 5, 3) := by decide +kernel
theorem d3_16 : decode method_4_code 16 = .ok (.iconst 1, 1) := by decide +kernel
theorem d3_17 : decode method_4_code 17 = .ok (.ireturn, 1) := by decide +kernel
theorem d3_18 : decode method_4_code 18 = .ok (.aload_n 0, 1) := by decide +kernel
theorem d3_19 : decode method_4_code 19 = .ok (.getstatic 37, 3) := by decide +kernel
theorem d3_22 : decode method_4_code 22 = .ok (.if_acmp .ne 5, 3) := by decide +kernel
theorem d3_25 : decode method_4_code 25 = .ok (.iconst 0, 1) := by decide +kernel
theorem d3_26 : decode method_4_code 26 = .ok (.ireturn, 1) := by decide +kernel
theorem d3_27 : decode method_4_code 27 = .ok (.iconst (-1), 1) := by decide +kernel
theorem d3_28 : decode method_4_code 28 = .ok (.ireturn, 1) := by decide +kernel
theorem ef_rm3 (m : MethodId) (x0 : Addr)  : entryFrame m #[(.ref x0)] 1 = mkF m 0 #[.val (.ref x0)] [] := by first | (simp [entryFrame, mkF, argsToLocals, Value.category]; done) | rfl
def Q_rm3 (Z : State) (a_TRUE : Addr) (a_UNDETERMINED : Addr) (a_FALSE : Addr) (r : Addr) (res : Int32) (h0 : Heap) (n0 : Nat) (v : Option Value) (h : Heap) (L : List Loc) : Prop := v = some (.int res) ∧ Fr n0 L ∧ h = h0
set_option maxRecDepth 65536 in
set_option maxHeartbeats 40000000 in
theorem rm3 (l : Launch) (Z : State) (a0 : Array Value) (hw : ∀ d ∈ tables_1, d.before a0 Z = true) (ws : List Jvm.Cond) (a_TRUE : Addr) (a_UNDETERMINED : Addr) (a_FALSE : Addr) (HW : Wd Z a_TRUE a_UNDETERMINED a_FALSE) (r : Addr) (res : Int32) (h0 : Heap) (n0 : Nat) (Ol : Old Z n0 h0)  (hres : ((if r = a_TRUE then 2 else if r = a_UNDETERMINED then 1 else if r = a_FALSE then 0 else -1 : Int32)) = res) :
    MetFree l (⟨"com/example/wacl/wacl/core/TruthAndPinLaw", "rank", "(Lcom/example/wacl/wacl/core/Condition$Truth;)I"⟩ : MethodName) (head1 (Jvm.Cond.code (⟨"com/example/wacl/wacl/core/TruthAndPinLaw", "rank", "(Lcom/example/wacl/wacl/core/Condition$Truth;)I"⟩ : MethodName) method_4_code 1 (some .int) :: ws) ({ frames := 0, cells := 0, slots := 0, locals := 0 } : Room)) (fun a U => a = #[(.ref r)] ∧ Z.Warmed39 U.vm ∧ U.heap = h0) (fun _ _ _ _ _ => True) (fun _ U o U' => ∃ v L, o = .returned v ∧ Q_rm3 Z a_TRUE a_UNDETERMINED a_FALSE r res h0 n0 v U'.heap L ∧ FrameEnd U o U' L ({ frames := 0, cells := 0, slots := 0, locals := 0 } : Room).cells ({ frames := 0, cells := 0, slots := 0, locals := 0 } : Room).slots) := by
  refine MetFree.of_bodySF (plainFor_of_name pn_0) hisR ?_
  intro p e s m args below meth c s₁ Bd hml0 hP hK
  obtain ⟨rfl, hZ, hh⟩ := hP
  have hx := Bd.exec
  have hby := Bd.bytes
  have hml : c.maxLocals = 1 := hml0
  have hown : s.vm.findClass "com/example/wacl/wacl/core/TruthAndPinLaw" = some m.cls := findClass_of_methodNamed Bd.named
  have hnm := (name_of_methodNamed Bd.named Bd.method).1
  have X0 : Stand p l e ({ frames := 0, cells := 0, slots := 0, locals := 0 } : Room) s m #[(.ref r)] below meth c s₁ [] 0 0 := Stand.of_body Bd
  have e0 : s₁.heap = h0 := by rw [← hh, Bd.state]; rfl
  have N0 := Fr.nil n0
  have kp0 := Keep.refl h0 []
  show Go p e below (Fin1 s below (Q_rm3 Z a_TRUE a_UNDETERMINED a_FALSE r res h0 n0) ({ frames := 0, cells := 0, slots := 0, locals := 0 } : Room).cells ({ frames := 0, cells := 0, slots := 0, locals := 0 } : Room).slots) _
  refine Go.step (fun t_ k_ => castTop (ef_rm3 m r) k_) ?_
  obtain ⟨S_TRUE, E_TRUE, S_UNDETERMINED, E_UNDETERMINED, S_FALSE, E_FALSE, F_TRUE_ordinal, F_FALSE_ordinal, F_UNDETERMINED_ordinal⟩ := id HW
  show Go p e below _ (s₁.setTop (mkF m 0 #[.val (.ref r)] []))
  refine Go.step (fun t_ k_ => XS.aloadN X0.here hx rfl (hb hby d3_0) rfl rfl k_) ?_
  show Go p e below _ (s₁.setTop (mkF m 1 #[.val (.ref r)] [(.ref r)]))
  obtain ⟨T1, X1, e1, st1⟩ := getS2 X0 hx hZ hown (host := "") (Or.inl (hw _ (List.mem_of_getElem? (i := 5) rfl))) Via.refl e0 (S_TRUE.ext Ol.2) (g := (mkF m 1 #[.val (.ref r)] [(.ref r)])) rfl (hb hby d3_1)
  refine Go.step st1 ?_
  show Go p e below _ (T1.setTop (mkF m 4 #[.val (.ref r)] [(.ref a_TRUE), (.ref r)]))
  by_cases ha4 : r = a_TRUE
  case pos =>
    refine Go.step (fun t_ k_ => Jvm.RoadKit.acmp (g := (mkF m 4 #[.val (.ref r)] [(.ref a_TRUE), (.ref r)])) X1 hx rfl rfl rfl (pc0 := 4) (pc' := 7) (same := true) rfl (hb hby d3_4) rfl (decide_eq_true (congrArg Value.ref ha4)) (by decide) (by decide) k_) ?_
    show Go p e below _ (T1.setTop (mkF m 7 #[.val (.ref r)] []))
    refine Go.step (fun t_ k_ => XS.iconst X1.here hx rfl (hb hby d3_7) k_) ?_
    show Go p e below _ (T1.setTop (mkF m 8 #[.val (.ref r)] [(.int (2 : Int32))]))
    refine Go.retI X1 hx Bd.returns Bd.notSynchronized (hb hby d3_8) (by rw [e1]; exact ⟨by rw [← hres]; first | (simp [if_pos ha4]; done) | (simp [ha4]; done) | (simp_all; done), N0, rfl⟩) (by decide) (by decide)
  case neg =>
    refine Go.step (fun t_ k_ => Jvm.RoadKit.acmp (g := (mkF m 4 #[.val (.ref r)] [(.ref a_TRUE), (.ref r)])) X1 hx rfl rfl rfl (pc0 := 4) (pc' := 9) (same := false) rfl (hb hby d3_4) rfl (decide_eq_false fun q => ha4 (Value.ref.inj q)) (by decide) (by decide) k_) ?_
    show Go p e below _ (T1.setTop (mkF m 9 #[.val (.ref r)] []))
    refine Go.step (fun t_ k_ => XS.aloadN X1.here hx rfl (hb hby d3_9) rfl rfl k_) ?_
    show Go p e below _ (T1.setTop (mkF m 10 #[.val (.ref r)] [(.ref r)]))
    obtain ⟨T2, X2, e2, st2⟩ := getS2 X1 hx hZ hown (host := "") (Or.inl (hw _ (List.mem_of_getElem? (i := 26) rfl))) Via.refl e1 (S_UNDETERMINED.ext Ol.2) (g := (mkF m 10 #[.val (.ref r)] [(.ref r)])) rfl (hb hby d3_10)
    refine Go.step st2 ?_
    show Go p e below _ (T2.setTop (mkF m 13 #[.val (.ref r)] [(.ref a_UNDETERMINED), (.ref r)]))
    by_cases ha13 : r = a_UNDETERMINED
    case pos =>
      refine Go.step (fun t_ k_ => Jvm.RoadKit.acmp (g := (mkF m 13 #[.val (.ref r)] [(.ref a_UNDETERMINED), (.ref r)])) X2 hx rfl rfl rfl (pc0 := 13) (pc' := 16) (same := true) rfl (hb hby d3_13) rfl (decide_eq_true (congrArg Value.ref ha13)) (by decide) (by decide) k_) ?_
      show Go p e below _ (T2.setTop (mkF m 16 #[.val (.ref r)] []))
      refine Go.step (fun t_ k_ => XS.iconst X2.here hx rfl (hb hby d3_16) k_) ?_
      show Go p e below _ (T2.setTop (mkF m 17 #[.val (.ref r)] [(.int (1 : Int32))]))
      refine Go.retI X2 hx Bd.returns Bd.notSynchronized (hb hby d3_17) (by rw [e2]; exact ⟨by rw [← hres]; first | (simp [if_neg ha4, if_pos ha13]; done) | (simp [ha4, ha13]; done) | (simp_all; done), N0, rfl⟩) (by decide) (by decide)
    case neg =>
      refine Go.step (fun t_ k_ => Jvm.RoadKit.acmp (g := (mkF m 13 #[.val (.ref r)] [(.ref a_UNDETERMINED), (.ref r)])) X2 hx rfl rfl rfl (pc0 := 13) (pc' := 18) (same := false) rfl (hb hby d3_13) rfl (decide_eq_false fun q => ha13 (Value.ref.inj q)) (by decide) (by decide) k_) ?_
      show Go p e below _ (T2.setTop (mkF m 18 #[.val (.ref r)] []))
      refine Go.step (fun t_ k_ => XS.aloadN X2.here hx rfl (hb hby d3_18) rfl rfl k_) ?_
      show Go p e below _ (T2.setTop (mkF m 19 #[.val (.ref r)] [(.ref r)]))
      obtain ⟨T3, X3, e3, st3⟩ := getS2 X2 hx hZ hown (host := "") (Or.inl (hw _ (List.mem_of_getElem? (i := 25) rfl))) Via.refl e2 (S_FALSE.ext Ol.2) (g := (mkF m 19 #[.val (.ref r)] [(.ref r)])) rfl (hb hby d3_19)
      refine Go.step st3 ?_
      show Go p e below _ (T3.setTop (mkF m 22 #[.val (.ref r)] [(.ref a_FALSE), (.ref r)]))
      by_cases ha22 : r = a_FALSE
      case pos =>
        refine Go.step (fun t_ k_ => Jvm.RoadKit.acmp (g := (mkF m 22 #[.val (.ref r)] [(.ref a_FALSE), (.ref r)])) X3 hx rfl rfl rfl (pc0 := 22) (pc' := 25) (same := true) rfl (hb hby d3_22) rfl (decide_eq_true (congrArg Value.ref ha22)) (by decide) (by decide) k_) ?_
        show Go p e below _ (T3.setTop (mkF m 25 #[.val (.ref r)] []))
        refine Go.step (fun t_ k_ => XS.iconst X3.here hx rfl (hb hby d3_25) k_) ?_
        show Go p e below _ (T3.setTop (mkF m 26 #[.val (.ref r)] [(.int (0 : Int32))]))
        refine Go.retI X3 hx Bd.returns Bd.notSynchronized (hb hby d3_26) (by rw [e3]; exact ⟨by rw [← hres]; first | (simp [if_neg ha4, if_neg ha13, if_pos ha22]; done) | (simp [ha4, ha13, ha22]; done) | (simp_all; done), N0, rfl⟩) (by decide) (by decide)
      case neg =>
        refine Go.step (fun t_ k_ => Jvm.RoadKit.acmp (g := (mkF m 22 #[.val (.ref r)] [(.ref a_FALSE), (.ref r)])) X3 hx rfl rfl rfl (pc0 := 22) (pc' := 27) (same := false) rfl (hb hby d3_22) rfl (decide_eq_false fun q => ha22 (Value.ref.inj q)) (by decide) (by decide) k_) ?_
        show Go p e below _ (T3.setTop (mkF m 27 #[.val (.ref r)] []))
        refine Go.step (fun t_ k_ => XS.iconst X3.here hx rfl (hb hby d3_27) k_) ?_
        show Go p e below _ (T3.setTop (mkF m 28 #[.val (.ref r)] [(.int (-1 : Int32))]))
        refine Go.retI X3 hx Bd.returns Bd.notSynchronized (hb hby d3_28) (by rw [e3]; exact ⟨by rw [← hres]; first | (simp [if_neg ha4, if_neg ha13, if_neg ha22]; done) | (simp [ha4, ha13, ha22]; done) | (simp_all; done), N0, rfl⟩) (by decide) (by decide)
theorem d4_0 : decode jdk_29_method_69_code 0 = .ok (.iload_n 0, 1) := by decide +kernel
theorem d4_1 : decode jdk_29_method_69_code 1 = .ok (.iload_n 1, 1) := by decide +kernel
theorem d4_2 : decode jdk_29_method_69_code 2 = .ok (.if_icmp .gt 7, 3) := by decide +kernel
theorem d4_9 : decode jdk_29_method_69_code 9 = .ok (.iload_n 1, 1) := by decide +kernel
theorem d4_10 : decode jdk_29_method_69_code 10 = .ok (.ireturn, 1) := by decide +kernel
theorem d4_5 : decode jdk_29_method_69_code 5 = .ok (.iload_n 0, 1) := by decide +kernel
theorem d4_6 : decode jdk_29_method_69_code 6 = .ok (.goto 4, 3) := by decide +kernel
theorem ef_rm4 (m : MethodId) (x0 : Int32) (x1 : Int32)  : entryFrame m #[(.int x0), (.int x1)] 2 = mkF m 0 #[.val (.int x0), .val (.int x1)] [] := by first | (simp [entryFrame, mkF, argsToLocals, Value.category]; done) | rfl
def Q_rm4 (Z : State) (a_TRUE : Addr) (a_UNDETERMINED : Addr) (a_FALSE : Addr) (u1 : Int32) (u2 : Int32) (res : Int32) (h0 : Heap) (n0 : Nat) (v : Option Value) (h : Heap) (L : List Loc) : Prop := v = some (.int res) ∧ Fr n0 L ∧ h = h0
set_option maxRecDepth 65536 in
set_option maxHeartbeats 40000000 in
theorem rm4 (l : Launch) (Z : State) (a0 : Array Value) (hw : ∀ d ∈ tables_1, d.before a0 Z = true) (ws : List Jvm.Cond) (a_TRUE : Addr) (a_UNDETERMINED : Addr) (a_FALSE : Addr) (HW : Wd Z a_TRUE a_UNDETERMINED a_FALSE) (u1 : Int32) (u2 : Int32) (res : Int32) (h0 : Heap) (n0 : Nat) (Ol : Old Z n0 h0)  (hres : (if u2 < u1 then u2 else u1) = res) :
    MetFree l (⟨"java/lang/Math", "min", "(II)I"⟩ : MethodName) (head1 (Jvm.Cond.code (⟨"java/lang/Math", "min", "(II)I"⟩ : MethodName) jdk_29_method_69_code 2 (some .int) :: ws) ({ frames := 0, cells := 0, slots := 0, locals := 0 } : Room)) (fun a U => a = #[(.int u1), (.int u2)] ∧ Z.Warmed39 U.vm ∧ U.heap = h0) (fun _ _ _ _ _ => True) (fun _ U o U' => ∃ v L, o = .returned v ∧ Q_rm4 Z a_TRUE a_UNDETERMINED a_FALSE u1 u2 res h0 n0 v U'.heap L ∧ FrameEnd U o U' L ({ frames := 0, cells := 0, slots := 0, locals := 0 } : Room).cells ({ frames := 0, cells := 0, slots := 0, locals := 0 } : Room).slots) := by
  refine MetFree.of_bodySF (Jvm.Free.JP.mathPlain rfl (by decide +kernel)) hisR ?_
  intro p e s m args below meth c s₁ Bd hml0 hP hK
  obtain ⟨rfl, hZ, hh⟩ := hP
  have hx := Bd.exec
  have hby := Bd.bytes
  have hml : c.maxLocals = 2 := hml0
  have hown : s.vm.findClass "java/lang/Math" = some m.cls := findClass_of_methodNamed Bd.named
  have hnm := (name_of_methodNamed Bd.named Bd.method).1
  have X0 : Stand p l e ({ frames := 0, cells := 0, slots := 0, locals := 0 } : Room) s m #[(.int u1), (.int u2)] below meth c s₁ [] 0 0 := Stand.of_body Bd
  have e0 : s₁.heap = h0 := by rw [← hh, Bd.state]; rfl
  have N0 := Fr.nil n0
  have kp0 := Keep.refl h0 []
  show Go p e below (Fin1 s below (Q_rm4 Z a_TRUE a_UNDETERMINED a_FALSE u1 u2 res h0 n0) ({ frames := 0, cells := 0, slots := 0, locals := 0 } : Room).cells ({ frames := 0, cells := 0, slots := 0, locals := 0 } : Room).slots) _
  refine Go.step (fun t_ k_ => castTop (ef_rm4 m u1 u2) k_) ?_
  obtain ⟨S_TRUE, E_TRUE, S_UNDETERMINED, E_UNDETERMINED, S_FALSE, E_FALSE, F_TRUE_ordinal, F_FALSE_ordinal, F_UNDETERMINED_ordinal⟩ := id HW
  show Go p e below _ (s₁.setTop (mkF m 0 #[.val (.int u1), .val (.int u2)] []))
  refine Go.step (fun t_ k_ => XS.iloadN X0.here hx rfl (hb hby d4_0) rfl k_) ?_
  show Go p e below _ (s₁.setTop (mkF m 1 #[.val (.int u1), .val (.int u2)] [(.int u1)]))
  refine Go.step (fun t_ k_ => XS.iloadN X0.here hx rfl (hb hby d4_1) rfl k_) ?_
  show Go p e below _ (s₁.setTop (mkF m 2 #[.val (.int u1), .val (.int u2)] [(.int u2), (.int u1)]))
  by_cases hc2 : u2 < u1
  case pos =>
    refine Go.step (fun t_ k_ => XS.icmpYes X0.here hx rfl (pc0 := 2) (pc' := 9) rfl (hb hby d4_2) rfl (tlt hc2).2.2.1 (by decide) (by decide) k_) ?_
    show Go p e below _ (s₁.setTop (mkF m 9 #[.val (.int u1), .val (.int u2)] []))
    refine Go.step (fun t_ k_ => XS.iloadN X0.here hx rfl (hb hby d4_9) rfl k_) ?_
    show Go p e below _ (s₁.setTop (mkF m 10 #[.val (.int u1), .val (.int u2)] [(.int u2)]))
    refine Go.retI X0 hx Bd.returns Bd.notSynchronized (hb hby d4_10) (by rw [e0]; exact ⟨by rw [← hres]; first | (simp [if_pos hc2]; done) | (simp [hc2]; done) | (simp_all; done), N0, rfl⟩) (by decide) (by decide)
  case neg =>
    refine Go.step (fun t_ k_ => XS.icmpNo X0.here hx rfl (hb hby d4_2) rfl (flt hc2).2.2.1 k_) ?_
    show Go p e below _ (s₁.setTop (mkF m 5 #[.val (.int u1), .val (.int u2)] []))
    refine Go.step (fun t_ k_ => XS.iloadN X0.here hx rfl (hb hby d4_5) rfl k_) ?_
    show Go p e below _ (s₁.setTop (mkF m 6 #[.val (.int u1), .val (.int u2)] [(.int u1)]))
    refine Go.step (fun t_ k_ => XS.goto X0.here hx rfl (pc0 := 6) (pc' := 10) rfl (hb hby d4_6) (by decide) (by decide) k_) ?_
    show Go p e below _ (s₁.setTop (mkF m 10 #[.val (.int u1), .val (.int u2)] [(.int u1)]))
    refine Go.retI X0 hx Bd.returns Bd.notSynchronized (hb hby d4_10) (by rw [e0]; exact ⟨by rw [← hres]; first | (simp [if_neg hc2]; done) | (simp [hc2]; done) | (simp_all; done), N0, rfl⟩) (by decide) (by decide)
theorem pd_0 : parseMethodDescriptor "(I)Lcom/example/wacl/wacl/core/Condition$Truth;" = some ⟨[.int], some (.object "com/example/wacl/wacl/core/Condition$Truth")⟩ := by decide +kernel
theorem pd_1 : parseMethodDescriptor "(Lcom/example/wacl/wacl/core/Condition$Truth;)Lcom/example/wacl/wacl/core/Condition$Truth;" = some ⟨[(.object "com/example/wacl/wacl/core/Condition$Truth")], some (.object "com/example/wacl/wacl/core/Condition$Truth")⟩ := by decide +kernel
theorem pd_2 : parseMethodDescriptor "(Lcom/example/wacl/wacl/core/Condition$Truth;)I" = some ⟨[(.object "com/example/wacl/wacl/core/Condition$Truth")], some .int⟩ := by decide +kernel
theorem pd_3 : parseMethodDescriptor "(II)I" = some ⟨[.int, .int], some .int⟩ := by decide +kernel
theorem ef_rm0 (m : MethodId) (x0 : Int32) (x1 : Int32)  : entryFrame m #[(.int x0), (.int x1)] maxLocals = mkF m 0 #[.val (.int x0), .val (.int x1), .unset, .unset, .unset, .unset] [] := by first | (simp [entryFrame, mkF, argsToLocals, Value.category, maxLocals]; done) | rfl
def Q_rm0 (Z : State) (a_TRUE : Addr) (a_UNDETERMINED : Addr) (a_FALSE : Addr) (p1 p2 : Int32) (h0 : Heap) (n0 : Nat) (v : Option Value) (h : Heap) (L : List Loc) : Prop := v = some (.int 1) ∧ Fr n0 L
set_option maxRecDepth 65536 in
set_option maxHeartbeats 40000000 in
theorem rm0 (l : Launch) (Z : State) (a0 : Array Value) (hw : ∀ d ∈ tables_1, d.before a0 Z = true) (ws : List Jvm.Cond) (a_TRUE : Addr) (a_UNDETERMINED : Addr) (a_FALSE : Addr) (HW : Wd Z a_TRUE a_UNDETERMINED a_FALSE) (p1 p2 : Int32) (h0 : Heap) (n0 : Nat) (Ol : Old Z n0 h0)  :
    MetFree l x (head1 (Jvm.Cond.code x code maxLocals ret :: ws) room_1) (fun a U => a = #[(.int p1), (.int p2)] ∧ Z.Warmed39 U.vm ∧ U.heap = h0) (fun _ _ _ _ _ => True) (fun _ U o U' => ∃ v L, o = .returned v ∧ Q_rm0 Z a_TRUE a_UNDETERMINED a_FALSE p1 p2 h0 n0 v U'.heap L ∧ FrameEnd U o U' L room_1.cells room_1.slots) := by
  refine MetFree.of_bodySF (plainFor_of_name pn_0) hisR ?_
  intro p e s m args below meth c s₁ Bd hml0 hP hK
  obtain ⟨rfl, hZ, hh⟩ := hP
  have hx := Bd.exec
  have hby := Bd.bytes
  have hml : c.maxLocals = 6 := hml0
  have hown : s.vm.findClass "com/example/wacl/wacl/core/TruthAndPinLaw" = some m.cls := findClass_of_methodNamed Bd.named
  have hnm := (name_of_methodNamed Bd.named Bd.method).1
  have X0 : Stand p l e room_1 s m #[(.int p1), (.int p2)] below meth c s₁ [] 0 0 := Stand.of_body Bd
  have e0 : s₁.heap = h0 := by rw [← hh, Bd.state]; rfl
  have N0 := Fr.nil n0
  have kp0 := Keep.refl h0 []
  show Go p e below (Fin1 s below (Q_rm0 Z a_TRUE a_UNDETERMINED a_FALSE p1 p2 h0 n0) room_1.cells room_1.slots) _
  refine Go.step (fun t_ k_ => castTop (ef_rm0 m p1 p2) k_) ?_
  obtain ⟨S_TRUE, E_TRUE, S_UNDETERMINED, E_UNDETERMINED, S_FALSE, E_FALSE, F_TRUE_ordinal, F_FALSE_ordinal, F_UNDETERMINED_ordinal⟩ := id HW
  show Go p e below _ (s₁.setTop (mkF m 0 #[.val (.int p1), .val (.int p2), .unset, .unset, .unset, .unset] []))
  have hb_p1 := rem_bd p1 (3 : Int32) (by decide)
  generalize hk_p1 : ((p1 &&& (2147483647 : Int32)) % (3 : Int32)) = k_p1 at hb_p1
  have hb_p2 := rem_bd p2 (3 : Int32) (by decide)
  generalize hk_p2 : ((p2 &&& (2147483647 : Int32)) % (3 : Int32)) = k_p2 at hb_p2
  rcases cs3 hb_p1 with rfl | rfl | rfl
  next =>
    rcases cs3 hb_p2 with rfl | rfl | rfl
    next =>
      refine Go.step (fun t_ k_ => XS.iloadN X0.here hx rfl (hb hby at_0) rfl k_) ?_
      show Go p e below _ (s₁.setTop (mkF m 1 #[.val (.int p1), .val (.int p2), .unset, .unset, .unset, .unset] [(.int p1)]))
      obtain ⟨_, _, ⟨T1, L1, k1, n1⟩, -, X1, ⟨Lc1, hQ1, l1, y1, z1⟩, st1⟩ := Jvm.LawKit.callS X0 hx (y := (⟨"com/example/wacl/wacl/core/TruthAndPinLaw", "pick", "(I)Lcom/example/wacl/wacl/core/Condition$Truth;"⟩ : MethodName)) hown (mvT hZ (hw _ (List.mem_of_getElem? (i := 0) rfl))) (mvT hZ (hw _ (List.mem_of_getElem? (i := 1) rfl))) (mvT hZ (hw _ (List.mem_of_getElem? (i := 2) rfl))) (mvT hZ (hw _ (List.mem_of_getElem? (i := 3) rfl))) (by decide) (backOf (W := 0) (rm1 l Z a0 hw [] a_TRUE a_UNDETERMINED a_FALSE HW p1 (0 : Int32) a_TRUE h0 n0 Ol hk_p1 (by simp)) hZ (hw _ (List.mem_of_getElem? (i := 3) rfl)) (hw _ (List.mem_of_getElem? (i := 2) rfl)) (by decide) (by decide)) (g := (mkF m 1 #[.val (.int p1), .val (.int p2), .unset, .unset, .unset, .unset] [(.int p1)])) rfl (by rw [hml]; rfl) (argsL := [(.int p1)]) (rest := []) (lenOf pd_0 rfl) rfl (by show 2 * 0 + _ ≤ _; exact Nat.le_of_eq rfl) (hb hby at_1) (fun _ _ => ⟨rfl, e0, (by decide : 0 + 0 ≤ _), (by decide : 0 + 0 ≤ _)⟩)
      dsimp only [Pt.U, Pt.locs, Pt.cells, Pt.slots] at X1 l1 y1 z1 st1 hQ1
      subst l1 y1 z1
      obtain ⟨rfl, Nq1, e1⟩ := hQ1
      have N1 := Fr.app N0 Nq1
      refine Go.step st1 ?_
      show Go p e below _ (T1.setTop (mkF m 4 #[.val (.int p1), .val (.int p2), .unset, .unset, .unset, .unset] [(.ref a_TRUE)]))
      refine Go.step (fun t_ k_ => XS.astoreN X1.here hx rfl (hb hby at_4) rfl rfl (l' := #[.val (.int p1), .val (.int p2), .val (.ref a_TRUE), .unset, .unset, .unset]) rfl k_) ?_
      show Go p e below _ (T1.setTop (mkF m 5 #[.val (.int p1), .val (.int p2), .val (.ref a_TRUE), .unset, .unset, .unset] []))
      refine Go.step (fun t_ k_ => XS.iloadN X1.here hx rfl (hb hby at_5) rfl k_) ?_
      show Go p e below _ (T1.setTop (mkF m 6 #[.val (.int p1), .val (.int p2), .val (.ref a_TRUE), .unset, .unset, .unset] [(.int p2)]))
      obtain ⟨_, _, ⟨T2, L2, k2, n2⟩, -, X2, ⟨Lc2, hQ2, l2, y2, z2⟩, st2⟩ := Jvm.LawKit.callS X1 hx (y := (⟨"com/example/wacl/wacl/core/TruthAndPinLaw", "pick", "(I)Lcom/example/wacl/wacl/core/Condition$Truth;"⟩ : MethodName)) hown (mvT hZ (hw _ (List.mem_of_getElem? (i := 0) rfl))) (mvT hZ (hw _ (List.mem_of_getElem? (i := 1) rfl))) (mvT hZ (hw _ (List.mem_of_getElem? (i := 2) rfl))) (mvT hZ (hw _ (List.mem_of_getElem? (i := 3) rfl))) (by decide) (backOf (W := 0) (rm1 l Z a0 hw [] a_TRUE a_UNDETERMINED a_FALSE HW p2 (0 : Int32) a_TRUE h0 n0 Ol hk_p2 (by simp)) hZ (hw _ (List.mem_of_getElem? (i := 3) rfl)) (hw _ (List.mem_of_getElem? (i := 2) rfl)) (by decide) (by decide)) (g := (mkF m 6 #[.val (.int p1), .val (.int p2), .val (.ref a_TRUE), .unset, .unset, .unset] [(.int p2)])) rfl (by rw [hml]; rfl) (argsL := [(.int p2)]) (rest := []) (lenOf pd_0 rfl) rfl (by show 2 * 0 + _ ≤ _; exact Nat.le_of_eq rfl) (hb hby at_6) (fun _ _ => ⟨rfl, e1, (by decide : 0 + 0 ≤ _), (by decide : 0 + 0 ≤ _)⟩)
      dsimp only [Pt.U, Pt.locs, Pt.cells, Pt.slots] at X2 l2 y2 z2 st2 hQ2
      subst l2 y2 z2
      obtain ⟨rfl, Nq2, e2⟩ := hQ2
      have N2 := Fr.app N1 Nq2
      refine Go.step st2 ?_
      show Go p e below _ (T2.setTop (mkF m 9 #[.val (.int p1), .val (.int p2), .val (.ref a_TRUE), .unset, .unset, .unset] [(.ref a_TRUE)]))
      refine Go.step (fun t_ k_ => XS.astoreN X2.here hx rfl (hb hby at_9) rfl rfl (l' := #[.val (.int p1), .val (.int p2), .val (.ref a_TRUE), .val (.ref a_TRUE), .unset, .unset]) rfl k_) ?_
      show Go p e below _ (T2.setTop (mkF m 10 #[.val (.int p1), .val (.int p2), .val (.ref a_TRUE), .val (.ref a_TRUE), .unset, .unset] []))
      refine Go.step (fun t_ k_ => XS.aloadN X2.here hx rfl (hb hby at_10) rfl rfl k_) ?_
      show Go p e below _ (T2.setTop (mkF m 11 #[.val (.int p1), .val (.int p2), .val (.ref a_TRUE), .val (.ref a_TRUE), .unset, .unset] [(.ref a_TRUE)]))
      refine Go.step (fun t_ k_ => XS.aloadN X2.here hx rfl (hb hby at_11) rfl rfl k_) ?_
      show Go p e below _ (T2.setTop (mkF m 12 #[.val (.int p1), .val (.int p2), .val (.ref a_TRUE), .val (.ref a_TRUE), .unset, .unset] [(.ref a_TRUE), (.ref a_TRUE)]))
      obtain ⟨cq3, kq3, q3a, q3b, q3c⟩ := isOf hZ e2 (E_TRUE.ext Ol.2)
      obtain ⟨_, _, ⟨T3, L3, k3, n3⟩, -, X3, ⟨Lc3, hQ3, l3, y3, z3⟩, st3⟩ := X2.virtualBack hx (y := (⟨"com/example/wacl/wacl/core/Condition$Truth", "and", "(Lcom/example/wacl/wacl/core/Condition$Truth;)Lcom/example/wacl/wacl/core/Condition$Truth;"⟩ : MethodName)) (z := (⟨"com/example/wacl/wacl/core/Condition$Truth", "and", "(Lcom/example/wacl/wacl/core/Condition$Truth;)Lcom/example/wacl/wacl/core/Condition$Truth;"⟩ : MethodName)) hown (mvT hZ (hw _ (List.mem_of_getElem? (i := 8) rfl))) (mvT hZ (hw _ (List.mem_of_getElem? (i := 9) rfl))) (notFace_of_selects (args := #[]) (mvT hZ (hw _ (List.mem_of_getElem? (i := 11) rfl)))) (mvT hZ (hw _ (List.mem_of_getElem? (i := 11) rfl))) (mvT hZ (hw _ (List.mem_of_getElem? (i := 10) rfl))) (by decide) (backOf (W := 0) (rm2 l Z a0 hw [] a_TRUE a_UNDETERMINED a_FALSE HW a_TRUE a_TRUE a_TRUE h0 n0 Ol (by simp [(Fld.ne F_TRUE_ordinal F_UNDETERMINED_ordinal (by simp)), (Ne.symm (Fld.ne F_TRUE_ordinal F_UNDETERMINED_ordinal (by simp))), (Fld.ne F_TRUE_ordinal F_FALSE_ordinal (by simp)), (Ne.symm (Fld.ne F_TRUE_ordinal F_FALSE_ordinal (by simp))), (Fld.ne F_UNDETERMINED_ordinal F_FALSE_ordinal (by simp)), (Ne.symm (Fld.ne F_UNDETERMINED_ordinal F_FALSE_ordinal (by simp)))])) hZ (hw _ (List.mem_of_getElem? (i := 12) rfl)) (hw _ (List.mem_of_getElem? (i := 6) rfl)) (by decide) (by decide)) q3a q3c (g := (mkF m 12 #[.val (.int p1), .val (.int p2), .val (.ref a_TRUE), .val (.ref a_TRUE), .unset, .unset] [(.ref a_TRUE), (.ref a_TRUE)])) rfl (by rw [hml]; rfl) (Steps.refl _) (argsL := [(.ref a_TRUE)]) (rest := []) (lenOf pd_1 rfl) rfl (by show 2 * 0 + _ ≤ _; exact Nat.le_of_eq rfl) (hb hby at_12) (fun _ _ => ⟨rfl, e2, (by decide : 0 + 0 ≤ _), (by decide : 0 + 0 ≤ _)⟩)
      dsimp only [Pt.U, Pt.locs, Pt.cells, Pt.slots] at X3 l3 y3 z3 st3 hQ3
      subst l3 y3 z3
      obtain ⟨rfl, Nq3, e3⟩ := hQ3
      have N3 := Fr.app N2 Nq3
      refine Go.step (fun t_ k_ => st3.trans k_) ?_
      show Go p e below _ (T3.setTop (mkF m 15 #[.val (.int p1), .val (.int p2), .val (.ref a_TRUE), .val (.ref a_TRUE), .unset, .unset] [(.ref a_TRUE)]))
      refine Go.step (fun t_ k_ => XS.astore X3.here hx rfl (hb hby at_15) rfl rfl (l' := #[.val (.int p1), .val (.int p2), .val (.ref a_TRUE), .val (.ref a_TRUE), .val (.ref a_TRUE), .unset]) rfl k_) ?_
      show Go p e below _ (T3.setTop (mkF m 17 #[.val (.int p1), .val (.int p2), .val (.ref a_TRUE), .val (.ref a_TRUE), .val (.ref a_TRUE), .unset] []))
      refine Go.step (fun t_ k_ => XS.aloadN X3.here hx rfl (hb hby at_17) rfl rfl k_) ?_
      show Go p e below _ (T3.setTop (mkF m 18 #[.val (.int p1), .val (.int p2), .val (.ref a_TRUE), .val (.ref a_TRUE), .val (.ref a_TRUE), .unset] [(.ref a_TRUE)]))
      obtain ⟨_, _, ⟨T4, L4, k4, n4⟩, -, X4, ⟨Lc4, hQ4, l4, y4, z4⟩, st4⟩ := Jvm.LawKit.callS X3 hx (y := (⟨"com/example/wacl/wacl/core/TruthAndPinLaw", "rank", "(Lcom/example/wacl/wacl/core/Condition$Truth;)I"⟩ : MethodName)) hown (mvT hZ (hw _ (List.mem_of_getElem? (i := 18) rfl))) (mvT hZ (hw _ (List.mem_of_getElem? (i := 19) rfl))) (mvT hZ (hw _ (List.mem_of_getElem? (i := 2) rfl))) (mvT hZ (hw _ (List.mem_of_getElem? (i := 20) rfl))) (by decide) (backOf (W := 0) (rm3 l Z a0 hw [] a_TRUE a_UNDETERMINED a_FALSE HW a_TRUE (2 : Int32) h0 n0 Ol (by simp [(Fld.ne F_TRUE_ordinal F_UNDETERMINED_ordinal (by simp)), (Ne.symm (Fld.ne F_TRUE_ordinal F_UNDETERMINED_ordinal (by simp))), (Fld.ne F_TRUE_ordinal F_FALSE_ordinal (by simp)), (Ne.symm (Fld.ne F_TRUE_ordinal F_FALSE_ordinal (by simp))), (Fld.ne F_UNDETERMINED_ordinal F_FALSE_ordinal (by simp)), (Ne.symm (Fld.ne F_UNDETERMINED_ordinal F_FALSE_ordinal (by simp)))])) hZ (hw _ (List.mem_of_getElem? (i := 20) rfl)) (hw _ (List.mem_of_getElem? (i := 2) rfl)) (by decide) (by decide)) (g := (mkF m 18 #[.val (.int p1), .val (.int p2), .val (.ref a_TRUE), .val (.ref a_TRUE), .val (.ref a_TRUE), .unset] [(.ref a_TRUE)])) rfl (by rw [hml]; rfl) (argsL := [(.ref a_TRUE)]) (rest := []) (lenOf pd_2 rfl) rfl (by show 2 * 0 + _ ≤ _; exact Nat.le_of_eq rfl) (hb hby at_18) (fun _ _ => ⟨rfl, e3, (by decide : 0 + 0 ≤ _), (by decide : 0 + 0 ≤ _)⟩)
      dsimp only [Pt.U, Pt.locs, Pt.cells, Pt.slots] at X4 l4 y4 z4 st4 hQ4
      subst l4 y4 z4
      obtain ⟨rfl, Nq4, e4⟩ := hQ4
      have N4 := Fr.app N3 Nq4
      refine Go.step st4 ?_
      show Go p e below _ (T4.setTop (mkF m 21 #[.val (.int p1), .val (.int p2), .val (.ref a_TRUE), .val (.ref a_TRUE), .val (.ref a_TRUE), .unset] [(.int (2 : Int32))]))
      refine Go.step (fun t_ k_ => XS.aloadN X4.here hx rfl (hb hby at_21) rfl rfl k_) ?_
      show Go p e below _ (T4.setTop (mkF m 22 #[.val (.int p1), .val (.int p2), .val (.ref a_TRUE), .val (.ref a_TRUE), .val (.ref a_TRUE), .unset] [(.ref a_TRUE), (.int (2 : Int32))]))
      obtain ⟨_, _, ⟨T5, L5, k5, n5⟩, -, X5, ⟨Lc5, hQ5, l5, y5, z5⟩, st5⟩ := Jvm.LawKit.callS X4 hx (y := (⟨"com/example/wacl/wacl/core/TruthAndPinLaw", "rank", "(Lcom/example/wacl/wacl/core/Condition$Truth;)I"⟩ : MethodName)) hown (mvT hZ (hw _ (List.mem_of_getElem? (i := 18) rfl))) (mvT hZ (hw _ (List.mem_of_getElem? (i := 19) rfl))) (mvT hZ (hw _ (List.mem_of_getElem? (i := 2) rfl))) (mvT hZ (hw _ (List.mem_of_getElem? (i := 20) rfl))) (by decide) (backOf (W := 1) (rm3 l Z a0 hw [] a_TRUE a_UNDETERMINED a_FALSE HW a_TRUE (2 : Int32) h0 n0 Ol (by simp [(Fld.ne F_TRUE_ordinal F_UNDETERMINED_ordinal (by simp)), (Ne.symm (Fld.ne F_TRUE_ordinal F_UNDETERMINED_ordinal (by simp))), (Fld.ne F_TRUE_ordinal F_FALSE_ordinal (by simp)), (Ne.symm (Fld.ne F_TRUE_ordinal F_FALSE_ordinal (by simp))), (Fld.ne F_UNDETERMINED_ordinal F_FALSE_ordinal (by simp)), (Ne.symm (Fld.ne F_UNDETERMINED_ordinal F_FALSE_ordinal (by simp)))])) hZ (hw _ (List.mem_of_getElem? (i := 20) rfl)) (hw _ (List.mem_of_getElem? (i := 2) rfl)) (by decide) (by decide)) (g := (mkF m 22 #[.val (.int p1), .val (.int p2), .val (.ref a_TRUE), .val (.ref a_TRUE), .val (.ref a_TRUE), .unset] [(.ref a_TRUE), (.int (2 : Int32))])) rfl (by rw [hml]; rfl) (argsL := [(.ref a_TRUE)]) (rest := [(.int (2 : Int32))]) (lenOf pd_2 rfl) rfl (by show 2 * 0 + _ ≤ _; exact Nat.le_of_eq rfl) (hb hby at_22) (fun _ _ => ⟨rfl, e4, (by decide : 0 + 0 ≤ _), (by decide : 0 + 0 ≤ _)⟩)
      dsimp only [Pt.U, Pt.locs, Pt.cells, Pt.slots] at X5 l5 y5 z5 st5 hQ5
      subst l5 y5 z5
      obtain ⟨rfl, Nq5, e5⟩ := hQ5
      have N5 := Fr.app N4 Nq5
      refine Go.step st5 ?_
      show Go p e below _ (T5.setTop (mkF m 25 #[.val (.int p1), .val (.int p2), .val (.ref a_TRUE), .val (.ref a_TRUE), .val (.ref a_TRUE), .unset] [(.int (2 : Int32)), (.int (2 : Int32))]))
      obtain ⟨_, _, ⟨T6, L6, k6, n6⟩, -, X6, ⟨Lc6, hQ6, l6, y6, z6⟩, st6⟩ := Jvm.LawKit.callS X5 hx (y := (⟨"java/lang/Math", "min", "(II)I"⟩ : MethodName)) hown (mvT hZ (hw _ (List.mem_of_getElem? (i := 21) rfl))) (mvT hZ (hw _ (List.mem_of_getElem? (i := 22) rfl))) (mvT hZ (hw _ (List.mem_of_getElem? (i := 23) rfl))) (mvT hZ (hw _ (List.mem_of_getElem? (i := 24) rfl))) (by decide) (backOf (W := 0) (rm4 l Z a0 hw [] a_TRUE a_UNDETERMINED a_FALSE HW (2 : Int32) (2 : Int32) (2 : Int32) h0 n0 Ol (by decide)) hZ (hw _ (List.mem_of_getElem? (i := 24) rfl)) (hw _ (List.mem_of_getElem? (i := 23) rfl)) (by decide) (by decide)) (g := (mkF m 25 #[.val (.int p1), .val (.int p2), .val (.ref a_TRUE), .val (.ref a_TRUE), .val (.ref a_TRUE), .unset] [(.int (2 : Int32)), (.int (2 : Int32))])) rfl (by rw [hml]; rfl) (argsL := [(.int (2 : Int32)), (.int (2 : Int32))]) (rest := []) (lenOf pd_3 rfl) rfl (by show 2 * 0 + _ ≤ _; exact Nat.le_of_eq rfl) (hb hby at_25) (fun _ _ => ⟨rfl, e5, (by decide : 0 + 0 ≤ _), (by decide : 0 + 0 ≤ _)⟩)
      dsimp only [Pt.U, Pt.locs, Pt.cells, Pt.slots] at X6 l6 y6 z6 st6 hQ6
      subst l6 y6 z6
      obtain ⟨rfl, Nq6, e6⟩ := hQ6
      have N6 := Fr.app N5 Nq6
      refine Go.step st6 ?_
      show Go p e below _ (T6.setTop (mkF m 28 #[.val (.int p1), .val (.int p2), .val (.ref a_TRUE), .val (.ref a_TRUE), .val (.ref a_TRUE), .unset] [(.int (2 : Int32))]))
      refine Go.step (fun t_ k_ => XS.istore X6.here hx rfl (hb hby at_28) rfl (l' := #[.val (.int p1), .val (.int p2), .val (.ref a_TRUE), .val (.ref a_TRUE), .val (.ref a_TRUE), .val (.int (2 : Int32))]) rfl k_) ?_
      show Go p e below _ (T6.setTop (mkF m 30 #[.val (.int p1), .val (.int p2), .val (.ref a_TRUE), .val (.ref a_TRUE), .val (.ref a_TRUE), .val (.int (2 : Int32))] []))
      refine Go.step (fun t_ k_ => XS.aload X6.here hx rfl (hb hby at_30) rfl rfl k_) ?_
      show Go p e below _ (T6.setTop (mkF m 32 #[.val (.int p1), .val (.int p2), .val (.ref a_TRUE), .val (.ref a_TRUE), .val (.ref a_TRUE), .val (.int (2 : Int32))] [(.ref a_TRUE)]))
      obtain ⟨_, _, ⟨T7, L7, k7, n7⟩, -, X7, ⟨Lc7, hQ7, l7, y7, z7⟩, st7⟩ := Jvm.LawKit.callS X6 hx (y := (⟨"com/example/wacl/wacl/core/TruthAndPinLaw", "rank", "(Lcom/example/wacl/wacl/core/Condition$Truth;)I"⟩ : MethodName)) hown (mvT hZ (hw _ (List.mem_of_getElem? (i := 18) rfl))) (mvT hZ (hw _ (List.mem_of_getElem? (i := 19) rfl))) (mvT hZ (hw _ (List.mem_of_getElem? (i := 2) rfl))) (mvT hZ (hw _ (List.mem_of_getElem? (i := 20) rfl))) (by decide) (backOf (W := 0) (rm3 l Z a0 hw [] a_TRUE a_UNDETERMINED a_FALSE HW a_TRUE (2 : Int32) h0 n0 Ol (by simp [(Fld.ne F_TRUE_ordinal F_UNDETERMINED_ordinal (by simp)), (Ne.symm (Fld.ne F_TRUE_ordinal F_UNDETERMINED_ordinal (by simp))), (Fld.ne F_TRUE_ordinal F_FALSE_ordinal (by simp)), (Ne.symm (Fld.ne F_TRUE_ordinal F_FALSE_ordinal (by simp))), (Fld.ne F_UNDETERMINED_ordinal F_FALSE_ordinal (by simp)), (Ne.symm (Fld.ne F_UNDETERMINED_ordinal F_FALSE_ordinal (by simp)))])) hZ (hw _ (List.mem_of_getElem? (i := 20) rfl)) (hw _ (List.mem_of_getElem? (i := 2) rfl)) (by decide) (by decide)) (g := (mkF m 32 #[.val (.int p1), .val (.int p2), .val (.ref a_TRUE), .val (.ref a_TRUE), .val (.ref a_TRUE), .val (.int (2 : Int32))] [(.ref a_TRUE)])) rfl (by rw [hml]; rfl) (argsL := [(.ref a_TRUE)]) (rest := []) (lenOf pd_2 rfl) rfl (by show 2 * 0 + _ ≤ _; exact Nat.le_of_eq rfl) (hb hby at_32) (fun _ _ => ⟨rfl, e6, (by decide : 0 + 0 ≤ _), (by decide : 0 + 0 ≤ _)⟩)
      dsimp only [Pt.U, Pt.locs, Pt.cells, Pt.slots] at X7 l7 y7 z7 st7 hQ7
      subst l7 y7 z7
      obtain ⟨rfl, Nq7, e7⟩ := hQ7
      have N7 := Fr.app N6 Nq7
      refine Go.step st7 ?_
      show Go p e below _ (T7.setTop (mkF m 35 #[.val (.int p1), .val (.int p2), .val (.ref a_TRUE), .val (.ref a_TRUE), .val (.ref a_TRUE), .val (.int (2 : Int32))] [(.int (2 : Int32))]))
      refine Go.step (fun t_ k_ => XS.iload X7.here hx rfl (hb hby at_35) rfl k_) ?_
      show Go p e below _ (T7.setTop (mkF m 37 #[.val (.int p1), .val (.int p2), .val (.ref a_TRUE), .val (.ref a_TRUE), .val (.ref a_TRUE), .val (.int (2 : Int32))] [(.int (2 : Int32)), (.int (2 : Int32))]))
      have hc37 : (2 : Int32) = (2 : Int32) := by decide
      refine Go.step (fun t_ k_ => XS.icmpNo X7.here hx rfl (hb hby at_37) rfl (teq hc37).2 k_) ?_
      show Go p e below _ (T7.setTop (mkF m 40 #[.val (.int p1), .val (.int p2), .val (.ref a_TRUE), .val (.ref a_TRUE), .val (.ref a_TRUE), .val (.int (2 : Int32))] []))
      refine Go.step (fun t_ k_ => XS.iconst X7.here hx rfl (hb hby at_40) k_) ?_
      show Go p e below _ (T7.setTop (mkF m 41 #[.val (.int p1), .val (.int p2), .val (.ref a_TRUE), .val (.ref a_TRUE), .val (.ref a_TRUE), .val (.int (2 : Int32))] [(.int (1 : Int32))]))
      refine Go.step (fun t_ k_ => XS.goto X7.here hx rfl (pc0 := 41) (pc' := 45) rfl (hb hby at_41) (by decide) (by decide) k_) ?_
      show Go p e below _ (T7.setTop (mkF m 45 #[.val (.int p1), .val (.int p2), .val (.ref a_TRUE), .val (.ref a_TRUE), .val (.ref a_TRUE), .val (.int (2 : Int32))] [(.int (1 : Int32))]))
      refine Go.retZ X7 hx (t := .boolean) Bd.returns (by simp) Bd.notSynchronized (hb hby at_45) (by rw [e7]; exact ⟨rfl, N7⟩) (by decide) (by decide)
    next =>
      refine Go.step (fun t_ k_ => XS.iloadN X0.here hx rfl (hb hby at_0) rfl k_) ?_
      show Go p e below _ (s₁.setTop (mkF m 1 #[.val (.int p1), .val (.int p2), .unset, .unset, .unset, .unset] [(.int p1)]))
      obtain ⟨_, _, ⟨T8, L8, k8, n8⟩, -, X8, ⟨Lc8, hQ8, l8, y8, z8⟩, st8⟩ := Jvm.LawKit.callS X0 hx (y := (⟨"com/example/wacl/wacl/core/TruthAndPinLaw", "pick", "(I)Lcom/example/wacl/wacl/core/Condition$Truth;"⟩ : MethodName)) hown (mvT hZ (hw _ (List.mem_of_getElem? (i := 0) rfl))) (mvT hZ (hw _ (List.mem_of_getElem? (i := 1) rfl))) (mvT hZ (hw _ (List.mem_of_getElem? (i := 2) rfl))) (mvT hZ (hw _ (List.mem_of_getElem? (i := 3) rfl))) (by decide) (backOf (W := 0) (rm1 l Z a0 hw [] a_TRUE a_UNDETERMINED a_FALSE HW p1 (0 : Int32) a_TRUE h0 n0 Ol hk_p1 (by simp)) hZ (hw _ (List.mem_of_getElem? (i := 3) rfl)) (hw _ (List.mem_of_getElem? (i := 2) rfl)) (by decide) (by decide)) (g := (mkF m 1 #[.val (.int p1), .val (.int p2), .unset, .unset, .unset, .unset] [(.int p1)])) rfl (by rw [hml]; rfl) (argsL := [(.int p1)]) (rest := []) (lenOf pd_0 rfl) rfl (by show 2 * 0 + _ ≤ _; exact Nat.le_of_eq rfl) (hb hby at_1) (fun _ _ => ⟨rfl, e0, (by decide : 0 + 0 ≤ _), (by decide : 0 + 0 ≤ _)⟩)
      dsimp only [Pt.U, Pt.locs, Pt.cells, Pt.slots] at X8 l8 y8 z8 st8 hQ8
      subst l8 y8 z8
      obtain ⟨rfl, Nq8, e8⟩ := hQ8
      have N8 := Fr.app N0 Nq8
      refine Go.step st8 ?_
      show Go p e below _ (T8.setTop (mkF m 4 #[.val (.int p1), .val (.int p2), .unset, .unset, .unset, .unset] [(.ref a_TRUE)]))
      refine Go.step (fun t_ k_ => XS.astoreN X8.here hx rfl (hb hby at_4) rfl rfl (l' := #[.val (.int p1), .val (.int p2), .val (.ref a_TRUE), .unset, .unset, .unset]) rfl k_) ?_
      show Go p e below _ (T8.setTop (mkF m 5 #[.val (.int p1), .val (.int p2), .val (.ref a_TRUE), .unset, .unset, .unset] []))
      refine Go.step (fun t_ k_ => XS.iloadN X8.here hx rfl (hb hby at_5) rfl k_) ?_
      show Go p e below _ (T8.setTop (mkF m 6 #[.val (.int p1), .val (.int p2), .val (.ref a_TRUE), .unset, .unset, .unset] [(.int p2)]))
      obtain ⟨_, _, ⟨T9, L9, k9, n9⟩, -, X9, ⟨Lc9, hQ9, l9, y9, z9⟩, st9⟩ := Jvm.LawKit.callS X8 hx (y := (⟨"com/example/wacl/wacl/core/TruthAndPinLaw", "pick", "(I)Lcom/example/wacl/wacl/core/Condition$Truth;"⟩ : MethodName)) hown (mvT hZ (hw _ (List.mem_of_getElem? (i := 0) rfl))) (mvT hZ (hw _ (List.mem_of_getElem? (i := 1) rfl))) (mvT hZ (hw _ (List.mem_of_getElem? (i := 2) rfl))) (mvT hZ (hw _ (List.mem_of_getElem? (i := 3) rfl))) (by decide) (backOf (W := 0) (rm1 l Z a0 hw [] a_TRUE a_UNDETERMINED a_FALSE HW p2 (1 : Int32) a_UNDETERMINED h0 n0 Ol hk_p2 (by simp)) hZ (hw _ (List.mem_of_getElem? (i := 3) rfl)) (hw _ (List.mem_of_getElem? (i := 2) rfl)) (by decide) (by decide)) (g := (mkF m 6 #[.val (.int p1), .val (.int p2), .val (.ref a_TRUE), .unset, .unset, .unset] [(.int p2)])) rfl (by rw [hml]; rfl) (argsL := [(.int p2)]) (rest := []) (lenOf pd_0 rfl) rfl (by show 2 * 0 + _ ≤ _; exact Nat.le_of_eq rfl) (hb hby at_6) (fun _ _ => ⟨rfl, e8, (by decide : 0 + 0 ≤ _), (by decide : 0 + 0 ≤ _)⟩)
      dsimp only [Pt.U, Pt.locs, Pt.cells, Pt.slots] at X9 l9 y9 z9 st9 hQ9
      subst l9 y9 z9
      obtain ⟨rfl, Nq9, e9⟩ := hQ9
      have N9 := Fr.app N8 Nq9
      refine Go.step st9 ?_
      show Go p e below _ (T9.setTop (mkF m 9 #[.val (.int p1), .val (.int p2), .val (.ref a_TRUE), .unset, .unset, .unset] [(.ref a_UNDETERMINED)]))
      refine Go.step (fun t_ k_ => XS.astoreN X9.here hx rfl (hb hby at_9) rfl rfl (l' := #[.val (.int p1), .val (.int p2), .val (.ref a_TRUE), .val (.ref a_UNDETERMINED), .unset, .unset]) rfl k_) ?_
      show Go p e below _ (T9.setTop (mkF m 10 #[.val (.int p1), .val (.int p2), .val (.ref a_TRUE), .val (.ref a_UNDETERMINED), .unset, .unset] []))
      refine Go.step (fun t_ k_ => XS.aloadN X9.here hx rfl (hb hby at_10) rfl rfl k_) ?_
      show Go p e below _ (T9.setTop (mkF m 11 #[.val (.int p1), .val (.int p2), .val (.ref a_TRUE), .val (.ref a_UNDETERMINED), .unset, .unset] [(.ref a_TRUE)]))
      refine Go.step (fun t_ k_ => XS.aloadN X9.here hx rfl (hb hby at_11) rfl rfl k_) ?_
      show Go p e below _ (T9.setTop (mkF m 12 #[.val (.int p1), .val (.int p2), .val (.ref a_TRUE), .val (.ref a_UNDETERMINED), .unset, .unset] [(.ref a_UNDETERMINED), (.ref a_TRUE)]))
      obtain ⟨cq10, kq10, q10a, q10b, q10c⟩ := isOf hZ e9 (E_TRUE.ext Ol.2)
      obtain ⟨_, _, ⟨T10, L10, k10, n10⟩, -, X10, ⟨Lc10, hQ10, l10, y10, z10⟩, st10⟩ := X9.virtualBack hx (y := (⟨"com/example/wacl/wacl/core/Condition$Truth", "and", "(Lcom/example/wacl/wacl/core/Condition$Truth;)Lcom/example/wacl/wacl/core/Condition$Truth;"⟩ : MethodName)) (z := (⟨"com/example/wacl/wacl/core/Condition$Truth", "and", "(Lcom/example/wacl/wacl/core/Condition$Truth;)Lcom/example/wacl/wacl/core/Condition$Truth;"⟩ : MethodName)) hown (mvT hZ (hw _ (List.mem_of_getElem? (i := 8) rfl))) (mvT hZ (hw _ (List.mem_of_getElem? (i := 9) rfl))) (notFace_of_selects (args := #[]) (mvT hZ (hw _ (List.mem_of_getElem? (i := 11) rfl)))) (mvT hZ (hw _ (List.mem_of_getElem? (i := 11) rfl))) (mvT hZ (hw _ (List.mem_of_getElem? (i := 10) rfl))) (by decide) (backOf (W := 0) (rm2 l Z a0 hw [] a_TRUE a_UNDETERMINED a_FALSE HW a_TRUE a_UNDETERMINED a_UNDETERMINED h0 n0 Ol (by simp [(Fld.ne F_TRUE_ordinal F_UNDETERMINED_ordinal (by simp)), (Ne.symm (Fld.ne F_TRUE_ordinal F_UNDETERMINED_ordinal (by simp))), (Fld.ne F_TRUE_ordinal F_FALSE_ordinal (by simp)), (Ne.symm (Fld.ne F_TRUE_ordinal F_FALSE_ordinal (by simp))), (Fld.ne F_UNDETERMINED_ordinal F_FALSE_ordinal (by simp)), (Ne.symm (Fld.ne F_UNDETERMINED_ordinal F_FALSE_ordinal (by simp)))])) hZ (hw _ (List.mem_of_getElem? (i := 12) rfl)) (hw _ (List.mem_of_getElem? (i := 6) rfl)) (by decide) (by decide)) q10a q10c (g := (mkF m 12 #[.val (.int p1), .val (.int p2), .val (.ref a_TRUE), .val (.ref a_UNDETERMINED), .unset, .unset] [(.ref a_UNDETERMINED), (.ref a_TRUE)])) rfl (by rw [hml]; rfl) (Steps.refl _) (argsL := [(.ref a_UNDETERMINED)]) (rest := []) (lenOf pd_1 rfl) rfl (by show 2 * 0 + _ ≤ _; exact Nat.le_of_eq rfl) (hb hby at_12) (fun _ _ => ⟨rfl, e9, (by decide : 0 + 0 ≤ _), (by decide : 0 + 0 ≤ _)⟩)
      dsimp only [Pt.U, Pt.locs, Pt.cells, Pt.slots] at X10 l10 y10 z10 st10 hQ10
      subst l10 y10 z10
      obtain ⟨rfl, Nq10, e10⟩ := hQ10
      have N10 := Fr.app N9 Nq10
      refine Go.step (fun t_ k_ => st10.trans k_) ?_
      show Go p e below _ (T10.setTop (mkF m 15 #[.val (.int p1), .val (.int p2), .val (.ref a_TRUE), .val (.ref a_UNDETERMINED), .unset, .unset] [(.ref a_UNDETERMINED)]))
      refine Go.step (fun t_ k_ => XS.astore X10.here hx rfl (hb hby at_15) rfl rfl (l' := #[.val (.int p1), .val (.int p2), .val (.ref a_TRUE), .val (.ref a_UNDETERMINED), .val (.ref a_UNDETERMINED), .unset]) rfl k_) ?_
      show Go p e below _ (T10.setTop (mkF m 17 #[.val (.int p1), .val (.int p2), .val (.ref a_TRUE), .val (.ref a_UNDETERMINED), .val (.ref a_UNDETERMINED), .unset] []))
      refine Go.step (fun t_ k_ => XS.aloadN X10.here hx rfl (hb hby at_17) rfl rfl k_) ?_
      show Go p e below _ (T10.setTop (mkF m 18 #[.val (.int p1), .val (.int p2), .val (.ref a_TRUE), .val (.ref a_UNDETERMINED), .val (.ref a_UNDETERMINED), .unset] [(.ref a_TRUE)]))
      obtain ⟨_, _, ⟨T11, L11, k11, n11⟩, -, X11, ⟨Lc11, hQ11, l11, y11, z11⟩, st11⟩ := Jvm.LawKit.callS X10 hx (y := (⟨"com/example/wacl/wacl/core/TruthAndPinLaw", "rank", "(Lcom/example/wacl/wacl/core/Condition$Truth;)I"⟩ : MethodName)) hown (mvT hZ (hw _ (List.mem_of_getElem? (i := 18) rfl))) (mvT hZ (hw _ (List.mem_of_getElem? (i := 19) rfl))) (mvT hZ (hw _ (List.mem_of_getElem? (i := 2) rfl))) (mvT hZ (hw _ (List.mem_of_getElem? (i := 20) rfl))) (by decide) (backOf (W := 0) (rm3 l Z a0 hw [] a_TRUE a_UNDETERMINED a_FALSE HW a_TRUE (2 : Int32) h0 n0 Ol (by simp [(Fld.ne F_TRUE_ordinal F_UNDETERMINED_ordinal (by simp)), (Ne.symm (Fld.ne F_TRUE_ordinal F_UNDETERMINED_ordinal (by simp))), (Fld.ne F_TRUE_ordinal F_FALSE_ordinal (by simp)), (Ne.symm (Fld.ne F_TRUE_ordinal F_FALSE_ordinal (by simp))), (Fld.ne F_UNDETERMINED_ordinal F_FALSE_ordinal (by simp)), (Ne.symm (Fld.ne F_UNDETERMINED_ordinal F_FALSE_ordinal (by simp)))])) hZ (hw _ (List.mem_of_getElem? (i := 20) rfl)) (hw _ (List.mem_of_getElem? (i := 2) rfl)) (by decide) (by decide)) (g := (mkF m 18 #[.val (.int p1), .val (.int p2), .val (.ref a_TRUE), .val (.ref a_UNDETERMINED), .val (.ref a_UNDETERMINED), .unset] [(.ref a_TRUE)])) rfl (by rw [hml]; rfl) (argsL := [(.ref a_TRUE)]) (rest := []) (lenOf pd_2 rfl) rfl (by show 2 * 0 + _ ≤ _; exact Nat.le_of_eq rfl) (hb hby at_18) (fun _ _ => ⟨rfl, e10, (by decide : 0 + 0 ≤ _), (by decide : 0 + 0 ≤ _)⟩)
      dsimp only [Pt.U, Pt.locs, Pt.cells, Pt.slots] at X11 l11 y11 z11 st11 hQ11
      subst l11 y11 z11
      obtain ⟨rfl, Nq11, e11⟩ := hQ11
      have N11 := Fr.app N10 Nq11
      refine Go.step st11 ?_
      show Go p e below _ (T11.setTop (mkF m 21 #[.val (.int p1), .val (.int p2), .val (.ref a_TRUE), .val (.ref a_UNDETERMINED), .val (.ref a_UNDETERMINED), .unset] [(.int (2 : Int32))]))
      refine Go.step (fun t_ k_ => XS.aloadN X11.here hx rfl (hb hby at_21) rfl rfl k_) ?_
      show Go p e below _ (T11.setTop (mkF m 22 #[.val (.int p1), .val (.int p2), .val (.ref a_TRUE), .val (.ref a_UNDETERMINED), .val (.ref a_UNDETERMINED), .unset] [(.ref a_UNDETERMINED), (.int (2 : Int32))]))
      obtain ⟨_, _, ⟨T12, L12, k12, n12⟩, -, X12, ⟨Lc12, hQ12, l12, y12, z12⟩, st12⟩ := Jvm.LawKit.callS X11 hx (y := (⟨"com/example/wacl/wacl/core/TruthAndPinLaw", "rank", "(Lcom/example/wacl/wacl/core/Condition$Truth;)I"⟩ : MethodName)) hown (mvT hZ (hw _ (List.mem_of_getElem? (i := 18) rfl))) (mvT hZ (hw _ (List.mem_of_getElem? (i := 19) rfl))) (mvT hZ (hw _ (List.mem_of_getElem? (i := 2) rfl))) (mvT hZ (hw _ (List.mem_of_getElem? (i := 20) rfl))) (by decide) (backOf (W := 1) (rm3 l Z a0 hw [] a_TRUE a_UNDETERMINED a_FALSE HW a_UNDETERMINED (1 : Int32) h0 n0 Ol (by simp [(Fld.ne F_TRUE_ordinal F_UNDETERMINED_ordinal (by simp)), (Ne.symm (Fld.ne F_TRUE_ordinal F_UNDETERMINED_ordinal (by simp))), (Fld.ne F_TRUE_ordinal F_FALSE_ordinal (by simp)), (Ne.symm (Fld.ne F_TRUE_ordinal F_FALSE_ordinal (by simp))), (Fld.ne F_UNDETERMINED_ordinal F_FALSE_ordinal (by simp)), (Ne.symm (Fld.ne F_UNDETERMINED_ordinal F_FALSE_ordinal (by simp)))])) hZ (hw _ (List.mem_of_getElem? (i := 20) rfl)) (hw _ (List.mem_of_getElem? (i := 2) rfl)) (by decide) (by decide)) (g := (mkF m 22 #[.val (.int p1), .val (.int p2), .val (.ref a_TRUE), .val (.ref a_UNDETERMINED), .val (.ref a_UNDETERMINED), .unset] [(.ref a_UNDETERMINED), (.int (2 : Int32))])) rfl (by rw [hml]; rfl) (argsL := [(.ref a_UNDETERMINED)]) (rest := [(.int (2 : Int32))]) (lenOf pd_2 rfl) rfl (by show 2 * 0 + _ ≤ _; exact Nat.le_of_eq rfl) (hb hby at_22) (fun _ _ => ⟨rfl, e11, (by decide : 0 + 0 ≤ _), (by decide : 0 + 0 ≤ _)⟩)
      dsimp only [Pt.U, Pt.locs, Pt.cells, Pt.slots] at X12 l12 y12 z12 st12 hQ12
      subst l12 y12 z12
      obtain ⟨rfl, Nq12, e12⟩ := hQ12
      have N12 := Fr.app N11 Nq12
      refine Go.step st12 ?_
      show Go p e below _ (T12.setTop (mkF m 25 #[.val (.int p1), .val (.int p2), .val (.ref a_TRUE), .val (.ref a_UNDETERMINED), .val (.ref a_UNDETERMINED), .unset] [(.int (1 : Int32)), (.int (2 : Int32))]))
      obtain ⟨_, _, ⟨T13, L13, k13, n13⟩, -, X13, ⟨Lc13, hQ13, l13, y13, z13⟩, st13⟩ := Jvm.LawKit.callS X12 hx (y := (⟨"java/lang/Math", "min", "(II)I"⟩ : MethodName)) hown (mvT hZ (hw _ (List.mem_of_getElem? (i := 21) rfl))) (mvT hZ (hw _ (List.mem_of_getElem? (i := 22) rfl))) (mvT hZ (hw _ (List.mem_of_getElem? (i := 23) rfl))) (mvT hZ (hw _ (List.mem_of_getElem? (i := 24) rfl))) (by decide) (backOf (W := 0) (rm4 l Z a0 hw [] a_TRUE a_UNDETERMINED a_FALSE HW (2 : Int32) (1 : Int32) (1 : Int32) h0 n0 Ol (by decide)) hZ (hw _ (List.mem_of_getElem? (i := 24) rfl)) (hw _ (List.mem_of_getElem? (i := 23) rfl)) (by decide) (by decide)) (g := (mkF m 25 #[.val (.int p1), .val (.int p2), .val (.ref a_TRUE), .val (.ref a_UNDETERMINED), .val (.ref a_UNDETERMINED), .unset] [(.int (1 : Int32)), (.int (2 : Int32))])) rfl (by rw [hml]; rfl) (argsL := [(.int (2 : Int32)), (.int (1 : Int32))]) (rest := []) (lenOf pd_3 rfl) rfl (by show 2 * 0 + _ ≤ _; exact Nat.le_of_eq rfl) (hb hby at_25) (fun _ _ => ⟨rfl, e12, (by decide : 0 + 0 ≤ _), (by decide : 0 + 0 ≤ _)⟩)
      dsimp only [Pt.U, Pt.locs, Pt.cells, Pt.slots] at X13 l13 y13 z13 st13 hQ13
      subst l13 y13 z13
      obtain ⟨rfl, Nq13, e13⟩ := hQ13
      have N13 := Fr.app N12 Nq13
      refine Go.step st13 ?_
      show Go p e below _ (T13.setTop (mkF m 28 #[.val (.int p1), .val (.int p2), .val (.ref a_TRUE), .val (.ref a_UNDETERMINED), .val (.ref a_UNDETERMINED), .unset] [(.int (1 : Int32))]))
      refine Go.step (fun t_ k_ => XS.istore X13.here hx rfl (hb hby at_28) rfl (l' := #[.val (.int p1), .val (.int p2), .val (.ref a_TRUE), .val (.ref a_UNDETERMINED), .val (.ref a_UNDETERMINED), .val (.int (1 : Int32))]) rfl k_) ?_
      show Go p e below _ (T13.setTop (mkF m 30 #[.val (.int p1), .val (.int p2), .val (.ref a_TRUE), .val (.ref a_UNDETERMINED), .val (.ref a_UNDETERMINED), .val (.int (1 : Int32))] []))
      refine Go.step (fun t_ k_ => XS.aload X13.here hx rfl (hb hby at_30) rfl rfl k_) ?_
      show Go p e below _ (T13.setTop (mkF m 32 #[.val (.int p1), .val (.int p2), .val (.ref a_TRUE), .val (.ref a_UNDETERMINED), .val (.ref a_UNDETERMINED), .val (.int (1 : Int32))] [(.ref a_UNDETERMINED)]))
      obtain ⟨_, _, ⟨T14, L14, k14, n14⟩, -, X14, ⟨Lc14, hQ14, l14, y14, z14⟩, st14⟩ := Jvm.LawKit.callS X13 hx (y := (⟨"com/example/wacl/wacl/core/TruthAndPinLaw", "rank", "(Lcom/example/wacl/wacl/core/Condition$Truth;)I"⟩ : MethodName)) hown (mvT hZ (hw _ (List.mem_of_getElem? (i := 18) rfl))) (mvT hZ (hw _ (List.mem_of_getElem? (i := 19) rfl))) (mvT hZ (hw _ (List.mem_of_getElem? (i := 2) rfl))) (mvT hZ (hw _ (List.mem_of_getElem? (i := 20) rfl))) (by decide) (backOf (W := 0) (rm3 l Z a0 hw [] a_TRUE a_UNDETERMINED a_FALSE HW a_UNDETERMINED (1 : Int32) h0 n0 Ol (by simp [(Fld.ne F_TRUE_ordinal F_UNDETERMINED_ordinal (by simp)), (Ne.symm (Fld.ne F_TRUE_ordinal F_UNDETERMINED_ordinal (by simp))), (Fld.ne F_TRUE_ordinal F_FALSE_ordinal (by simp)), (Ne.symm (Fld.ne F_TRUE_ordinal F_FALSE_ordinal (by simp))), (Fld.ne F_UNDETERMINED_ordinal F_FALSE_ordinal (by simp)), (Ne.symm (Fld.ne F_UNDETERMINED_ordinal F_FALSE_ordinal (by simp)))])) hZ (hw _ (List.mem_of_getElem? (i := 20) rfl)) (hw _ (List.mem_of_getElem? (i := 2) rfl)) (by decide) (by decide)) (g := (mkF m 32 #[.val (.int p1), .val (.int p2), .val (.ref a_TRUE), .val (.ref a_UNDETERMINED), .val (.ref a_UNDETERMINED), .val (.int (1 : Int32))] [(.ref a_UNDETERMINED)])) rfl (by rw [hml]; rfl) (argsL := [(.ref a_UNDETERMINED)]) (rest := []) (lenOf pd_2 rfl) rfl (by show 2 * 0 + _ ≤ _; exact Nat.le_of_eq rfl) (hb hby at_32) (fun _ _ => ⟨rfl, e13, (by decide : 0 + 0 ≤ _), (by decide : 0 + 0 ≤ _)⟩)
      dsimp only [Pt.U, Pt.locs, Pt.cells, Pt.slots] at X14 l14 y14 z14 st14 hQ14
      subst l14 y14 z14
      obtain ⟨rfl, Nq14, e14⟩ := hQ14
      have N14 := Fr.app N13 Nq14
      refine Go.step st14 ?_
      show Go p e below _ (T14.setTop (mkF m 35 #[.val (.int p1), .val (.int p2), .val (.ref a_TRUE), .val (.ref a_UNDETERMINED), .val (.ref a_UNDETERMINED), .val (.int (1 : Int32))] [(.int (1 : Int32))]))
      refine Go.step (fun t_ k_ => XS.iload X14.here hx rfl (hb hby at_35) rfl k_) ?_
      show Go p e below _ (T14.setTop (mkF m 37 #[.val (.int p1), .val (.int p2), .val (.ref a_TRUE), .val (.ref a_UNDETERMINED), .val (.ref a_UNDETERMINED), .val (.int (1 : Int32))] [(.int (1 : Int32)), (.int (1 : Int32))]))
      have hc37 : (1 : Int32) = (1 : Int32) := by decide
      refine Go.step (fun t_ k_ => XS.icmpNo X14.here hx rfl (hb hby at_37) rfl (teq hc37).2 k_) ?_
      show Go p e below _ (T14.setTop (mkF m 40 #[.val (.int p1), .val (.int p2), .val (.ref a_TRUE), .val (.ref a_UNDETERMINED), .val (.ref a_UNDETERMINED), .val (.int (1 : Int32))] []))
      refine Go.step (fun t_ k_ => XS.iconst X14.here hx rfl (hb hby at_40) k_) ?_
      show Go p e below _ (T14.setTop (mkF m 41 #[.val (.int p1), .val (.int p2), .val (.ref a_TRUE), .val (.ref a_UNDETERMINED), .val (.ref a_UNDETERMINED), .val (.int (1 : Int32))] [(.int (1 : Int32))]))
      refine Go.step (fun t_ k_ => XS.goto X14.here hx rfl (pc0 := 41) (pc' := 45) rfl (hb hby at_41) (by decide) (by decide) k_) ?_
      show Go p e below _ (T14.setTop (mkF m 45 #[.val (.int p1), .val (.int p2), .val (.ref a_TRUE), .val (.ref a_UNDETERMINED), .val (.ref a_UNDETERMINED), .val (.int (1 : Int32))] [(.int (1 : Int32))]))
      refine Go.retZ X14 hx (t := .boolean) Bd.returns (by simp) Bd.notSynchronized (hb hby at_45) (by rw [e14]; exact ⟨rfl, N14⟩) (by decide) (by decide)
    next =>
      refine Go.step (fun t_ k_ => XS.iloadN X0.here hx rfl (hb hby at_0) rfl k_) ?_
      show Go p e below _ (s₁.setTop (mkF m 1 #[.val (.int p1), .val (.int p2), .unset, .unset, .unset, .unset] [(.int p1)]))
      obtain ⟨_, _, ⟨T15, L15, k15, n15⟩, -, X15, ⟨Lc15, hQ15, l15, y15, z15⟩, st15⟩ := Jvm.LawKit.callS X0 hx (y := (⟨"com/example/wacl/wacl/core/TruthAndPinLaw", "pick", "(I)Lcom/example/wacl/wacl/core/Condition$Truth;"⟩ : MethodName)) hown (mvT hZ (hw _ (List.mem_of_getElem? (i := 0) rfl))) (mvT hZ (hw _ (List.mem_of_getElem? (i := 1) rfl))) (mvT hZ (hw _ (List.mem_of_getElem? (i := 2) rfl))) (mvT hZ (hw _ (List.mem_of_getElem? (i := 3) rfl))) (by decide) (backOf (W := 0) (rm1 l Z a0 hw [] a_TRUE a_UNDETERMINED a_FALSE HW p1 (0 : Int32) a_TRUE h0 n0 Ol hk_p1 (by simp)) hZ (hw _ (List.mem_of_getElem? (i := 3) rfl)) (hw _ (List.mem_of_getElem? (i := 2) rfl)) (by decide) (by decide)) (g := (mkF m 1 #[.val (.int p1), .val (.int p2), .unset, .unset, .unset, .unset] [(.int p1)])) rfl (by rw [hml]; rfl) (argsL := [(.int p1)]) (rest := []) (lenOf pd_0 rfl) rfl (by show 2 * 0 + _ ≤ _; exact Nat.le_of_eq rfl) (hb hby at_1) (fun _ _ => ⟨rfl, e0, (by decide : 0 + 0 ≤ _), (by decide : 0 + 0 ≤ _)⟩)
      dsimp only [Pt.U, Pt.locs, Pt.cells, Pt.slots] at X15 l15 y15 z15 st15 hQ15
      subst l15 y15 z15
      obtain ⟨rfl, Nq15, e15⟩ := hQ15
      have N15 := Fr.app N0 Nq15
      refine Go.step st15 ?_
      show Go p e below _ (T15.setTop (mkF m 4 #[.val (.int p1), .val (.int p2), .unset, .unset, .unset, .unset] [(.ref a_TRUE)]))
      refine Go.step (fun t_ k_ => XS.astoreN X15.here hx rfl (hb hby at_4) rfl rfl (l' := #[.val (.int p1), .val (.int p2), .val (.ref a_TRUE), .unset, .unset, .unset]) rfl k_) ?_
      show Go p e below _ (T15.setTop (mkF m 5 #[.val (.int p1), .val (.int p2), .val (.ref a_TRUE), .unset, .unset, .unset] []))
      refine Go.step (fun t_ k_ => XS.iloadN X15.here hx rfl (hb hby at_5) rfl k_) ?_
      show Go p e below _ (T15.setTop (mkF m 6 #[.val (.int p1), .val (.int p2), .val (.ref a_TRUE), .unset, .unset, .unset] [(.int p2)]))
      obtain ⟨_, _, ⟨T16, L16, k16, n16⟩, -, X16, ⟨Lc16, hQ16, l16, y16, z16⟩, st16⟩ := Jvm.LawKit.callS X15 hx (y := (⟨"com/example/wacl/wacl/core/TruthAndPinLaw", "pick", "(I)Lcom/example/wacl/wacl/core/Condition$Truth;"⟩ : MethodName)) hown (mvT hZ (hw _ (List.mem_of_getElem? (i := 0) rfl))) (mvT hZ (hw _ (List.mem_of_getElem? (i := 1) rfl))) (mvT hZ (hw _ (List.mem_of_getElem? (i := 2) rfl))) (mvT hZ (hw _ (List.mem_of_getElem? (i := 3) rfl))) (by decide) (backOf (W := 0) (rm1 l Z a0 hw [] a_TRUE a_UNDETERMINED a_FALSE HW p2 (2 : Int32) a_FALSE h0 n0 Ol hk_p2 (by simp)) hZ (hw _ (List.mem_of_getElem? (i := 3) rfl)) (hw _ (List.mem_of_getElem? (i := 2) rfl)) (by decide) (by decide)) (g := (mkF m 6 #[.val (.int p1), .val (.int p2), .val (.ref a_TRUE), .unset, .unset, .unset] [(.int p2)])) rfl (by rw [hml]; rfl) (argsL := [(.int p2)]) (rest := []) (lenOf pd_0 rfl) rfl (by show 2 * 0 + _ ≤ _; exact Nat.le_of_eq rfl) (hb hby at_6) (fun _ _ => ⟨rfl, e15, (by decide : 0 + 0 ≤ _), (by decide : 0 + 0 ≤ _)⟩)
      dsimp only [Pt.U, Pt.locs, Pt.cells, Pt.slots] at X16 l16 y16 z16 st16 hQ16
      subst l16 y16 z16
      obtain ⟨rfl, Nq16, e16⟩ := hQ16
      have N16 := Fr.app N15 Nq16
      refine Go.step st16 ?_
      show Go p e below _ (T16.setTop (mkF m 9 #[.val (.int p1), .val (.int p2), .val (.ref a_TRUE), .unset, .unset, .unset] [(.ref a_FALSE)]))
      refine Go.step (fun t_ k_ => XS.astoreN X16.here hx rfl (hb hby at_9) rfl rfl (l' := #[.val (.int p1), .val (.int p2), .val (.ref a_TRUE), .val (.ref a_FALSE), .unset, .unset]) rfl k_) ?_
      show Go p e below _ (T16.setTop (mkF m 10 #[.val (.int p1), .val (.int p2), .val (.ref a_TRUE), .val (.ref a_FALSE), .unset, .unset] []))
      refine Go.step (fun t_ k_ => XS.aloadN X16.here hx rfl (hb hby at_10) rfl rfl k_) ?_
      show Go p e below _ (T16.setTop (mkF m 11 #[.val (.int p1), .val (.int p2), .val (.ref a_TRUE), .val (.ref a_FALSE), .unset, .unset] [(.ref a_TRUE)]))
      refine Go.step (fun t_ k_ => XS.aloadN X16.here hx rfl (hb hby at_11) rfl rfl k_) ?_
      show Go p e below _ (T16.setTop (mkF m 12 #[.val (.int p1), .val (.int p2), .val (.ref a_TRUE), .val (.ref a_FALSE), .unset, .unset] [(.ref a_FALSE), (.ref a_TRUE)]))
      obtain ⟨cq17, kq17, q17a, q17b, q17c⟩ := isOf hZ e16 (E_TRUE.ext Ol.2)
      obtain ⟨_, _, ⟨T17, L17, k17, n17⟩, -, X17, ⟨Lc17, hQ17, l17, y17, z17⟩, st17⟩ := X16.virtualBack hx (y := (⟨"com/example/wacl/wacl/core/Condition$Truth", "and", "(Lcom/example/wacl/wacl/core/Condition$Truth;)Lcom/example/wacl/wacl/core/Condition$Truth;"⟩ : MethodName)) (z := (⟨"com/example/wacl/wacl/core/Condition$Truth", "and", "(Lcom/example/wacl/wacl/core/Condition$Truth;)Lcom/example/wacl/wacl/core/Condition$Truth;"⟩ : MethodName)) hown (mvT hZ (hw _ (List.mem_of_getElem? (i := 8) rfl))) (mvT hZ (hw _ (List.mem_of_getElem? (i := 9) rfl))) (notFace_of_selects (args := #[]) (mvT hZ (hw _ (List.mem_of_getElem? (i := 11) rfl)))) (mvT hZ (hw _ (List.mem_of_getElem? (i := 11) rfl))) (mvT hZ (hw _ (List.mem_of_getElem? (i := 10) rfl))) (by decide) (backOf (W := 0) (rm2 l Z a0 hw [] a_TRUE a_UNDETERMINED a_FALSE HW a_TRUE a_FALSE a_FALSE h0 n0 Ol (by simp [(Fld.ne F_TRUE_ordinal F_UNDETERMINED_ordinal (by simp)), (Ne.symm (Fld.ne F_TRUE_ordinal F_UNDETERMINED_ordinal (by simp))), (Fld.ne F_TRUE_ordinal F_FALSE_ordinal (by simp)), (Ne.symm (Fld.ne F_TRUE_ordinal F_FALSE_ordinal (by simp))), (Fld.ne F_UNDETERMINED_ordinal F_FALSE_ordinal (by simp)), (Ne.symm (Fld.ne F_UNDETERMINED_ordinal F_FALSE_ordinal (by simp)))])) hZ (hw _ (List.mem_of_getElem? (i := 12) rfl)) (hw _ (List.mem_of_getElem? (i := 6) rfl)) (by decide) (by decide)) q17a q17c (g := (mkF m 12 #[.val (.int p1), .val (.int p2), .val (.ref a_TRUE), .val (.ref a_FALSE), .unset, .unset] [(.ref a_FALSE), (.ref a_TRUE)])) rfl (by rw [hml]; rfl) (Steps.refl _) (argsL := [(.ref a_FALSE)]) (rest := []) (lenOf pd_1 rfl) rfl (by show 2 * 0 + _ ≤ _; exact Nat.le_of_eq rfl) (hb hby at_12) (fun _ _ => ⟨rfl, e16, (by decide : 0 + 0 ≤ _), (by decide : 0 + 0 ≤ _)⟩)
      dsimp only [Pt.U, Pt.locs, Pt.cells, Pt.slots] at X17 l17 y17 z17 st17 hQ17
      subst l17 y17 z17
      obtain ⟨rfl, Nq17, e17⟩ := hQ17
      have N17 := Fr.app N16 Nq17
      refine Go.step (fun t_ k_ => st17.trans k_) ?_
      show Go p e below _ (T17.setTop (mkF m 15 #[.val (.int p1), .val (.int p2), .val (.ref a_TRUE), .val (.ref a_FALSE), .unset, .unset] [(.ref a_FALSE)]))
      refine Go.step (fun t_ k_ => XS.astore X17.here hx rfl (hb hby at_15) rfl rfl (l' := #[.val (.int p1), .val (.int p2), .val (.ref a_TRUE), .val (.ref a_FALSE), .val (.ref a_FALSE), .unset]) rfl k_) ?_
      show Go p e below _ (T17.setTop (mkF m 17 #[.val (.int p1), .val (.int p2), .val (.ref a_TRUE), .val (.ref a_FALSE), .val (.ref a_FALSE), .unset] []))
      refine Go.step (fun t_ k_ => XS.aloadN X17.here hx rfl (hb hby at_17) rfl rfl k_) ?_
      show Go p e below _ (T17.setTop (mkF m 18 #[.val (.int p1), .val (.int p2), .val (.ref a_TRUE), .val (.ref a_FALSE), .val (.ref a_FALSE), .unset] [(.ref a_TRUE)]))
      obtain ⟨_, _, ⟨T18, L18, k18, n18⟩, -, X18, ⟨Lc18, hQ18, l18, y18, z18⟩, st18⟩ := Jvm.LawKit.callS X17 hx (y := (⟨"com/example/wacl/wacl/core/TruthAndPinLaw", "rank", "(Lcom/example/wacl/wacl/core/Condition$Truth;)I"⟩ : MethodName)) hown (mvT hZ (hw _ (List.mem_of_getElem? (i := 18) rfl))) (mvT hZ (hw _ (List.mem_of_getElem? (i := 19) rfl))) (mvT hZ (hw _ (List.mem_of_getElem? (i := 2) rfl))) (mvT hZ (hw _ (List.mem_of_getElem? (i := 20) rfl))) (by decide) (backOf (W := 0) (rm3 l Z a0 hw [] a_TRUE a_UNDETERMINED a_FALSE HW a_TRUE (2 : Int32) h0 n0 Ol (by simp [(Fld.ne F_TRUE_ordinal F_UNDETERMINED_ordinal (by simp)), (Ne.symm (Fld.ne F_TRUE_ordinal F_UNDETERMINED_ordinal (by simp))), (Fld.ne F_TRUE_ordinal F_FALSE_ordinal (by simp)), (Ne.symm (Fld.ne F_TRUE_ordinal F_FALSE_ordinal (by simp))), (Fld.ne F_UNDETERMINED_ordinal F_FALSE_ordinal (by simp)), (Ne.symm (Fld.ne F_UNDETERMINED_ordinal F_FALSE_ordinal (by simp)))])) hZ (hw _ (List.mem_of_getElem? (i := 20) rfl)) (hw _ (List.mem_of_getElem? (i := 2) rfl)) (by decide) (by decide)) (g := (mkF m 18 #[.val (.int p1), .val (.int p2), .val (.ref a_TRUE), .val (.ref a_FALSE), .val (.ref a_FALSE), .unset] [(.ref a_TRUE)])) rfl (by rw [hml]; rfl) (argsL := [(.ref a_TRUE)]) (rest := []) (lenOf pd_2 rfl) rfl (by show 2 * 0 + _ ≤ _; exact Nat.le_of_eq rfl) (hb hby at_18) (fun _ _ => ⟨rfl, e17, (by decide : 0 + 0 ≤ _), (by decide : 0 + 0 ≤ _)⟩)
      dsimp only [Pt.U, Pt.locs, Pt.cells, Pt.slots] at X18 l18 y18 z18 st18 hQ18
      subst l18 y18 z18
      obtain ⟨rfl, Nq18, e18⟩ := hQ18
      have N18 := Fr.app N17 Nq18
      refine Go.step st18 ?_
      show Go p e below _ (T18.setTop (mkF m 21 #[.val (.int p1), .val (.int p2), .val (.ref a_TRUE), .val (.ref a_FALSE), .val (.ref a_FALSE), .unset] [(.int (2 : Int32))]))
      refine Go.step (fun t_ k_ => XS.aloadN X18.here hx rfl (hb hby at_21) rfl rfl k_) ?_
      show Go p e below _ (T18.setTop (mkF m 22 #[.val (.int p1), .val (.int p2), .val (.ref a_TRUE), .val (.ref a_FALSE), .val (.ref a_FALSE), .unset] [(.ref a_FALSE), (.int (2 : Int32))]))
      obtain ⟨_, _, ⟨T19, L19, k19, n19⟩, -, X19, ⟨Lc19, hQ19, l19, y19, z19⟩, st19⟩ := Jvm.LawKit.callS X18 hx (y := (⟨"com/example/wacl/wacl/core/TruthAndPinLaw", "rank", "(Lcom/example/wacl/wacl/core/Condition$Truth;)I"⟩ : MethodName)) hown (mvT hZ (hw _ (List.mem_of_getElem? (i := 18) rfl))) (mvT hZ (hw _ (List.mem_of_getElem? (i := 19) rfl))) (mvT hZ (hw _ (List.mem_of_getElem? (i := 2) rfl))) (mvT hZ (hw _ (List.mem_of_getElem? (i := 20) rfl))) (by decide) (backOf (W := 1) (rm3 l Z a0 hw [] a_TRUE a_UNDETERMINED a_FALSE HW a_FALSE (0 : Int32) h0 n0 Ol (by simp [(Fld.ne F_TRUE_ordinal F_UNDETERMINED_ordinal (by simp)), (Ne.symm (Fld.ne F_TRUE_ordinal F_UNDETERMINED_ordinal (by simp))), (Fld.ne F_TRUE_ordinal F_FALSE_ordinal (by simp)), (Ne.symm (Fld.ne F_TRUE_ordinal F_FALSE_ordinal (by simp))), (Fld.ne F_UNDETERMINED_ordinal F_FALSE_ordinal (by simp)), (Ne.symm (Fld.ne F_UNDETERMINED_ordinal F_FALSE_ordinal (by simp)))])) hZ (hw _ (List.mem_of_getElem? (i := 20) rfl)) (hw _ (List.mem_of_getElem? (i := 2) rfl)) (by decide) (by decide)) (g := (mkF m 22 #[.val (.int p1), .val (.int p2), .val (.ref a_TRUE), .val (.ref a_FALSE), .val (.ref a_FALSE), .unset] [(.ref a_FALSE), (.int (2 : Int32))])) rfl (by rw [hml]; rfl) (argsL := [(.ref a_FALSE)]) (rest := [(.int (2 : Int32))]) (lenOf pd_2 rfl) rfl (by show 2 * 0 + _ ≤ _; exact Nat.le_of_eq rfl) (hb hby at_22) (fun _ _ => ⟨rfl, e18, (by decide : 0 + 0 ≤ _), (by decide : 0 + 0 ≤ _)⟩)
      dsimp only [Pt.U, Pt.locs, Pt.cells, Pt.slots] at X19 l19 y19 z19 st19 hQ19
      subst l19 y19 z19
      obtain ⟨rfl, Nq19, e19⟩ := hQ19
      have N19 := Fr.app N18 Nq19
      refine Go.step st19 ?_
      show Go p e below _ (T19.setTop (mkF m 25 #[.val (.int p1), .val (.int p2), .val (.ref a_TRUE), .val (.ref a_FALSE), .val (.ref a_FALSE), .unset] [(.int (0 : Int32)), (.int (2 : Int32))]))
      obtain ⟨_, _, ⟨T20, L20, k20, n20⟩, -, X20, ⟨Lc20, hQ20, l20, y20, z20⟩, st20⟩ := Jvm.LawKit.callS X19 hx (y := (⟨"java/lang/Math", "min", "(II)I"⟩ : MethodName)) hown (mvT hZ (hw _ (List.mem_of_getElem? (i := 21) rfl))) (mvT hZ (hw _ (List.mem_of_getElem? (i := 22) rfl))) (mvT hZ (hw _ (List.mem_of_getElem? (i := 23) rfl))) (mvT hZ (hw _ (List.mem_of_getElem? (i := 24) rfl))) (by decide) (backOf (W := 0) (rm4 l Z a0 hw [] a_TRUE a_UNDETERMINED a_FALSE HW (2 : Int32) (0 : Int32) (0 : Int32) h0 n0 Ol (by decide)) hZ (hw _ (List.mem_of_getElem? (i := 24) rfl)) (hw _ (List.mem_of_getElem? (i := 23) rfl)) (by decide) (by decide)) (g := (mkF m 25 #[.val (.int p1), .val (.int p2), .val (.ref a_TRUE), .val (.ref a_FALSE), .val (.ref a_FALSE), .unset] [(.int (0 : Int32)), (.int (2 : Int32))])) rfl (by rw [hml]; rfl) (argsL := [(.int (2 : Int32)), (.int (0 : Int32))]) (rest := []) (lenOf pd_3 rfl) rfl (by show 2 * 0 + _ ≤ _; exact Nat.le_of_eq rfl) (hb hby at_25) (fun _ _ => ⟨rfl, e19, (by decide : 0 + 0 ≤ _), (by decide : 0 + 0 ≤ _)⟩)
      dsimp only [Pt.U, Pt.locs, Pt.cells, Pt.slots] at X20 l20 y20 z20 st20 hQ20
      subst l20 y20 z20
      obtain ⟨rfl, Nq20, e20⟩ := hQ20
      have N20 := Fr.app N19 Nq20
      refine Go.step st20 ?_
      show Go p e below _ (T20.setTop (mkF m 28 #[.val (.int p1), .val (.int p2), .val (.ref a_TRUE), .val (.ref a_FALSE), .val (.ref a_FALSE), .unset] [(.int (0 : Int32))]))
      refine Go.step (fun t_ k_ => XS.istore X20.here hx rfl (hb hby at_28) rfl (l' := #[.val (.int p1), .val (.int p2), .val (.ref a_TRUE), .val (.ref a_FALSE), .val (.ref a_FALSE), .val (.int (0 : Int32))]) rfl k_) ?_
      show Go p e below _ (T20.setTop (mkF m 30 #[.val (.int p1), .val (.int p2), .val (.ref a_TRUE), .val (.ref a_FALSE), .val (.ref a_FALSE), .val (.int (0 : Int32))] []))
      refine Go.step (fun t_ k_ => XS.aload X20.here hx rfl (hb hby at_30) rfl rfl k_) ?_
      show Go p e below _ (T20.setTop (mkF m 32 #[.val (.int p1), .val (.int p2), .val (.ref a_TRUE), .val (.ref a_FALSE), .val (.ref a_FALSE), .val (.int (0 : Int32))] [(.ref a_FALSE)]))
      obtain ⟨_, _, ⟨T21, L21, k21, n21⟩, -, X21, ⟨Lc21, hQ21, l21, y21, z21⟩, st21⟩ := Jvm.LawKit.callS X20 hx (y := (⟨"com/example/wacl/wacl/core/TruthAndPinLaw", "rank", "(Lcom/example/wacl/wacl/core/Condition$Truth;)I"⟩ : MethodName)) hown (mvT hZ (hw _ (List.mem_of_getElem? (i := 18) rfl))) (mvT hZ (hw _ (List.mem_of_getElem? (i := 19) rfl))) (mvT hZ (hw _ (List.mem_of_getElem? (i := 2) rfl))) (mvT hZ (hw _ (List.mem_of_getElem? (i := 20) rfl))) (by decide) (backOf (W := 0) (rm3 l Z a0 hw [] a_TRUE a_UNDETERMINED a_FALSE HW a_FALSE (0 : Int32) h0 n0 Ol (by simp [(Fld.ne F_TRUE_ordinal F_UNDETERMINED_ordinal (by simp)), (Ne.symm (Fld.ne F_TRUE_ordinal F_UNDETERMINED_ordinal (by simp))), (Fld.ne F_TRUE_ordinal F_FALSE_ordinal (by simp)), (Ne.symm (Fld.ne F_TRUE_ordinal F_FALSE_ordinal (by simp))), (Fld.ne F_UNDETERMINED_ordinal F_FALSE_ordinal (by simp)), (Ne.symm (Fld.ne F_UNDETERMINED_ordinal F_FALSE_ordinal (by simp)))])) hZ (hw _ (List.mem_of_getElem? (i := 20) rfl)) (hw _ (List.mem_of_getElem? (i := 2) rfl)) (by decide) (by decide)) (g := (mkF m 32 #[.val (.int p1), .val (.int p2), .val (.ref a_TRUE), .val (.ref a_FALSE), .val (.ref a_FALSE), .val (.int (0 : Int32))] [(.ref a_FALSE)])) rfl (by rw [hml]; rfl) (argsL := [(.ref a_FALSE)]) (rest := []) (lenOf pd_2 rfl) rfl (by show 2 * 0 + _ ≤ _; exact Nat.le_of_eq rfl) (hb hby at_32) (fun _ _ => ⟨rfl, e20, (by decide : 0 + 0 ≤ _), (by decide : 0 + 0 ≤ _)⟩)
      dsimp only [Pt.U, Pt.locs, Pt.cells, Pt.slots] at X21 l21 y21 z21 st21 hQ21
      subst l21 y21 z21
      obtain ⟨rfl, Nq21, e21⟩ := hQ21
      have N21 := Fr.app N20 Nq21
      refine Go.step st21 ?_
      show Go p e below _ (T21.setTop (mkF m 35 #[.val (.int p1), .val (.int p2), .val (.ref a_TRUE), .val (.ref a_FALSE), .val (.ref a_FALSE), .val (.int (0 : Int32))] [(.int (0 : Int32))]))
      refine Go.step (fun t_ k_ => XS.iload X21.here hx rfl (hb hby at_35) rfl k_) ?_
      show Go p e below _ (T21.setTop (mkF m 37 #[.val (.int p1), .val (.int p2), .val (.ref a_TRUE), .val (.ref a_FALSE), .val (.ref a_FALSE), .val (.int (0 : Int32))] [(.int (0 : Int32)), (.int (0 : Int32))]))
      have hc37 : (0 : Int32) = (0 : Int32) := by decide
      refine Go.step (fun t_ k_ => XS.icmpNo X21.here hx rfl (hb hby at_37) rfl (teq hc37).2 k_) ?_
      show Go p e below _ (T21.setTop (mkF m 40 #[.val (.int p1), .val (.int p2), .val (.ref a_TRUE), .val (.ref a_FALSE), .val (.ref a_FALSE), .val (.int (0 : Int32))] []))
      refine Go.step (fun t_ k_ => XS.iconst X21.here hx rfl (hb hby at_40) k_) ?_
      show Go p e below _ (T21.setTop (mkF m 41 #[.val (.int p1), .val (.int p2), .val (.ref a_TRUE), .val (.ref a_FALSE), .val (.ref a_FALSE), .val (.int (0 : Int32))] [(.int (1 : Int32))]))
      refine Go.step (fun t_ k_ => XS.goto X21.here hx rfl (pc0 := 41) (pc' := 45) rfl (hb hby at_41) (by decide) (by decide) k_) ?_
      show Go p e below _ (T21.setTop (mkF m 45 #[.val (.int p1), .val (.int p2), .val (.ref a_TRUE), .val (.ref a_FALSE), .val (.ref a_FALSE), .val (.int (0 : Int32))] [(.int (1 : Int32))]))
      refine Go.retZ X21 hx (t := .boolean) Bd.returns (by simp) Bd.notSynchronized (hb hby at_45) (by rw [e21]; exact ⟨rfl, N21⟩) (by decide) (by decide)
  next =>
    rcases cs3 hb_p2 with rfl | rfl | rfl
    next =>
      refine Go.step (fun t_ k_ => XS.iloadN X0.here hx rfl (hb hby at_0) rfl k_) ?_
      show Go p e below _ (s₁.setTop (mkF m 1 #[.val (.int p1), .val (.int p2), .unset, .unset, .unset, .unset] [(.int p1)]))
      obtain ⟨_, _, ⟨T22, L22, k22, n22⟩, -, X22, ⟨Lc22, hQ22, l22, y22, z22⟩, st22⟩ := Jvm.LawKit.callS X0 hx (y := (⟨"com/example/wacl/wacl/core/TruthAndPinLaw", "pick", "(I)Lcom/example/wacl/wacl/core/Condition$Truth;"⟩ : MethodName)) hown (mvT hZ (hw _ (List.mem_of_getElem? (i := 0) rfl))) (mvT hZ (hw _ (List.mem_of_getElem? (i := 1) rfl))) (mvT hZ (hw _ (List.mem_of_getElem? (i := 2) rfl))) (mvT hZ (hw _ (List.mem_of_getElem? (i := 3) rfl))) (by decide) (backOf (W := 0) (rm1 l Z a0 hw [] a_TRUE a_UNDETERMINED a_FALSE HW p1 (1 : Int32) a_UNDETERMINED h0 n0 Ol hk_p1 (by simp)) hZ (hw _ (List.mem_of_getElem? (i := 3) rfl)) (hw _ (List.mem_of_getElem? (i := 2) rfl)) (by decide) (by decide)) (g := (mkF m 1 #[.val (.int p1), .val (.int p2), .unset, .unset, .unset, .unset] [(.int p1)])) rfl (by rw [hml]; rfl) (argsL := [(.int p1)]) (rest := []) (lenOf pd_0 rfl) rfl (by show 2 * 0 + _ ≤ _; exact Nat.le_of_eq rfl) (hb hby at_1) (fun _ _ => ⟨rfl, e0, (by decide : 0 + 0 ≤ _), (by decide : 0 + 0 ≤ _)⟩)
      dsimp only [Pt.U, Pt.locs, Pt.cells, Pt.slots] at X22 l22 y22 z22 st22 hQ22
      subst l22 y22 z22
      obtain ⟨rfl, Nq22, e22⟩ := hQ22
      have N22 := Fr.app N0 Nq22
      refine Go.step st22 ?_
      show Go p e below _ (T22.setTop (mkF m 4 #[.val (.int p1), .val (.int p2), .unset, .unset, .unset, .unset] [(.ref a_UNDETERMINED)]))
      refine Go.step (fun t_ k_ => XS.astoreN X22.here hx rfl (hb hby at_4) rfl rfl (l' := #[.val (.int p1), .val (.int p2), .val (.ref a_UNDETERMINED), .unset, .unset, .unset]) rfl k_) ?_
      show Go p e below _ (T22.setTop (mkF m 5 #[.val (.int p1), .val (.int p2), .val (.ref a_UNDETERMINED), .unset, .unset, .unset] []))
      refine Go.step (fun t_ k_ => XS.iloadN X22.here hx rfl (hb hby at_5) rfl k_) ?_
      show Go p e below _ (T22.setTop (mkF m 6 #[.val (.int p1), .val (.int p2), .val (.ref a_UNDETERMINED), .unset, .unset, .unset] [(.int p2)]))
      obtain ⟨_, _, ⟨T23, L23, k23, n23⟩, -, X23, ⟨Lc23, hQ23, l23, y23, z23⟩, st23⟩ := Jvm.LawKit.callS X22 hx (y := (⟨"com/example/wacl/wacl/core/TruthAndPinLaw", "pick", "(I)Lcom/example/wacl/wacl/core/Condition$Truth;"⟩ : MethodName)) hown (mvT hZ (hw _ (List.mem_of_getElem? (i := 0) rfl))) (mvT hZ (hw _ (List.mem_of_getElem? (i := 1) rfl))) (mvT hZ (hw _ (List.mem_of_getElem? (i := 2) rfl))) (mvT hZ (hw _ (List.mem_of_getElem? (i := 3) rfl))) (by decide) (backOf (W := 0) (rm1 l Z a0 hw [] a_TRUE a_UNDETERMINED a_FALSE HW p2 (0 : Int32) a_TRUE h0 n0 Ol hk_p2 (by simp)) hZ (hw _ (List.mem_of_getElem? (i := 3) rfl)) (hw _ (List.mem_of_getElem? (i := 2) rfl)) (by decide) (by decide)) (g := (mkF m 6 #[.val (.int p1), .val (.int p2), .val (.ref a_UNDETERMINED), .unset, .unset, .unset] [(.int p2)])) rfl (by rw [hml]; rfl) (argsL := [(.int p2)]) (rest := []) (lenOf pd_0 rfl) rfl (by show 2 * 0 + _ ≤ _; exact Nat.le_of_eq rfl) (hb hby at_6) (fun _ _ => ⟨rfl, e22, (by decide : 0 + 0 ≤ _), (by decide : 0 + 0 ≤ _)⟩)
      dsimp only [Pt.U, Pt.locs, Pt.cells, Pt.slots] at X23 l23 y23 z23 st23 hQ23
      subst l23 y23 z23
      obtain ⟨rfl, Nq23, e23⟩ := hQ23
      have N23 := Fr.app N22 Nq23
      refine Go.step st23 ?_
      show Go p e below _ (T23.setTop (mkF m 9 #[.val (.int p1), .val (.int p2), .val (.ref a_UNDETERMINED), .unset, .unset, .unset] [(.ref a_TRUE)]))
      refine Go.step (fun t_ k_ => XS.astoreN X23.here hx rfl (hb hby at_9) rfl rfl (l' := #[.val (.int p1), .val (.int p2), .val (.ref a_UNDETERMINED), .val (.ref a_TRUE), .unset, .unset]) rfl k_) ?_
      show Go p e below _ (T23.setTop (mkF m 10 #[.val (.int p1), .val (.int p2), .val (.ref a_UNDETERMINED), .val (.ref a_TRUE), .unset, .unset] []))
      refine Go.step (fun t_ k_ => XS.aloadN X23.here hx rfl (hb hby at_10) rfl rfl k_) ?_
      show Go p e below _ (T23.setTop (mkF m 11 #[.val (.int p1), .val (.int p2), .val (.ref a_UNDETERMINED), .val (.ref a_TRUE), .unset, .unset] [(.ref a_UNDETERMINED)]))
      refine Go.step (fun t_ k_ => XS.aloadN X23.here hx rfl (hb hby at_11) rfl rfl k_) ?_
      show Go p e below _ (T23.setTop (mkF m 12 #[.val (.int p1), .val (.int p2), .val (.ref a_UNDETERMINED), .val (.ref a_TRUE), .unset, .unset] [(.ref a_TRUE), (.ref a_UNDETERMINED)]))
      obtain ⟨cq24, kq24, q24a, q24b, q24c⟩ := isOf hZ e23 (E_UNDETERMINED.ext Ol.2)
      obtain ⟨_, _, ⟨T24, L24, k24, n24⟩, -, X24, ⟨Lc24, hQ24, l24, y24, z24⟩, st24⟩ := X23.virtualBack hx (y := (⟨"com/example/wacl/wacl/core/Condition$Truth", "and", "(Lcom/example/wacl/wacl/core/Condition$Truth;)Lcom/example/wacl/wacl/core/Condition$Truth;"⟩ : MethodName)) (z := (⟨"com/example/wacl/wacl/core/Condition$Truth", "and", "(Lcom/example/wacl/wacl/core/Condition$Truth;)Lcom/example/wacl/wacl/core/Condition$Truth;"⟩ : MethodName)) hown (mvT hZ (hw _ (List.mem_of_getElem? (i := 8) rfl))) (mvT hZ (hw _ (List.mem_of_getElem? (i := 9) rfl))) (notFace_of_selects (args := #[]) (mvT hZ (hw _ (List.mem_of_getElem? (i := 11) rfl)))) (mvT hZ (hw _ (List.mem_of_getElem? (i := 11) rfl))) (mvT hZ (hw _ (List.mem_of_getElem? (i := 10) rfl))) (by decide) (backOf (W := 0) (rm2 l Z a0 hw [] a_TRUE a_UNDETERMINED a_FALSE HW a_UNDETERMINED a_TRUE a_UNDETERMINED h0 n0 Ol (by simp [(Fld.ne F_TRUE_ordinal F_UNDETERMINED_ordinal (by simp)), (Ne.symm (Fld.ne F_TRUE_ordinal F_UNDETERMINED_ordinal (by simp))), (Fld.ne F_TRUE_ordinal F_FALSE_ordinal (by simp)), (Ne.symm (Fld.ne F_TRUE_ordinal F_FALSE_ordinal (by simp))), (Fld.ne F_UNDETERMINED_ordinal F_FALSE_ordinal (by simp)), (Ne.symm (Fld.ne F_UNDETERMINED_ordinal F_FALSE_ordinal (by simp)))])) hZ (hw _ (List.mem_of_getElem? (i := 12) rfl)) (hw _ (List.mem_of_getElem? (i := 6) rfl)) (by decide) (by decide)) q24a q24c (g := (mkF m 12 #[.val (.int p1), .val (.int p2), .val (.ref a_UNDETERMINED), .val (.ref a_TRUE), .unset, .unset] [(.ref a_TRUE), (.ref a_UNDETERMINED)])) rfl (by rw [hml]; rfl) (Steps.refl _) (argsL := [(.ref a_TRUE)]) (rest := []) (lenOf pd_1 rfl) rfl (by show 2 * 0 + _ ≤ _; exact Nat.le_of_eq rfl) (hb hby at_12) (fun _ _ => ⟨rfl, e23, (by decide : 0 + 0 ≤ _), (by decide : 0 + 0 ≤ _)⟩)
      dsimp only [Pt.U, Pt.locs, Pt.cells, Pt.slots] at X24 l24 y24 z24 st24 hQ24
      subst l24 y24 z24
      obtain ⟨rfl, Nq24, e24⟩ := hQ24
      have N24 := Fr.app N23 Nq24
      refine Go.step (fun t_ k_ => st24.trans k_) ?_
      show Go p e below _ (T24.setTop (mkF m 15 #[.val (.int p1), .val (.int p2), .val (.ref a_UNDETERMINED), .val (.ref a_TRUE), .unset, .unset] [(.ref a_UNDETERMINED)]))
      refine Go.step (fun t_ k_ => XS.astore X24.here hx rfl (hb hby at_15) rfl rfl (l' := #[.val (.int p1), .val (.int p2), .val (.ref a_UNDETERMINED), .val (.ref a_TRUE), .val (.ref a_UNDETERMINED), .unset]) rfl k_) ?_
      show Go p e below _ (T24.setTop (mkF m 17 #[.val (.int p1), .val (.int p2), .val (.ref a_UNDETERMINED), .val (.ref a_TRUE), .val (.ref a_UNDETERMINED), .unset] []))
      refine Go.step (fun t_ k_ => XS.aloadN X24.here hx rfl (hb hby at_17) rfl rfl k_) ?_
      show Go p e below _ (T24.setTop (mkF m 18 #[.val (.int p1), .val (.int p2), .val (.ref a_UNDETERMINED), .val (.ref a_TRUE), .val (.ref a_UNDETERMINED), .unset] [(.ref a_UNDETERMINED)]))
      obtain ⟨_, _, ⟨T25, L25, k25, n25⟩, -, X25, ⟨Lc25, hQ25, l25, y25, z25⟩, st25⟩ := Jvm.LawKit.callS X24 hx (y := (⟨"com/example/wacl/wacl/core/TruthAndPinLaw", "rank", "(Lcom/example/wacl/wacl/core/Condition$Truth;)I"⟩ : MethodName)) hown (mvT hZ (hw _ (List.mem_of_getElem? (i := 18) rfl))) (mvT hZ (hw _ (List.mem_of_getElem? (i := 19) rfl))) (mvT hZ (hw _ (List.mem_of_getElem? (i := 2) rfl))) (mvT hZ (hw _ (List.mem_of_getElem? (i := 20) rfl))) (by decide) (backOf (W := 0) (rm3 l Z a0 hw [] a_TRUE a_UNDETERMINED a_FALSE HW a_UNDETERMINED (1 : Int32) h0 n0 Ol (by simp [(Fld.ne F_TRUE_ordinal F_UNDETERMINED_ordinal (by simp)), (Ne.symm (Fld.ne F_TRUE_ordinal F_UNDETERMINED_ordinal (by simp))), (Fld.ne F_TRUE_ordinal F_FALSE_ordinal (by simp)), (Ne.symm (Fld.ne F_TRUE_ordinal F_FALSE_ordinal (by simp))), (Fld.ne F_UNDETERMINED_ordinal F_FALSE_ordinal (by simp)), (Ne.symm (Fld.ne F_UNDETERMINED_ordinal F_FALSE_ordinal (by simp)))])) hZ (hw _ (List.mem_of_getElem? (i := 20) rfl)) (hw _ (List.mem_of_getElem? (i := 2) rfl)) (by decide) (by decide)) (g := (mkF m 18 #[.val (.int p1), .val (.int p2), .val (.ref a_UNDETERMINED), .val (.ref a_TRUE), .val (.ref a_UNDETERMINED), .unset] [(.ref a_UNDETERMINED)])) rfl (by rw [hml]; rfl) (argsL := [(.ref a_UNDETERMINED)]) (rest := []) (lenOf pd_2 rfl) rfl (by show 2 * 0 + _ ≤ _; exact Nat.le_of_eq rfl) (hb hby at_18) (fun _ _ => ⟨rfl, e24, (by decide : 0 + 0 ≤ _), (by decide : 0 + 0 ≤ _)⟩)
      dsimp only [Pt.U, Pt.locs, Pt.cells, Pt.slots] at X25 l25 y25 z25 st25 hQ25
      subst l25 y25 z25
      obtain ⟨rfl, Nq25, e25⟩ := hQ25
      have N25 := Fr.app N24 Nq25
      refine Go.step st25 ?_
      show Go p e below _ (T25.setTop (mkF m 21 #[.val (.int p1), .val (.int p2), .val (.ref a_UNDETERMINED), .val (.ref a_TRUE), .val (.ref a_UNDETERMINED), .unset] [(.int (1 : Int32))]))
      refine Go.step (fun t_ k_ => XS.aloadN X25.here hx rfl (hb hby at_21) rfl rfl k_) ?_
      show Go p e below _ (T25.setTop (mkF m 22 #[.val (.int p1), .val (.int p2), .val (.ref a_UNDETERMINED), .val (.ref a_TRUE), .val (.ref a_UNDETERMINED), .unset] [(.ref a_TRUE), (.int (1 : Int32))]))
      obtain ⟨_, _, ⟨T26, L26, k26, n26⟩, -, X26, ⟨Lc26, hQ26, l26, y26, z26⟩, st26⟩ := Jvm.LawKit.callS X25 hx (y := (⟨"com/example/wacl/wacl/core/TruthAndPinLaw", "rank", "(Lcom/example/wacl/wacl/core/Condition$Truth;)I"⟩ : MethodName)) hown (mvT hZ (hw _ (List.mem_of_getElem? (i := 18) rfl))) (mvT hZ (hw _ (List.mem_of_getElem? (i := 19) rfl))) (mvT hZ (hw _ (List.mem_of_getElem? (i := 2) rfl))) (mvT hZ (hw _ (List.mem_of_getElem? (i := 20) rfl))) (by decide) (backOf (W := 1) (rm3 l Z a0 hw [] a_TRUE a_UNDETERMINED a_FALSE HW a_TRUE (2 : Int32) h0 n0 Ol (by simp [(Fld.ne F_TRUE_ordinal F_UNDETERMINED_ordinal (by simp)), (Ne.symm (Fld.ne F_TRUE_ordinal F_UNDETERMINED_ordinal (by simp))), (Fld.ne F_TRUE_ordinal F_FALSE_ordinal (by simp)), (Ne.symm (Fld.ne F_TRUE_ordinal F_FALSE_ordinal (by simp))), (Fld.ne F_UNDETERMINED_ordinal F_FALSE_ordinal (by simp)), (Ne.symm (Fld.ne F_UNDETERMINED_ordinal F_FALSE_ordinal (by simp)))])) hZ (hw _ (List.mem_of_getElem? (i := 20) rfl)) (hw _ (List.mem_of_getElem? (i := 2) rfl)) (by decide) (by decide)) (g := (mkF m 22 #[.val (.int p1), .val (.int p2), .val (.ref a_UNDETERMINED), .val (.ref a_TRUE), .val (.ref a_UNDETERMINED), .unset] [(.ref a_TRUE), (.int (1 : Int32))])) rfl (by rw [hml]; rfl) (argsL := [(.ref a_TRUE)]) (rest := [(.int (1 : Int32))]) (lenOf pd_2 rfl) rfl (by show 2 * 0 + _ ≤ _; exact Nat.le_of_eq rfl) (hb hby at_22) (fun _ _ => ⟨rfl, e25, (by decide : 0 + 0 ≤ _), (by decide : 0 + 0 ≤ _)⟩)
      dsimp only [Pt.U, Pt.locs, Pt.cells, Pt.slots] at X26 l26 y26 z26 st26 hQ26
      subst l26 y26 z26
      obtain ⟨rfl, Nq26, e26⟩ := hQ26
      have N26 := Fr.app N25 Nq26
      refine Go.step st26 ?_
      show Go p e below _ (T26.setTop (mkF m 25 #[.val (.int p1), .val (.int p2), .val (.ref a_UNDETERMINED), .val (.ref a_TRUE), .val (.ref a_UNDETERMINED), .unset] [(.int (2 : Int32)), (.int (1 : Int32))]))
      obtain ⟨_, _, ⟨T27, L27, k27, n27⟩, -, X27, ⟨Lc27, hQ27, l27, y27, z27⟩, st27⟩ := Jvm.LawKit.callS X26 hx (y := (⟨"java/lang/Math", "min", "(II)I"⟩ : MethodName)) hown (mvT hZ (hw _ (List.mem_of_getElem? (i := 21) rfl))) (mvT hZ (hw _ (List.mem_of_getElem? (i := 22) rfl))) (mvT hZ (hw _ (List.mem_of_getElem? (i := 23) rfl))) (mvT hZ (hw _ (List.mem_of_getElem? (i := 24) rfl))) (by decide) (backOf (W := 0) (rm4 l Z a0 hw [] a_TRUE a_UNDETERMINED a_FALSE HW (1 : Int32) (2 : Int32) (1 : Int32) h0 n0 Ol (by decide)) hZ (hw _ (List.mem_of_getElem? (i := 24) rfl)) (hw _ (List.mem_of_getElem? (i := 23) rfl)) (by decide) (by decide)) (g := (mkF m 25 #[.val (.int p1), .val (.int p2), .val (.ref a_UNDETERMINED), .val (.ref a_TRUE), .val (.ref a_UNDETERMINED), .unset] [(.int (2 : Int32)), (.int (1 : Int32))])) rfl (by rw [hml]; rfl) (argsL := [(.int (1 : Int32)), (.int (2 : Int32))]) (rest := []) (lenOf pd_3 rfl) rfl (by show 2 * 0 + _ ≤ _; exact Nat.le_of_eq rfl) (hb hby at_25) (fun _ _ => ⟨rfl, e26, (by decide : 0 + 0 ≤ _), (by decide : 0 + 0 ≤ _)⟩)
      dsimp only [Pt.U, Pt.locs, Pt.cells, Pt.slots] at X27 l27 y27 z27 st27 hQ27
      subst l27 y27 z27
      obtain ⟨rfl, Nq27, e27⟩ := hQ27
      have N27 := Fr.app N26 Nq27
      refine Go.step st27 ?_
      show Go p e below _ (T27.setTop (mkF m 28 #[.val (.int p1), .val (.int p2), .val (.ref a_UNDETERMINED), .val (.ref a_TRUE), .val (.ref a_UNDETERMINED), .unset] [(.int (1 : Int32))]))
      refine Go.step (fun t_ k_ => XS.istore X27.here hx rfl (hb hby at_28) rfl (l' := #[.val (.int p1), .val (.int p2), .val (.ref a_UNDETERMINED), .val (.ref a_TRUE), .val (.ref a_UNDETERMINED), .val (.int (1 : Int32))]) rfl k_) ?_
      show Go p e below _ (T27.setTop (mkF m 30 #[.val (.int p1), .val (.int p2), .val (.ref a_UNDETERMINED), .val (.ref a_TRUE), .val (.ref a_UNDETERMINED), .val (.int (1 : Int32))] []))
      refine Go.step (fun t_ k_ => XS.aload X27.here hx rfl (hb hby at_30) rfl rfl k_) ?_
      show Go p e below _ (T27.setTop (mkF m 32 #[.val (.int p1), .val (.int p2), .val (.ref a_UNDETERMINED), .val (.ref a_TRUE), .val (.ref a_UNDETERMINED), .val (.int (1 : Int32))] [(.ref a_UNDETERMINED)]))
      obtain ⟨_, _, ⟨T28, L28, k28, n28⟩, -, X28, ⟨Lc28, hQ28, l28, y28, z28⟩, st28⟩ := Jvm.LawKit.callS X27 hx (y := (⟨"com/example/wacl/wacl/core/TruthAndPinLaw", "rank", "(Lcom/example/wacl/wacl/core/Condition$Truth;)I"⟩ : MethodName)) hown (mvT hZ (hw _ (List.mem_of_getElem? (i := 18) rfl))) (mvT hZ (hw _ (List.mem_of_getElem? (i := 19) rfl))) (mvT hZ (hw _ (List.mem_of_getElem? (i := 2) rfl))) (mvT hZ (hw _ (List.mem_of_getElem? (i := 20) rfl))) (by decide) (backOf (W := 0) (rm3 l Z a0 hw [] a_TRUE a_UNDETERMINED a_FALSE HW a_UNDETERMINED (1 : Int32) h0 n0 Ol (by simp [(Fld.ne F_TRUE_ordinal F_UNDETERMINED_ordinal (by simp)), (Ne.symm (Fld.ne F_TRUE_ordinal F_UNDETERMINED_ordinal (by simp))), (Fld.ne F_TRUE_ordinal F_FALSE_ordinal (by simp)), (Ne.symm (Fld.ne F_TRUE_ordinal F_FALSE_ordinal (by simp))), (Fld.ne F_UNDETERMINED_ordinal F_FALSE_ordinal (by simp)), (Ne.symm (Fld.ne F_UNDETERMINED_ordinal F_FALSE_ordinal (by simp)))])) hZ (hw _ (List.mem_of_getElem? (i := 20) rfl)) (hw _ (List.mem_of_getElem? (i := 2) rfl)) (by decide) (by decide)) (g := (mkF m 32 #[.val (.int p1), .val (.int p2), .val (.ref a_UNDETERMINED), .val (.ref a_TRUE), .val (.ref a_UNDETERMINED), .val (.int (1 : Int32))] [(.ref a_UNDETERMINED)])) rfl (by rw [hml]; rfl) (argsL := [(.ref a_UNDETERMINED)]) (rest := []) (lenOf pd_2 rfl) rfl (by show 2 * 0 + _ ≤ _; exact Nat.le_of_eq rfl) (hb hby at_32) (fun _ _ => ⟨rfl, e27, (by decide : 0 + 0 ≤ _), (by decide : 0 + 0 ≤ _)⟩)
      dsimp only [Pt.U, Pt.locs, Pt.cells, Pt.slots] at X28 l28 y28 z28 st28 hQ28
      subst l28 y28 z28
      obtain ⟨rfl, Nq28, e28⟩ := hQ28
      have N28 := Fr.app N27 Nq28
      refine Go.step st28 ?_
      show Go p e below _ (T28.setTop (mkF m 35 #[.val (.int p1), .val (.int p2), .val (.ref a_UNDETERMINED), .val (.ref a_TRUE), .val (.ref a_UNDETERMINED), .val (.int (1 : Int32))] [(.int (1 : Int32))]))
      refine Go.step (fun t_ k_ => XS.iload X28.here hx rfl (hb hby at_35) rfl k_) ?_
      show Go p e below _ (T28.setTop (mkF m 37 #[.val (.int p1), .val (.int p2), .val (.ref a_UNDETERMINED), .val (.ref a_TRUE), .val (.ref a_UNDETERMINED), .val (.int (1 : Int32))] [(.int (1 : Int32)), (.int (1 : Int32))]))
      have hc37 : (1 : Int32) = (1 : Int32) := by decide
      refine Go.step (fun t_ k_ => XS.icmpNo X28.here hx rfl (hb hby at_37) rfl (teq hc37).2 k_) ?_
      show Go p e below _ (T28.setTop (mkF m 40 #[.val (.int p1), .val (.int p2), .val (.ref a_UNDETERMINED), .val (.ref a_TRUE), .val (.ref a_UNDETERMINED), .val (.int (1 : Int32))] []))
      refine Go.step (fun t_ k_ => XS.iconst X28.here hx rfl (hb hby at_40) k_) ?_
      show Go p e below _ (T28.setTop (mkF m 41 #[.val (.int p1), .val (.int p2), .val (.ref a_UNDETERMINED), .val (.ref a_TRUE), .val (.ref a_UNDETERMINED), .val (.int (1 : Int32))] [(.int (1 : Int32))]))
      refine Go.step (fun t_ k_ => XS.goto X28.here hx rfl (pc0 := 41) (pc' := 45) rfl (hb hby at_41) (by decide) (by decide) k_) ?_
      show Go p e below _ (T28.setTop (mkF m 45 #[.val (.int p1), .val (.int p2), .val (.ref a_UNDETERMINED), .val (.ref a_TRUE), .val (.ref a_UNDETERMINED), .val (.int (1 : Int32))] [(.int (1 : Int32))]))
      refine Go.retZ X28 hx (t := .boolean) Bd.returns (by simp) Bd.notSynchronized (hb hby at_45) (by rw [e28]; exact ⟨rfl, N28⟩) (by decide) (by decide)
    next =>
      refine Go.step (fun t_ k_ => XS.iloadN X0.here hx rfl (hb hby at_0) rfl k_) ?_
      show Go p e below _ (s₁.setTop (mkF m 1 #[.val (.int p1), .val (.int p2), .unset, .unset, .unset, .unset] [(.int p1)]))
      obtain ⟨_, _, ⟨T29, L29, k29, n29⟩, -, X29, ⟨Lc29, hQ29, l29, y29, z29⟩, st29⟩ := Jvm.LawKit.callS X0 hx (y := (⟨"com/example/wacl/wacl/core/TruthAndPinLaw", "pick", "(I)Lcom/example/wacl/wacl/core/Condition$Truth;"⟩ : MethodName)) hown (mvT hZ (hw _ (List.mem_of_getElem? (i := 0) rfl))) (mvT hZ (hw _ (List.mem_of_getElem? (i := 1) rfl))) (mvT hZ (hw _ (List.mem_of_getElem? (i := 2) rfl))) (mvT hZ (hw _ (List.mem_of_getElem? (i := 3) rfl))) (by decide) (backOf (W := 0) (rm1 l Z a0 hw [] a_TRUE a_UNDETERMINED a_FALSE HW p1 (1 : Int32) a_UNDETERMINED h0 n0 Ol hk_p1 (by simp)) hZ (hw _ (List.mem_of_getElem? (i := 3) rfl)) (hw _ (List.mem_of_getElem? (i := 2) rfl)) (by decide) (by decide)) (g := (mkF m 1 #[.val (.int p1), .val (.int p2), .unset, .unset, .unset, .unset] [(.int p1)])) rfl (by rw [hml]; rfl) (argsL := [(.int p1)]) (rest := []) (lenOf pd_0 rfl) rfl (by show 2 * 0 + _ ≤ _; exact Nat.le_of_eq rfl) (hb hby at_1) (fun _ _ => ⟨rfl, e0, (by decide : 0 + 0 ≤ _), (by decide : 0 + 0 ≤ _)⟩)
      dsimp only [Pt.U, Pt.locs, Pt.cells, Pt.slots] at X29 l29 y29 z29 st29 hQ29
      subst l29 y29 z29
      obtain ⟨rfl, Nq29, e29⟩ := hQ29
      have N29 := Fr.app N0 Nq29
      refine Go.step st29 ?_
      show Go p e below _ (T29.setTop (mkF m 4 #[.val (.int p1), .val (.int p2), .unset, .unset, .unset, .unset] [(.ref a_UNDETERMINED)]))
      refine Go.step (fun t_ k_ => XS.astoreN X29.here hx rfl (hb hby at_4) rfl rfl (l' := #[.val (.int p1), .val (.int p2), .val (.ref a_UNDETERMINED), .unset, .unset, .unset]) rfl k_) ?_
      show Go p e below _ (T29.setTop (mkF m 5 #[.val (.int p1), .val (.int p2), .val (.ref a_UNDETERMINED), .unset, .unset, .unset] []))
      refine Go.step (fun t_ k_ => XS.iloadN X29.here hx rfl (hb hby at_5) rfl k_) ?_
      show Go p e below _ (T29.setTop (mkF m 6 #[.val (.int p1), .val (.int p2), .val (.ref a_UNDETERMINED), .unset, .unset, .unset] [(.int p2)]))
      obtain ⟨_, _, ⟨T30, L30, k30, n30⟩, -, X30, ⟨Lc30, hQ30, l30, y30, z30⟩, st30⟩ := Jvm.LawKit.callS X29 hx (y := (⟨"com/example/wacl/wacl/core/TruthAndPinLaw", "pick", "(I)Lcom/example/wacl/wacl/core/Condition$Truth;"⟩ : MethodName)) hown (mvT hZ (hw _ (List.mem_of_getElem? (i := 0) rfl))) (mvT hZ (hw _ (List.mem_of_getElem? (i := 1) rfl))) (mvT hZ (hw _ (List.mem_of_getElem? (i := 2) rfl))) (mvT hZ (hw _ (List.mem_of_getElem? (i := 3) rfl))) (by decide) (backOf (W := 0) (rm1 l Z a0 hw [] a_TRUE a_UNDETERMINED a_FALSE HW p2 (1 : Int32) a_UNDETERMINED h0 n0 Ol hk_p2 (by simp)) hZ (hw _ (List.mem_of_getElem? (i := 3) rfl)) (hw _ (List.mem_of_getElem? (i := 2) rfl)) (by decide) (by decide)) (g := (mkF m 6 #[.val (.int p1), .val (.int p2), .val (.ref a_UNDETERMINED), .unset, .unset, .unset] [(.int p2)])) rfl (by rw [hml]; rfl) (argsL := [(.int p2)]) (rest := []) (lenOf pd_0 rfl) rfl (by show 2 * 0 + _ ≤ _; exact Nat.le_of_eq rfl) (hb hby at_6) (fun _ _ => ⟨rfl, e29, (by decide : 0 + 0 ≤ _), (by decide : 0 + 0 ≤ _)⟩)
      dsimp only [Pt.U, Pt.locs, Pt.cells, Pt.slots] at X30 l30 y30 z30 st30 hQ30
      subst l30 y30 z30
      obtain ⟨rfl, Nq30, e30⟩ := hQ30
      have N30 := Fr.app N29 Nq30
      refine Go.step st30 ?_
      show Go p e below _ (T30.setTop (mkF m 9 #[.val (.int p1), .val (.int p2), .val (.ref a_UNDETERMINED), .unset, .unset, .unset] [(.ref a_UNDETERMINED)]))
      refine Go.step (fun t_ k_ => XS.astoreN X30.here hx rfl (hb hby at_9) rfl rfl (l' := #[.val (.int p1), .val (.int p2), .val (.ref a_UNDETERMINED), .val (.ref a_UNDETERMINED), .unset, .unset]) rfl k_) ?_
      show Go p e below _ (T30.setTop (mkF m 10 #[.val (.int p1), .val (.int p2), .val (.ref a_UNDETERMINED), .val (.ref a_UNDETERMINED), .unset, .unset] []))
      refine Go.step (fun t_ k_ => XS.aloadN X30.here hx rfl (hb hby at_10) rfl rfl k_) ?_
      show Go p e below _ (T30.setTop (mkF m 11 #[.val (.int p1), .val (.int p2), .val (.ref a_UNDETERMINED), .val (.ref a_UNDETERMINED), .unset, .unset] [(.ref a_UNDETERMINED)]))
      refine Go.step (fun t_ k_ => XS.aloadN X30.here hx rfl (hb hby at_11) rfl rfl k_) ?_
      show Go p e below _ (T30.setTop (mkF m 12 #[.val (.int p1), .val (.int p2), .val (.ref a_UNDETERMINED), .val (.ref a_UNDETERMINED), .unset, .unset] [(.ref a_UNDETERMINED), (.ref a_UNDETERMINED)]))
      obtain ⟨cq31, kq31, q31a, q31b, q31c⟩ := isOf hZ e30 (E_UNDETERMINED.ext Ol.2)
      obtain ⟨_, _, ⟨T31, L31, k31, n31⟩, -, X31, ⟨Lc31, hQ31, l31, y31, z31⟩, st31⟩ := X30.virtualBack hx (y := (⟨"com/example/wacl/wacl/core/Condition$Truth", "and", "(Lcom/example/wacl/wacl/core/Condition$Truth;)Lcom/example/wacl/wacl/core/Condition$Truth;"⟩ : MethodName)) (z := (⟨"com/example/wacl/wacl/core/Condition$Truth", "and", "(Lcom/example/wacl/wacl/core/Condition$Truth;)Lcom/example/wacl/wacl/core/Condition$Truth;"⟩ : MethodName)) hown (mvT hZ (hw _ (List.mem_of_getElem? (i := 8) rfl))) (mvT hZ (hw _ (List.mem_of_getElem? (i := 9) rfl))) (notFace_of_selects (args := #[]) (mvT hZ (hw _ (List.mem_of_getElem? (i := 11) rfl)))) (mvT hZ (hw _ (List.mem_of_getElem? (i := 11) rfl))) (mvT hZ (hw _ (List.mem_of_getElem? (i := 10) rfl))) (by decide) (backOf (W := 0) (rm2 l Z a0 hw [] a_TRUE a_UNDETERMINED a_FALSE HW a_UNDETERMINED a_UNDETERMINED a_UNDETERMINED h0 n0 Ol (by simp [(Fld.ne F_TRUE_ordinal F_UNDETERMINED_ordinal (by simp)), (Ne.symm (Fld.ne F_TRUE_ordinal F_UNDETERMINED_ordinal (by simp))), (Fld.ne F_TRUE_ordinal F_FALSE_ordinal (by simp)), (Ne.symm (Fld.ne F_TRUE_ordinal F_FALSE_ordinal (by simp))), (Fld.ne F_UNDETERMINED_ordinal F_FALSE_ordinal (by simp)), (Ne.symm (Fld.ne F_UNDETERMINED_ordinal F_FALSE_ordinal (by simp)))])) hZ (hw _ (List.mem_of_getElem? (i := 12) rfl)) (hw _ (List.mem_of_getElem? (i := 6) rfl)) (by decide) (by decide)) q31a q31c (g := (mkF m 12 #[.val (.int p1), .val (.int p2), .val (.ref a_UNDETERMINED), .val (.ref a_UNDETERMINED), .unset, .unset] [(.ref a_UNDETERMINED), (.ref a_UNDETERMINED)])) rfl (by rw [hml]; rfl) (Steps.refl _) (argsL := [(.ref a_UNDETERMINED)]) (rest := []) (lenOf pd_1 rfl) rfl (by show 2 * 0 + _ ≤ _; exact Nat.le_of_eq rfl) (hb hby at_12) (fun _ _ => ⟨rfl, e30, (by decide : 0 + 0 ≤ _), (by decide : 0 + 0 ≤ _)⟩)
      dsimp only [Pt.U, Pt.locs, Pt.cells, Pt.slots] at X31 l31 y31 z31 st31 hQ31
      subst l31 y31 z31
      obtain ⟨rfl, Nq31, e31⟩ := hQ31
      have N31 := Fr.app N30 Nq31
      refine Go.step (fun t_ k_ => st31.trans k_) ?_
      show Go p e below _ (T31.setTop (mkF m 15 #[.val (.int p1), .val (.int p2), .val (.ref a_UNDETERMINED), .val (.ref a_UNDETERMINED), .unset, .unset] [(.ref a_UNDETERMINED)]))
      refine Go.step (fun t_ k_ => XS.astore X31.here hx rfl (hb hby at_15) rfl rfl (l' := #[.val (.int p1), .val (.int p2), .val (.ref a_UNDETERMINED), .val (.ref a_UNDETERMINED), .val (.ref a_UNDETERMINED), .unset]) rfl k_) ?_
      show Go p e below _ (T31.setTop (mkF m 17 #[.val (.int p1), .val (.int p2), .val (.ref a_UNDETERMINED), .val (.ref a_UNDETERMINED), .val (.ref a_UNDETERMINED), .unset] []))
      refine Go.step (fun t_ k_ => XS.aloadN X31.here hx rfl (hb hby at_17) rfl rfl k_) ?_
      show Go p e below _ (T31.setTop (mkF m 18 #[.val (.int p1), .val (.int p2), .val (.ref a_UNDETERMINED), .val (.ref a_UNDETERMINED), .val (.ref a_UNDETERMINED), .unset] [(.ref a_UNDETERMINED)]))
      obtain ⟨_, _, ⟨T32, L32, k32, n32⟩, -, X32, ⟨Lc32, hQ32, l32, y32, z32⟩, st32⟩ := Jvm.LawKit.callS X31 hx (y := (⟨"com/example/wacl/wacl/core/TruthAndPinLaw", "rank", "(Lcom/example/wacl/wacl/core/Condition$Truth;)I"⟩ : MethodName)) hown (mvT hZ (hw _ (List.mem_of_getElem? (i := 18) rfl))) (mvT hZ (hw _ (List.mem_of_getElem? (i := 19) rfl))) (mvT hZ (hw _ (List.mem_of_getElem? (i := 2) rfl))) (mvT hZ (hw _ (List.mem_of_getElem? (i := 20) rfl))) (by decide) (backOf (W := 0) (rm3 l Z a0 hw [] a_TRUE a_UNDETERMINED a_FALSE HW a_UNDETERMINED (1 : Int32) h0 n0 Ol (by simp [(Fld.ne F_TRUE_ordinal F_UNDETERMINED_ordinal (by simp)), (Ne.symm (Fld.ne F_TRUE_ordinal F_UNDETERMINED_ordinal (by simp))), (Fld.ne F_TRUE_ordinal F_FALSE_ordinal (by simp)), (Ne.symm (Fld.ne F_TRUE_ordinal F_FALSE_ordinal (by simp))), (Fld.ne F_UNDETERMINED_ordinal F_FALSE_ordinal (by simp)), (Ne.symm (Fld.ne F_UNDETERMINED_ordinal F_FALSE_ordinal (by simp)))])) hZ (hw _ (List.mem_of_getElem? (i := 20) rfl)) (hw _ (List.mem_of_getElem? (i := 2) rfl)) (by decide) (by decide)) (g := (mkF m 18 #[.val (.int p1), .val (.int p2), .val (.ref a_UNDETERMINED), .val (.ref a_UNDETERMINED), .val (.ref a_UNDETERMINED), .unset] [(.ref a_UNDETERMINED)])) rfl (by rw [hml]; rfl) (argsL := [(.ref a_UNDETERMINED)]) (rest := []) (lenOf pd_2 rfl) rfl (by show 2 * 0 + _ ≤ _; exact Nat.le_of_eq rfl) (hb hby at_18) (fun _ _ => ⟨rfl, e31, (by decide : 0 + 0 ≤ _), (by decide : 0 + 0 ≤ _)⟩)
      dsimp only [Pt.U, Pt.locs, Pt.cells, Pt.slots] at X32 l32 y32 z32 st32 hQ32
      subst l32 y32 z32
      obtain ⟨rfl, Nq32, e32⟩ := hQ32
      have N32 := Fr.app N31 Nq32
      refine Go.step st32 ?_
      show Go p e below _ (T32.setTop (mkF m 21 #[.val (.int p1), .val (.int p2), .val (.ref a_UNDETERMINED), .val (.ref a_UNDETERMINED), .val (.ref a_UNDETERMINED), .unset] [(.int (1 : Int32))]))
      refine Go.step (fun t_ k_ => XS.aloadN X32.here hx rfl (hb hby at_21) rfl rfl k_) ?_
      show Go p e below _ (T32.setTop (mkF m 22 #[.val (.int p1), .val (.int p2), .val (.ref a_UNDETERMINED), .val (.ref a_UNDETERMINED), .val (.ref a_UNDETERMINED), .unset] [(.ref a_UNDETERMINED), (.int (1 : Int32))]))
      obtain ⟨_, _, ⟨T33, L33, k33, n33⟩, -, X33, ⟨Lc33, hQ33, l33, y33, z33⟩, st33⟩ := Jvm.LawKit.callS X32 hx (y := (⟨"com/example/wacl/wacl/core/TruthAndPinLaw", "rank", "(Lcom/example/wacl/wacl/core/Condition$Truth;)I"⟩ : MethodName)) hown (mvT hZ (hw _ (List.mem_of_getElem? (i := 18) rfl))) (mvT hZ (hw _ (List.mem_of_getElem? (i := 19) rfl))) (mvT hZ (hw _ (List.mem_of_getElem? (i := 2) rfl))) (mvT hZ (hw _ (List.mem_of_getElem? (i := 20) rfl))) (by decide) (backOf (W := 1) (rm3 l Z a0 hw [] a_TRUE a_UNDETERMINED a_FALSE HW a_UNDETERMINED (1 : Int32) h0 n0 Ol (by simp [(Fld.ne F_TRUE_ordinal F_UNDETERMINED_ordinal (by simp)), (Ne.symm (Fld.ne F_TRUE_ordinal F_UNDETERMINED_ordinal (by simp))), (Fld.ne F_TRUE_ordinal F_FALSE_ordinal (by simp)), (Ne.symm (Fld.ne F_TRUE_ordinal F_FALSE_ordinal (by simp))), (Fld.ne F_UNDETERMINED_ordinal F_FALSE_ordinal (by simp)), (Ne.symm (Fld.ne F_UNDETERMINED_ordinal F_FALSE_ordinal (by simp)))])) hZ (hw _ (List.mem_of_getElem? (i := 20) rfl)) (hw _ (List.mem_of_getElem? (i := 2) rfl)) (by decide) (by decide)) (g := (mkF m 22 #[.val (.int p1), .val (.int p2), .val (.ref a_UNDETERMINED), .val (.ref a_UNDETERMINED), .val (.ref a_UNDETERMINED), .unset] [(.ref a_UNDETERMINED), (.int (1 : Int32))])) rfl (by rw [hml]; rfl) (argsL := [(.ref a_UNDETERMINED)]) (rest := [(.int (1 : Int32))]) (lenOf pd_2 rfl) rfl (by show 2 * 0 + _ ≤ _; exact Nat.le_of_eq rfl) (hb hby at_22) (fun _ _ => ⟨rfl, e32, (by decide : 0 + 0 ≤ _), (by decide : 0 + 0 ≤ _)⟩)
      dsimp only [Pt.U, Pt.locs, Pt.cells, Pt.slots] at X33 l33 y33 z33 st33 hQ33
      subst l33 y33 z33
      obtain ⟨rfl, Nq33, e33⟩ := hQ33
      have N33 := Fr.app N32 Nq33
      refine Go.step st33 ?_
      show Go p e below _ (T33.setTop (mkF m 25 #[.val (.int p1), .val (.int p2), .val (.ref a_UNDETERMINED), .val (.ref a_UNDETERMINED), .val (.ref a_UNDETERMINED), .unset] [(.int (1 : Int32)), (.int (1 : Int32))]))
      obtain ⟨_, _, ⟨T34, L34, k34, n34⟩, -, X34, ⟨Lc34, hQ34, l34, y34, z34⟩, st34⟩ := Jvm.LawKit.callS X33 hx (y := (⟨"java/lang/Math", "min", "(II)I"⟩ : MethodName)) hown (mvT hZ (hw _ (List.mem_of_getElem? (i := 21) rfl))) (mvT hZ (hw _ (List.mem_of_getElem? (i := 22) rfl))) (mvT hZ (hw _ (List.mem_of_getElem? (i := 23) rfl))) (mvT hZ (hw _ (List.mem_of_getElem? (i := 24) rfl))) (by decide) (backOf (W := 0) (rm4 l Z a0 hw [] a_TRUE a_UNDETERMINED a_FALSE HW (1 : Int32) (1 : Int32) (1 : Int32) h0 n0 Ol (by decide)) hZ (hw _ (List.mem_of_getElem? (i := 24) rfl)) (hw _ (List.mem_of_getElem? (i := 23) rfl)) (by decide) (by decide)) (g := (mkF m 25 #[.val (.int p1), .val (.int p2), .val (.ref a_UNDETERMINED), .val (.ref a_UNDETERMINED), .val (.ref a_UNDETERMINED), .unset] [(.int (1 : Int32)), (.int (1 : Int32))])) rfl (by rw [hml]; rfl) (argsL := [(.int (1 : Int32)), (.int (1 : Int32))]) (rest := []) (lenOf pd_3 rfl) rfl (by show 2 * 0 + _ ≤ _; exact Nat.le_of_eq rfl) (hb hby at_25) (fun _ _ => ⟨rfl, e33, (by decide : 0 + 0 ≤ _), (by decide : 0 + 0 ≤ _)⟩)
      dsimp only [Pt.U, Pt.locs, Pt.cells, Pt.slots] at X34 l34 y34 z34 st34 hQ34
      subst l34 y34 z34
      obtain ⟨rfl, Nq34, e34⟩ := hQ34
      have N34 := Fr.app N33 Nq34
      refine Go.step st34 ?_
      show Go p e below _ (T34.setTop (mkF m 28 #[.val (.int p1), .val (.int p2), .val (.ref a_UNDETERMINED), .val (.ref a_UNDETERMINED), .val (.ref a_UNDETERMINED), .unset] [(.int (1 : Int32))]))
      refine Go.step (fun t_ k_ => XS.istore X34.here hx rfl (hb hby at_28) rfl (l' := #[.val (.int p1), .val (.int p2), .val (.ref a_UNDETERMINED), .val (.ref a_UNDETERMINED), .val (.ref a_UNDETERMINED), .val (.int (1 : Int32))]) rfl k_) ?_
      show Go p e below _ (T34.setTop (mkF m 30 #[.val (.int p1), .val (.int p2), .val (.ref a_UNDETERMINED), .val (.ref a_UNDETERMINED), .val (.ref a_UNDETERMINED), .val (.int (1 : Int32))] []))
      refine Go.step (fun t_ k_ => XS.aload X34.here hx rfl (hb hby at_30) rfl rfl k_) ?_
      show Go p e below _ (T34.setTop (mkF m 32 #[.val (.int p1), .val (.int p2), .val (.ref a_UNDETERMINED), .val (.ref a_UNDETERMINED), .val (.ref a_UNDETERMINED), .val (.int (1 : Int32))] [(.ref a_UNDETERMINED)]))
      obtain ⟨_, _, ⟨T35, L35, k35, n35⟩, -, X35, ⟨Lc35, hQ35, l35, y35, z35⟩, st35⟩ := Jvm.LawKit.callS X34 hx (y := (⟨"com/example/wacl/wacl/core/TruthAndPinLaw", "rank", "(Lcom/example/wacl/wacl/core/Condition$Truth;)I"⟩ : MethodName)) hown (mvT hZ (hw _ (List.mem_of_getElem? (i := 18) rfl))) (mvT hZ (hw _ (List.mem_of_getElem? (i := 19) rfl))) (mvT hZ (hw _ (List.mem_of_getElem? (i := 2) rfl))) (mvT hZ (hw _ (List.mem_of_getElem? (i := 20) rfl))) (by decide) (backOf (W := 0) (rm3 l Z a0 hw [] a_TRUE a_UNDETERMINED a_FALSE HW a_UNDETERMINED (1 : Int32) h0 n0 Ol (by simp [(Fld.ne F_TRUE_ordinal F_UNDETERMINED_ordinal (by simp)), (Ne.symm (Fld.ne F_TRUE_ordinal F_UNDETERMINED_ordinal (by simp))), (Fld.ne F_TRUE_ordinal F_FALSE_ordinal (by simp)), (Ne.symm (Fld.ne F_TRUE_ordinal F_FALSE_ordinal (by simp))), (Fld.ne F_UNDETERMINED_ordinal F_FALSE_ordinal (by simp)), (Ne.symm (Fld.ne F_UNDETERMINED_ordinal F_FALSE_ordinal (by simp)))])) hZ (hw _ (List.mem_of_getElem? (i := 20) rfl)) (hw _ (List.mem_of_getElem? (i := 2) rfl)) (by decide) (by decide)) (g := (mkF m 32 #[.val (.int p1), .val (.int p2), .val (.ref a_UNDETERMINED), .val (.ref a_UNDETERMINED), .val (.ref a_UNDETERMINED), .val (.int (1 : Int32))] [(.ref a_UNDETERMINED)])) rfl (by rw [hml]; rfl) (argsL := [(.ref a_UNDETERMINED)]) (rest := []) (lenOf pd_2 rfl) rfl (by show 2 * 0 + _ ≤ _; exact Nat.le_of_eq rfl) (hb hby at_32) (fun _ _ => ⟨rfl, e34, (by decide : 0 + 0 ≤ _), (by decide : 0 + 0 ≤ _)⟩)
      dsimp only [Pt.U, Pt.locs, Pt.cells, Pt.slots] at X35 l35 y35 z35 st35 hQ35
      subst l35 y35 z35
      obtain ⟨rfl, Nq35, e35⟩ := hQ35
      have N35 := Fr.app N34 Nq35
      refine Go.step st35 ?_
      show Go p e below _ (T35.setTop (mkF m 35 #[.val (.int p1), .val (.int p2), .val (.ref a_UNDETERMINED), .val (.ref a_UNDETERMINED), .val (.ref a_UNDETERMINED), .val (.int (1 : Int32))] [(.int (1 : Int32))]))
      refine Go.step (fun t_ k_ => XS.iload X35.here hx rfl (hb hby at_35) rfl k_) ?_
      show Go p e below _ (T35.setTop (mkF m 37 #[.val (.int p1), .val (.int p2), .val (.ref a_UNDETERMINED), .val (.ref a_UNDETERMINED), .val (.ref a_UNDETERMINED), .val (.int (1 : Int32))] [(.int (1 : Int32)), (.int (1 : Int32))]))
      have hc37 : (1 : Int32) = (1 : Int32) := by decide
      refine Go.step (fun t_ k_ => XS.icmpNo X35.here hx rfl (hb hby at_37) rfl (teq hc37).2 k_) ?_
      show Go p e below _ (T35.setTop (mkF m 40 #[.val (.int p1), .val (.int p2), .val (.ref a_UNDETERMINED), .val (.ref a_UNDETERMINED), .val (.ref a_UNDETERMINED), .val (.int (1 : Int32))] []))
      refine Go.step (fun t_ k_ => XS.iconst X35.here hx rfl (hb hby at_40) k_) ?_
      show Go p e below _ (T35.setTop (mkF m 41 #[.val (.int p1), .val (.int p2), .val (.ref a_UNDETERMINED), .val (.ref a_UNDETERMINED), .val (.ref a_UNDETERMINED), .val (.int (1 : Int32))] [(.int (1 : Int32))]))
      refine Go.step (fun t_ k_ => XS.goto X35.here hx rfl (pc0 := 41) (pc' := 45) rfl (hb hby at_41) (by decide) (by decide) k_) ?_
      show Go p e below _ (T35.setTop (mkF m 45 #[.val (.int p1), .val (.int p2), .val (.ref a_UNDETERMINED), .val (.ref a_UNDETERMINED), .val (.ref a_UNDETERMINED), .val (.int (1 : Int32))] [(.int (1 : Int32))]))
      refine Go.retZ X35 hx (t := .boolean) Bd.returns (by simp) Bd.notSynchronized (hb hby at_45) (by rw [e35]; exact ⟨rfl, N35⟩) (by decide) (by decide)
    next =>
      refine Go.step (fun t_ k_ => XS.iloadN X0.here hx rfl (hb hby at_0) rfl k_) ?_
      show Go p e below _ (s₁.setTop (mkF m 1 #[.val (.int p1), .val (.int p2), .unset, .unset, .unset, .unset] [(.int p1)]))
      obtain ⟨_, _, ⟨T36, L36, k36, n36⟩, -, X36, ⟨Lc36, hQ36, l36, y36, z36⟩, st36⟩ := Jvm.LawKit.callS X0 hx (y := (⟨"com/example/wacl/wacl/core/TruthAndPinLaw", "pick", "(I)Lcom/example/wacl/wacl/core/Condition$Truth;"⟩ : MethodName)) hown (mvT hZ (hw _ (List.mem_of_getElem? (i := 0) rfl))) (mvT hZ (hw _ (List.mem_of_getElem? (i := 1) rfl))) (mvT hZ (hw _ (List.mem_of_getElem? (i := 2) rfl))) (mvT hZ (hw _ (List.mem_of_getElem? (i := 3) rfl))) (by decide) (backOf (W := 0) (rm1 l Z a0 hw [] a_TRUE a_UNDETERMINED a_FALSE HW p1 (1 : Int32) a_UNDETERMINED h0 n0 Ol hk_p1 (by simp)) hZ (hw _ (List.mem_of_getElem? (i := 3) rfl)) (hw _ (List.mem_of_getElem? (i := 2) rfl)) (by decide) (by decide)) (g := (mkF m 1 #[.val (.int p1), .val (.int p2), .unset, .unset, .unset, .unset] [(.int p1)])) rfl (by rw [hml]; rfl) (argsL := [(.int p1)]) (rest := []) (lenOf pd_0 rfl) rfl (by show 2 * 0 + _ ≤ _; exact Nat.le_of_eq rfl) (hb hby at_1) (fun _ _ => ⟨rfl, e0, (by decide : 0 + 0 ≤ _), (by decide : 0 + 0 ≤ _)⟩)
      dsimp only [Pt.U, Pt.locs, Pt.cells, Pt.slots] at X36 l36 y36 z36 st36 hQ36
      subst l36 y36 z36
      obtain ⟨rfl, Nq36, e36⟩ := hQ36
      have N36 := Fr.app N0 Nq36
      refine Go.step st36 ?_
      show Go p e below _ (T36.setTop (mkF m 4 #[.val (.int p1), .val (.int p2), .unset, .unset, .unset, .unset] [(.ref a_UNDETERMINED)]))
      refine Go.step (fun t_ k_ => XS.astoreN X36.here hx rfl (hb hby at_4) rfl rfl (l' := #[.val (.int p1), .val (.int p2), .val (.ref a_UNDETERMINED), .unset, .unset, .unset]) rfl k_) ?_
      show Go p e below _ (T36.setTop (mkF m 5 #[.val (.int p1), .val (.int p2), .val (.ref a_UNDETERMINED), .unset, .unset, .unset] []))
      refine Go.step (fun t_ k_ => XS.iloadN X36.here hx rfl (hb hby at_5) rfl k_) ?_
      show Go p e below _ (T36.setTop (mkF m 6 #[.val (.int p1), .val (.int p2), .val (.ref a_UNDETERMINED), .unset, .unset, .unset] [(.int p2)]))
      obtain ⟨_, _, ⟨T37, L37, k37, n37⟩, -, X37, ⟨Lc37, hQ37, l37, y37, z37⟩, st37⟩ := Jvm.LawKit.callS X36 hx (y := (⟨"com/example/wacl/wacl/core/TruthAndPinLaw", "pick", "(I)Lcom/example/wacl/wacl/core/Condition$Truth;"⟩ : MethodName)) hown (mvT hZ (hw _ (List.mem_of_getElem? (i := 0) rfl))) (mvT hZ (hw _ (List.mem_of_getElem? (i := 1) rfl))) (mvT hZ (hw _ (List.mem_of_getElem? (i := 2) rfl))) (mvT hZ (hw _ (List.mem_of_getElem? (i := 3) rfl))) (by decide) (backOf (W := 0) (rm1 l Z a0 hw [] a_TRUE a_UNDETERMINED a_FALSE HW p2 (2 : Int32) a_FALSE h0 n0 Ol hk_p2 (by simp)) hZ (hw _ (List.mem_of_getElem? (i := 3) rfl)) (hw _ (List.mem_of_getElem? (i := 2) rfl)) (by decide) (by decide)) (g := (mkF m 6 #[.val (.int p1), .val (.int p2), .val (.ref a_UNDETERMINED), .unset, .unset, .unset] [(.int p2)])) rfl (by rw [hml]; rfl) (argsL := [(.int p2)]) (rest := []) (lenOf pd_0 rfl) rfl (by show 2 * 0 + _ ≤ _; exact Nat.le_of_eq rfl) (hb hby at_6) (fun _ _ => ⟨rfl, e36, (by decide : 0 + 0 ≤ _), (by decide : 0 + 0 ≤ _)⟩)
      dsimp only [Pt.U, Pt.locs, Pt.cells, Pt.slots] at X37 l37 y37 z37 st37 hQ37
      subst l37 y37 z37
      obtain ⟨rfl, Nq37, e37⟩ := hQ37
      have N37 := Fr.app N36 Nq37
      refine Go.step st37 ?_
      show Go p e below _ (T37.setTop (mkF m 9 #[.val (.int p1), .val (.int p2), .val (.ref a_UNDETERMINED), .unset, .unset, .unset] [(.ref a_FALSE)]))
      refine Go.step (fun t_ k_ => XS.astoreN X37.here hx rfl (hb hby at_9) rfl rfl (l' := #[.val (.int p1), .val (.int p2), .val (.ref a_UNDETERMINED), .val (.ref a_FALSE), .unset, .unset]) rfl k_) ?_
      show Go p e below _ (T37.setTop (mkF m 10 #[.val (.int p1), .val (.int p2), .val (.ref a_UNDETERMINED), .val (.ref a_FALSE), .unset, .unset] []))
      refine Go.step (fun t_ k_ => XS.aloadN X37.here hx rfl (hb hby at_10) rfl rfl k_) ?_
      show Go p e below _ (T37.setTop (mkF m 11 #[.val (.int p1), .val (.int p2), .val (.ref a_UNDETERMINED), .val (.ref a_FALSE), .unset, .unset] [(.ref a_UNDETERMINED)]))
      refine Go.step (fun t_ k_ => XS.aloadN X37.here hx rfl (hb hby at_11) rfl rfl k_) ?_
      show Go p e below _ (T37.setTop (mkF m 12 #[.val (.int p1), .val (.int p2), .val (.ref a_UNDETERMINED), .val (.ref a_FALSE), .unset, .unset] [(.ref a_FALSE), (.ref a_UNDETERMINED)]))
      obtain ⟨cq38, kq38, q38a, q38b, q38c⟩ := isOf hZ e37 (E_UNDETERMINED.ext Ol.2)
      obtain ⟨_, _, ⟨T38, L38, k38, n38⟩, -, X38, ⟨Lc38, hQ38, l38, y38, z38⟩, st38⟩ := X37.virtualBack hx (y := (⟨"com/example/wacl/wacl/core/Condition$Truth", "and", "(Lcom/example/wacl/wacl/core/Condition$Truth;)Lcom/example/wacl/wacl/core/Condition$Truth;"⟩ : MethodName)) (z := (⟨"com/example/wacl/wacl/core/Condition$Truth", "and", "(Lcom/example/wacl/wacl/core/Condition$Truth;)Lcom/example/wacl/wacl/core/Condition$Truth;"⟩ : MethodName)) hown (mvT hZ (hw _ (List.mem_of_getElem? (i := 8) rfl))) (mvT hZ (hw _ (List.mem_of_getElem? (i := 9) rfl))) (notFace_of_selects (args := #[]) (mvT hZ (hw _ (List.mem_of_getElem? (i := 11) rfl)))) (mvT hZ (hw _ (List.mem_of_getElem? (i := 11) rfl))) (mvT hZ (hw _ (List.mem_of_getElem? (i := 10) rfl))) (by decide) (backOf (W := 0) (rm2 l Z a0 hw [] a_TRUE a_UNDETERMINED a_FALSE HW a_UNDETERMINED a_FALSE a_FALSE h0 n0 Ol (by simp [(Fld.ne F_TRUE_ordinal F_UNDETERMINED_ordinal (by simp)), (Ne.symm (Fld.ne F_TRUE_ordinal F_UNDETERMINED_ordinal (by simp))), (Fld.ne F_TRUE_ordinal F_FALSE_ordinal (by simp)), (Ne.symm (Fld.ne F_TRUE_ordinal F_FALSE_ordinal (by simp))), (Fld.ne F_UNDETERMINED_ordinal F_FALSE_ordinal (by simp)), (Ne.symm (Fld.ne F_UNDETERMINED_ordinal F_FALSE_ordinal (by simp)))])) hZ (hw _ (List.mem_of_getElem? (i := 12) rfl)) (hw _ (List.mem_of_getElem? (i := 6) rfl)) (by decide) (by decide)) q38a q38c (g := (mkF m 12 #[.val (.int p1), .val (.int p2), .val (.ref a_UNDETERMINED), .val (.ref a_FALSE), .unset, .unset] [(.ref a_FALSE), (.ref a_UNDETERMINED)])) rfl (by rw [hml]; rfl) (Steps.refl _) (argsL := [(.ref a_FALSE)]) (rest := []) (lenOf pd_1 rfl) rfl (by show 2 * 0 + _ ≤ _; exact Nat.le_of_eq rfl) (hb hby at_12) (fun _ _ => ⟨rfl, e37, (by decide : 0 + 0 ≤ _), (by decide : 0 + 0 ≤ _)⟩)
      dsimp only [Pt.U, Pt.locs, Pt.cells, Pt.slots] at X38 l38 y38 z38 st38 hQ38
      subst l38 y38 z38
      obtain ⟨rfl, Nq38, e38⟩ := hQ38
      have N38 := Fr.app N37 Nq38
      refine Go.step (fun t_ k_ => st38.trans k_) ?_
      show Go p e below _ (T38.setTop (mkF m 15 #[.val (.int p1), .val (.int p2), .val (.ref a_UNDETERMINED), .val (.ref a_FALSE), .unset, .unset] [(.ref a_FALSE)]))
      refine Go.step (fun t_ k_ => XS.astore X38.here hx rfl (hb hby at_15) rfl rfl (l' := #[.val (.int p1), .val (.int p2), .val (.ref a_UNDETERMINED), .val (.ref a_FALSE), .val (.ref a_FALSE), .unset]) rfl k_) ?_
      show Go p e below _ (T38.setTop (mkF m 17 #[.val (.int p1), .val (.int p2), .val (.ref a_UNDETERMINED), .val (.ref a_FALSE), .val (.ref a_FALSE), .unset] []))
      refine Go.step (fun t_ k_ => XS.aloadN X38.here hx rfl (hb hby at_17) rfl rfl k_) ?_
      show Go p e below _ (T38.setTop (mkF m 18 #[.val (.int p1), .val (.int p2), .val (.ref a_UNDETERMINED), .val (.ref a_FALSE), .val (.ref a_FALSE), .unset] [(.ref a_UNDETERMINED)]))
      obtain ⟨_, _, ⟨T39, L39, k39, n39⟩, -, X39, ⟨Lc39, hQ39, l39, y39, z39⟩, st39⟩ := Jvm.LawKit.callS X38 hx (y := (⟨"com/example/wacl/wacl/core/TruthAndPinLaw", "rank", "(Lcom/example/wacl/wacl/core/Condition$Truth;)I"⟩ : MethodName)) hown (mvT hZ (hw _ (List.mem_of_getElem? (i := 18) rfl))) (mvT hZ (hw _ (List.mem_of_getElem? (i := 19) rfl))) (mvT hZ (hw _ (List.mem_of_getElem? (i := 2) rfl))) (mvT hZ (hw _ (List.mem_of_getElem? (i := 20) rfl))) (by decide) (backOf (W := 0) (rm3 l Z a0 hw [] a_TRUE a_UNDETERMINED a_FALSE HW a_UNDETERMINED (1 : Int32) h0 n0 Ol (by simp [(Fld.ne F_TRUE_ordinal F_UNDETERMINED_ordinal (by simp)), (Ne.symm (Fld.ne F_TRUE_ordinal F_UNDETERMINED_ordinal (by simp))), (Fld.ne F_TRUE_ordinal F_FALSE_ordinal (by simp)), (Ne.symm (Fld.ne F_TRUE_ordinal F_FALSE_ordinal (by simp))), (Fld.ne F_UNDETERMINED_ordinal F_FALSE_ordinal (by simp)), (Ne.symm (Fld.ne F_UNDETERMINED_ordinal F_FALSE_ordinal (by simp)))])) hZ (hw _ (List.mem_of_getElem? (i := 20) rfl)) (hw _ (List.mem_of_getElem? (i := 2) rfl)) (by decide) (by decide)) (g := (mkF m 18 #[.val (.int p1), .val (.int p2), .val (.ref a_UNDETERMINED), .val (.ref a_FALSE), .val (.ref a_FALSE), .unset] [(.ref a_UNDETERMINED)])) rfl (by rw [hml]; rfl) (argsL := [(.ref a_UNDETERMINED)]) (rest := []) (lenOf pd_2 rfl) rfl (by show 2 * 0 + _ ≤ _; exact Nat.le_of_eq rfl) (hb hby at_18) (fun _ _ => ⟨rfl, e38, (by decide : 0 + 0 ≤ _), (by decide : 0 + 0 ≤ _)⟩)
      dsimp only [Pt.U, Pt.locs, Pt.cells, Pt.slots] at X39 l39 y39 z39 st39 hQ39
      subst l39 y39 z39
      obtain ⟨rfl, Nq39, e39⟩ := hQ39
      have N39 := Fr.app N38 Nq39
      refine Go.step st39 ?_
      show Go p e below _ (T39.setTop (mkF m 21 #[.val (.int p1), .val (.int p2), .val (.ref a_UNDETERMINED), .val (.ref a_FALSE), .val (.ref a_FALSE), .unset] [(.int (1 : Int32))]))
      refine Go.step (fun t_ k_ => XS.aloadN X39.here hx rfl (hb hby at_21) rfl rfl k_) ?_
      show Go p e below _ (T39.setTop (mkF m 22 #[.val (.int p1), .val (.int p2), .val (.ref a_UNDETERMINED), .val (.ref a_FALSE), .val (.ref a_FALSE), .unset] [(.ref a_FALSE), (.int (1 : Int32))]))
      obtain ⟨_, _, ⟨T40, L40, k40, n40⟩, -, X40, ⟨Lc40, hQ40, l40, y40, z40⟩, st40⟩ := Jvm.LawKit.callS X39 hx (y := (⟨"com/example/wacl/wacl/core/TruthAndPinLaw", "rank", "(Lcom/example/wacl/wacl/core/Condition$Truth;)I"⟩ : MethodName)) hown (mvT hZ (hw _ (List.mem_of_getElem? (i := 18) rfl))) (mvT hZ (hw _ (List.mem_of_getElem? (i := 19) rfl))) (mvT hZ (hw _ (List.mem_of_getElem? (i := 2) rfl))) (mvT hZ (hw _ (List.mem_of_getElem? (i := 20) rfl))) (by decide) (backOf (W := 1) (rm3 l Z a0 hw [] a_TRUE a_UNDETERMINED a_FALSE HW a_FALSE (0 : Int32) h0 n0 Ol (by simp [(Fld.ne F_TRUE_ordinal F_UNDETERMINED_ordinal (by simp)), (Ne.symm (Fld.ne F_TRUE_ordinal F_UNDETERMINED_ordinal (by simp))), (Fld.ne F_TRUE_ordinal F_FALSE_ordinal (by simp)), (Ne.symm (Fld.ne F_TRUE_ordinal F_FALSE_ordinal (by simp))), (Fld.ne F_UNDETERMINED_ordinal F_FALSE_ordinal (by simp)), (Ne.symm (Fld.ne F_UNDETERMINED_ordinal F_FALSE_ordinal (by simp)))])) hZ (hw _ (List.mem_of_getElem? (i := 20) rfl)) (hw _ (List.mem_of_getElem? (i := 2) rfl)) (by decide) (by decide)) (g := (mkF m 22 #[.val (.int p1), .val (.int p2), .val (.ref a_UNDETERMINED), .val (.ref a_FALSE), .val (.ref a_FALSE), .unset] [(.ref a_FALSE), (.int (1 : Int32))])) rfl (by rw [hml]; rfl) (argsL := [(.ref a_FALSE)]) (rest := [(.int (1 : Int32))]) (lenOf pd_2 rfl) rfl (by show 2 * 0 + _ ≤ _; exact Nat.le_of_eq rfl) (hb hby at_22) (fun _ _ => ⟨rfl, e39, (by decide : 0 + 0 ≤ _), (by decide : 0 + 0 ≤ _)⟩)
      dsimp only [Pt.U, Pt.locs, Pt.cells, Pt.slots] at X40 l40 y40 z40 st40 hQ40
      subst l40 y40 z40
      obtain ⟨rfl, Nq40, e40⟩ := hQ40
      have N40 := Fr.app N39 Nq40
      refine Go.step st40 ?_
      show Go p e below _ (T40.setTop (mkF m 25 #[.val (.int p1), .val (.int p2), .val (.ref a_UNDETERMINED), .val (.ref a_FALSE), .val (.ref a_FALSE), .unset] [(.int (0 : Int32)), (.int (1 : Int32))]))
      obtain ⟨_, _, ⟨T41, L41, k41, n41⟩, -, X41, ⟨Lc41, hQ41, l41, y41, z41⟩, st41⟩ := Jvm.LawKit.callS X40 hx (y := (⟨"java/lang/Math", "min", "(II)I"⟩ : MethodName)) hown (mvT hZ (hw _ (List.mem_of_getElem? (i := 21) rfl))) (mvT hZ (hw _ (List.mem_of_getElem? (i := 22) rfl))) (mvT hZ (hw _ (List.mem_of_getElem? (i := 23) rfl))) (mvT hZ (hw _ (List.mem_of_getElem? (i := 24) rfl))) (by decide) (backOf (W := 0) (rm4 l Z a0 hw [] a_TRUE a_UNDETERMINED a_FALSE HW (1 : Int32) (0 : Int32) (0 : Int32) h0 n0 Ol (by decide)) hZ (hw _ (List.mem_of_getElem? (i := 24) rfl)) (hw _ (List.mem_of_getElem? (i := 23) rfl)) (by decide) (by decide)) (g := (mkF m 25 #[.val (.int p1), .val (.int p2), .val (.ref a_UNDETERMINED), .val (.ref a_FALSE), .val (.ref a_FALSE), .unset] [(.int (0 : Int32)), (.int (1 : Int32))])) rfl (by rw [hml]; rfl) (argsL := [(.int (1 : Int32)), (.int (0 : Int32))]) (rest := []) (lenOf pd_3 rfl) rfl (by show 2 * 0 + _ ≤ _; exact Nat.le_of_eq rfl) (hb hby at_25) (fun _ _ => ⟨rfl, e40, (by decide : 0 + 0 ≤ _), (by decide : 0 + 0 ≤ _)⟩)
      dsimp only [Pt.U, Pt.locs, Pt.cells, Pt.slots] at X41 l41 y41 z41 st41 hQ41
      subst l41 y41 z41
      obtain ⟨rfl, Nq41, e41⟩ := hQ41
      have N41 := Fr.app N40 Nq41
      refine Go.step st41 ?_
      show Go p e below _ (T41.setTop (mkF m 28 #[.val (.int p1), .val (.int p2), .val (.ref a_UNDETERMINED), .val (.ref a_FALSE), .val (.ref a_FALSE), .unset] [(.int (0 : Int32))]))
      refine Go.step (fun t_ k_ => XS.istore X41.here hx rfl (hb hby at_28) rfl (l' := #[.val (.int p1), .val (.int p2), .val (.ref a_UNDETERMINED), .val (.ref a_FALSE), .val (.ref a_FALSE), .val (.int (0 : Int32))]) rfl k_) ?_
      show Go p e below _ (T41.setTop (mkF m 30 #[.val (.int p1), .val (.int p2), .val (.ref a_UNDETERMINED), .val (.ref a_FALSE), .val (.ref a_FALSE), .val (.int (0 : Int32))] []))
      refine Go.step (fun t_ k_ => XS.aload X41.here hx rfl (hb hby at_30) rfl rfl k_) ?_
      show Go p e below _ (T41.setTop (mkF m 32 #[.val (.int p1), .val (.int p2), .val (.ref a_UNDETERMINED), .val (.ref a_FALSE), .val (.ref a_FALSE), .val (.int (0 : Int32))] [(.ref a_FALSE)]))
      obtain ⟨_, _, ⟨T42, L42, k42, n42⟩, -, X42, ⟨Lc42, hQ42, l42, y42, z42⟩, st42⟩ := Jvm.LawKit.callS X41 hx (y := (⟨"com/example/wacl/wacl/core/TruthAndPinLaw", "rank", "(Lcom/example/wacl/wacl/core/Condition$Truth;)I"⟩ : MethodName)) hown (mvT hZ (hw _ (List.mem_of_getElem? (i := 18) rfl))) (mvT hZ (hw _ (List.mem_of_getElem? (i := 19) rfl))) (mvT hZ (hw _ (List.mem_of_getElem? (i := 2) rfl))) (mvT hZ (hw _ (List.mem_of_getElem? (i := 20) rfl))) (by decide) (backOf (W := 0) (rm3 l Z a0 hw [] a_TRUE a_UNDETERMINED a_FALSE HW a_FALSE (0 : Int32) h0 n0 Ol (by simp [(Fld.ne F_TRUE_ordinal F_UNDETERMINED_ordinal (by simp)), (Ne.symm (Fld.ne F_TRUE_ordinal F_UNDETERMINED_ordinal (by simp))), (Fld.ne F_TRUE_ordinal F_FALSE_ordinal (by simp)), (Ne.symm (Fld.ne F_TRUE_ordinal F_FALSE_ordinal (by simp))), (Fld.ne F_UNDETERMINED_ordinal F_FALSE_ordinal (by simp)), (Ne.symm (Fld.ne F_UNDETERMINED_ordinal F_FALSE_ordinal (by simp)))])) hZ (hw _ (List.mem_of_getElem? (i := 20) rfl)) (hw _ (List.mem_of_getElem? (i := 2) rfl)) (by decide) (by decide)) (g := (mkF m 32 #[.val (.int p1), .val (.int p2), .val (.ref a_UNDETERMINED), .val (.ref a_FALSE), .val (.ref a_FALSE), .val (.int (0 : Int32))] [(.ref a_FALSE)])) rfl (by rw [hml]; rfl) (argsL := [(.ref a_FALSE)]) (rest := []) (lenOf pd_2 rfl) rfl (by show 2 * 0 + _ ≤ _; exact Nat.le_of_eq rfl) (hb hby at_32) (fun _ _ => ⟨rfl, e41, (by decide : 0 + 0 ≤ _), (by decide : 0 + 0 ≤ _)⟩)
      dsimp only [Pt.U, Pt.locs, Pt.cells, Pt.slots] at X42 l42 y42 z42 st42 hQ42
      subst l42 y42 z42
      obtain ⟨rfl, Nq42, e42⟩ := hQ42
      have N42 := Fr.app N41 Nq42
      refine Go.step st42 ?_
      show Go p e below _ (T42.setTop (mkF m 35 #[.val (.int p1), .val (.int p2), .val (.ref a_UNDETERMINED), .val (.ref a_FALSE), .val (.ref a_FALSE), .val (.int (0 : Int32))] [(.int (0 : Int32))]))
      refine Go.step (fun t_ k_ => XS.iload X42.here hx rfl (hb hby at_35) rfl k_) ?_
      show Go p e below _ (T42.setTop (mkF m 37 #[.val (.int p1), .val (.int p2), .val (.ref a_UNDETERMINED), .val (.ref a_FALSE), .val (.ref a_FALSE), .val (.int (0 : Int32))] [(.int (0 : Int32)), (.int (0 : Int32))]))
      have hc37 : (0 : Int32) = (0 : Int32) := by decide
      refine Go.step (fun t_ k_ => XS.icmpNo X42.here hx rfl (hb hby at_37) rfl (teq hc37).2 k_) ?_
      show Go p e below _ (T42.setTop (mkF m 40 #[.val (.int p1), .val (.int p2), .val (.ref a_UNDETERMINED), .val (.ref a_FALSE), .val (.ref a_FALSE), .val (.int (0 : Int32))] []))
      refine Go.step (fun t_ k_ => XS.iconst X42.here hx rfl (hb hby at_40) k_) ?_
      show Go p e below _ (T42.setTop (mkF m 41 #[.val (.int p1), .val (.int p2), .val (.ref a_UNDETERMINED), .val (.ref a_FALSE), .val (.ref a_FALSE), .val (.int (0 : Int32))] [(.int (1 : Int32))]))
      refine Go.step (fun t_ k_ => XS.goto X42.here hx rfl (pc0 := 41) (pc' := 45) rfl (hb hby at_41) (by decide) (by decide) k_) ?_
      show Go p e below _ (T42.setTop (mkF m 45 #[.val (.int p1), .val (.int p2), .val (.ref a_UNDETERMINED), .val (.ref a_FALSE), .val (.ref a_FALSE), .val (.int (0 : Int32))] [(.int (1 : Int32))]))
      refine Go.retZ X42 hx (t := .boolean) Bd.returns (by simp) Bd.notSynchronized (hb hby at_45) (by rw [e42]; exact ⟨rfl, N42⟩) (by decide) (by decide)
  next =>
    rcases cs3 hb_p2 with rfl | rfl | rfl
    next =>
      refine Go.step (fun t_ k_ => XS.iloadN X0.here hx rfl (hb hby at_0) rfl k_) ?_
      show Go p e below _ (s₁.setTop (mkF m 1 #[.val (.int p1), .val (.int p2), .unset, .unset, .unset, .unset] [(.int p1)]))
      obtain ⟨_, _, ⟨T43, L43, k43, n43⟩, -, X43, ⟨Lc43, hQ43, l43, y43, z43⟩, st43⟩ := Jvm.LawKit.callS X0 hx (y := (⟨"com/example/wacl/wacl/core/TruthAndPinLaw", "pick", "(I)Lcom/example/wacl/wacl/core/Condition$Truth;"⟩ : MethodName)) hown (mvT hZ (hw _ (List.mem_of_getElem? (i := 0) rfl))) (mvT hZ (hw _ (List.mem_of_getElem? (i := 1) rfl))) (mvT hZ (hw _ (List.mem_of_getElem? (i := 2) rfl))) (mvT hZ (hw _ (List.mem_of_getElem? (i := 3) rfl))) (by decide) (backOf (W := 0) (rm1 l Z a0 hw [] a_TRUE a_UNDETERMINED a_FALSE HW p1 (2 : Int32) a_FALSE h0 n0 Ol hk_p1 (by simp)) hZ (hw _ (List.mem_of_getElem? (i := 3) rfl)) (hw _ (List.mem_of_getElem? (i := 2) rfl)) (by decide) (by decide)) (g := (mkF m 1 #[.val (.int p1), .val (.int p2), .unset, .unset, .unset, .unset] [(.int p1)])) rfl (by rw [hml]; rfl) (argsL := [(.int p1)]) (rest := []) (lenOf pd_0 rfl) rfl (by show 2 * 0 + _ ≤ _; exact Nat.le_of_eq rfl) (hb hby at_1) (fun _ _ => ⟨rfl, e0, (by decide : 0 + 0 ≤ _), (by decide : 0 + 0 ≤ _)⟩)
      dsimp only [Pt.U, Pt.locs, Pt.cells, Pt.slots] at X43 l43 y43 z43 st43 hQ43
      subst l43 y43 z43
      obtain ⟨rfl, Nq43, e43⟩ := hQ43
      have N43 := Fr.app N0 Nq43
      refine Go.step st43 ?_
      show Go p e below _ (T43.setTop (mkF m 4 #[.val (.int p1), .val (.int p2), .unset, .unset, .unset, .unset] [(.ref a_FALSE)]))
      refine Go.step (fun t_ k_ => XS.astoreN X43.here hx rfl (hb hby at_4) rfl rfl (l' := #[.val (.int p1), .val (.int p2), .val (.ref a_FALSE), .unset, .unset, .unset]) rfl k_) ?_
      show Go p e below _ (T43.setTop (mkF m 5 #[.val (.int p1), .val (.int p2), .val (.ref a_FALSE), .unset, .unset, .unset] []))
      refine Go.step (fun t_ k_ => XS.iloadN X43.here hx rfl (hb hby at_5) rfl k_) ?_
      show Go p e below _ (T43.setTop (mkF m 6 #[.val (.int p1), .val (.int p2), .val (.ref a_FALSE), .unset, .unset, .unset] [(.int p2)]))
      obtain ⟨_, _, ⟨T44, L44, k44, n44⟩, -, X44, ⟨Lc44, hQ44, l44, y44, z44⟩, st44⟩ := Jvm.LawKit.callS X43 hx (y := (⟨"com/example/wacl/wacl/core/TruthAndPinLaw", "pick", "(I)Lcom/example/wacl/wacl/core/Condition$Truth;"⟩ : MethodName)) hown (mvT hZ (hw _ (List.mem_of_getElem? (i := 0) rfl))) (mvT hZ (hw _ (List.mem_of_getElem? (i := 1) rfl))) (mvT hZ (hw _ (List.mem_of_getElem? (i := 2) rfl))) (mvT hZ (hw _ (List.mem_of_getElem? (i := 3) rfl))) (by decide) (backOf (W := 0) (rm1 l Z a0 hw [] a_TRUE a_UNDETERMINED a_FALSE HW p2 (0 : Int32) a_TRUE h0 n0 Ol hk_p2 (by simp)) hZ (hw _ (List.mem_of_getElem? (i := 3) rfl)) (hw _ (List.mem_of_getElem? (i := 2) rfl)) (by decide) (by decide)) (g := (mkF m 6 #[.val (.int p1), .val (.int p2), .val (.ref a_FALSE), .unset, .unset, .unset] [(.int p2)])) rfl (by rw [hml]; rfl) (argsL := [(.int p2)]) (rest := []) (lenOf pd_0 rfl) rfl (by show 2 * 0 + _ ≤ _; exact Nat.le_of_eq rfl) (hb hby at_6) (fun _ _ => ⟨rfl, e43, (by decide : 0 + 0 ≤ _), (by decide : 0 + 0 ≤ _)⟩)
      dsimp only [Pt.U, Pt.locs, Pt.cells, Pt.slots] at X44 l44 y44 z44 st44 hQ44
      subst l44 y44 z44
      obtain ⟨rfl, Nq44, e44⟩ := hQ44
      have N44 := Fr.app N43 Nq44
      refine Go.step st44 ?_
      show Go p e below _ (T44.setTop (mkF m 9 #[.val (.int p1), .val (.int p2), .val (.ref a_FALSE), .unset, .unset, .unset] [(.ref a_TRUE)]))
      refine Go.step (fun t_ k_ => XS.astoreN X44.here hx rfl (hb hby at_9) rfl rfl (l' := #[.val (.int p1), .val (.int p2), .val (.ref a_FALSE), .val (.ref a_TRUE), .unset, .unset]) rfl k_) ?_
      show Go p e below _ (T44.setTop (mkF m 10 #[.val (.int p1), .val (.int p2), .val (.ref a_FALSE), .val (.ref a_TRUE), .unset, .unset] []))
      refine Go.step (fun t_ k_ => XS.aloadN X44.here hx rfl (hb hby at_10) rfl rfl k_) ?_
      show Go p e below _ (T44.setTop (mkF m 11 #[.val (.int p1), .val (.int p2), .val (.ref a_FALSE), .val (.ref a_TRUE), .unset, .unset] [(.ref a_FALSE)]))
      refine Go.step (fun t_ k_ => XS.aloadN X44.here hx rfl (hb hby at_11) rfl rfl k_) ?_
      show Go p e below _ (T44.setTop (mkF m 12 #[.val (.int p1), .val (.int p2), .val (.ref a_FALSE), .val (.ref a_TRUE), .unset, .unset] [(.ref a_TRUE), (.ref a_FALSE)]))
      obtain ⟨cq45, kq45, q45a, q45b, q45c⟩ := isOf hZ e44 (E_FALSE.ext Ol.2)
      obtain ⟨_, _, ⟨T45, L45, k45, n45⟩, -, X45, ⟨Lc45, hQ45, l45, y45, z45⟩, st45⟩ := X44.virtualBack hx (y := (⟨"com/example/wacl/wacl/core/Condition$Truth", "and", "(Lcom/example/wacl/wacl/core/Condition$Truth;)Lcom/example/wacl/wacl/core/Condition$Truth;"⟩ : MethodName)) (z := (⟨"com/example/wacl/wacl/core/Condition$Truth", "and", "(Lcom/example/wacl/wacl/core/Condition$Truth;)Lcom/example/wacl/wacl/core/Condition$Truth;"⟩ : MethodName)) hown (mvT hZ (hw _ (List.mem_of_getElem? (i := 8) rfl))) (mvT hZ (hw _ (List.mem_of_getElem? (i := 9) rfl))) (notFace_of_selects (args := #[]) (mvT hZ (hw _ (List.mem_of_getElem? (i := 11) rfl)))) (mvT hZ (hw _ (List.mem_of_getElem? (i := 11) rfl))) (mvT hZ (hw _ (List.mem_of_getElem? (i := 10) rfl))) (by decide) (backOf (W := 0) (rm2 l Z a0 hw [] a_TRUE a_UNDETERMINED a_FALSE HW a_FALSE a_TRUE a_FALSE h0 n0 Ol (by simp [(Fld.ne F_TRUE_ordinal F_UNDETERMINED_ordinal (by simp)), (Ne.symm (Fld.ne F_TRUE_ordinal F_UNDETERMINED_ordinal (by simp))), (Fld.ne F_TRUE_ordinal F_FALSE_ordinal (by simp)), (Ne.symm (Fld.ne F_TRUE_ordinal F_FALSE_ordinal (by simp))), (Fld.ne F_UNDETERMINED_ordinal F_FALSE_ordinal (by simp)), (Ne.symm (Fld.ne F_UNDETERMINED_ordinal F_FALSE_ordinal (by simp)))])) hZ (hw _ (List.mem_of_getElem? (i := 12) rfl)) (hw _ (List.mem_of_getElem? (i := 6) rfl)) (by decide) (by decide)) q45a q45c (g := (mkF m 12 #[.val (.int p1), .val (.int p2), .val (.ref a_FALSE), .val (.ref a_TRUE), .unset, .unset] [(.ref a_TRUE), (.ref a_FALSE)])) rfl (by rw [hml]; rfl) (Steps.refl _) (argsL := [(.ref a_TRUE)]) (rest := []) (lenOf pd_1 rfl) rfl (by show 2 * 0 + _ ≤ _; exact Nat.le_of_eq rfl) (hb hby at_12) (fun _ _ => ⟨rfl, e44, (by decide : 0 + 0 ≤ _), (by decide : 0 + 0 ≤ _)⟩)
      dsimp only [Pt.U, Pt.locs, Pt.cells, Pt.slots] at X45 l45 y45 z45 st45 hQ45
      subst l45 y45 z45
      obtain ⟨rfl, Nq45, e45⟩ := hQ45
      have N45 := Fr.app N44 Nq45
      refine Go.step (fun t_ k_ => st45.trans k_) ?_
      show Go p e below _ (T45.setTop (mkF m 15 #[.val (.int p1), .val (.int p2), .val (.ref a_FALSE), .val (.ref a_TRUE), .unset, .unset] [(.ref a_FALSE)]))
      refine Go.step (fun t_ k_ => XS.astore X45.here hx rfl (hb hby at_15) rfl rfl (l' := #[.val (.int p1), .val (.int p2), .val (.ref a_FALSE), .val (.ref a_TRUE), .val (.ref a_FALSE), .unset]) rfl k_) ?_
      show Go p e below _ (T45.setTop (mkF m 17 #[.val (.int p1), .val (.int p2), .val (.ref a_FALSE), .val (.ref a_TRUE), .val (.ref a_FALSE), .unset] []))
      refine Go.step (fun t_ k_ => XS.aloadN X45.here hx rfl (hb hby at_17) rfl rfl k_) ?_
      show Go p e below _ (T45.setTop (mkF m 18 #[.val (.int p1), .val (.int p2), .val (.ref a_FALSE), .val (.ref a_TRUE), .val (.ref a_FALSE), .unset] [(.ref a_FALSE)]))
      obtain ⟨_, _, ⟨T46, L46, k46, n46⟩, -, X46, ⟨Lc46, hQ46, l46, y46, z46⟩, st46⟩ := Jvm.LawKit.callS X45 hx (y := (⟨"com/example/wacl/wacl/core/TruthAndPinLaw", "rank", "(Lcom/example/wacl/wacl/core/Condition$Truth;)I"⟩ : MethodName)) hown (mvT hZ (hw _ (List.mem_of_getElem? (i := 18) rfl))) (mvT hZ (hw _ (List.mem_of_getElem? (i := 19) rfl))) (mvT hZ (hw _ (List.mem_of_getElem? (i := 2) rfl))) (mvT hZ (hw _ (List.mem_of_getElem? (i := 20) rfl))) (by decide) (backOf (W := 0) (rm3 l Z a0 hw [] a_TRUE a_UNDETERMINED a_FALSE HW a_FALSE (0 : Int32) h0 n0 Ol (by simp [(Fld.ne F_TRUE_ordinal F_UNDETERMINED_ordinal (by simp)), (Ne.symm (Fld.ne F_TRUE_ordinal F_UNDETERMINED_ordinal (by simp))), (Fld.ne F_TRUE_ordinal F_FALSE_ordinal (by simp)), (Ne.symm (Fld.ne F_TRUE_ordinal F_FALSE_ordinal (by simp))), (Fld.ne F_UNDETERMINED_ordinal F_FALSE_ordinal (by simp)), (Ne.symm (Fld.ne F_UNDETERMINED_ordinal F_FALSE_ordinal (by simp)))])) hZ (hw _ (List.mem_of_getElem? (i := 20) rfl)) (hw _ (List.mem_of_getElem? (i := 2) rfl)) (by decide) (by decide)) (g := (mkF m 18 #[.val (.int p1), .val (.int p2), .val (.ref a_FALSE), .val (.ref a_TRUE), .val (.ref a_FALSE), .unset] [(.ref a_FALSE)])) rfl (by rw [hml]; rfl) (argsL := [(.ref a_FALSE)]) (rest := []) (lenOf pd_2 rfl) rfl (by show 2 * 0 + _ ≤ _; exact Nat.le_of_eq rfl) (hb hby at_18) (fun _ _ => ⟨rfl, e45, (by decide : 0 + 0 ≤ _), (by decide : 0 + 0 ≤ _)⟩)
      dsimp only [Pt.U, Pt.locs, Pt.cells, Pt.slots] at X46 l46 y46 z46 st46 hQ46
      subst l46 y46 z46
      obtain ⟨rfl, Nq46, e46⟩ := hQ46
      have N46 := Fr.app N45 Nq46
      refine Go.step st46 ?_
      show Go p e below _ (T46.setTop (mkF m 21 #[.val (.int p1), .val (.int p2), .val (.ref a_FALSE), .val (.ref a_TRUE), .val (.ref a_FALSE), .unset] [(.int (0 : Int32))]))
      refine Go.step (fun t_ k_ => XS.aloadN X46.here hx rfl (hb hby at_21) rfl rfl k_) ?_
      show Go p e below _ (T46.setTop (mkF m 22 #[.val (.int p1), .val (.int p2), .val (.ref a_FALSE), .val (.ref a_TRUE), .val (.ref a_FALSE), .unset] [(.ref a_TRUE), (.int (0 : Int32))]))
      obtain ⟨_, _, ⟨T47, L47, k47, n47⟩, -, X47, ⟨Lc47, hQ47, l47, y47, z47⟩, st47⟩ := Jvm.LawKit.callS X46 hx (y := (⟨"com/example/wacl/wacl/core/TruthAndPinLaw", "rank", "(Lcom/example/wacl/wacl/core/Condition$Truth;)I"⟩ : MethodName)) hown (mvT hZ (hw _ (List.mem_of_getElem? (i := 18) rfl))) (mvT hZ (hw _ (List.mem_of_getElem? (i := 19) rfl))) (mvT hZ (hw _ (List.mem_of_getElem? (i := 2) rfl))) (mvT hZ (hw _ (List.mem_of_getElem? (i := 20) rfl))) (by decide) (backOf (W := 1) (rm3 l Z a0 hw [] a_TRUE a_UNDETERMINED a_FALSE HW a_TRUE (2 : Int32) h0 n0 Ol (by simp [(Fld.ne F_TRUE_ordinal F_UNDETERMINED_ordinal (by simp)), (Ne.symm (Fld.ne F_TRUE_ordinal F_UNDETERMINED_ordinal (by simp))), (Fld.ne F_TRUE_ordinal F_FALSE_ordinal (by simp)), (Ne.symm (Fld.ne F_TRUE_ordinal F_FALSE_ordinal (by simp))), (Fld.ne F_UNDETERMINED_ordinal F_FALSE_ordinal (by simp)), (Ne.symm (Fld.ne F_UNDETERMINED_ordinal F_FALSE_ordinal (by simp)))])) hZ (hw _ (List.mem_of_getElem? (i := 20) rfl)) (hw _ (List.mem_of_getElem? (i := 2) rfl)) (by decide) (by decide)) (g := (mkF m 22 #[.val (.int p1), .val (.int p2), .val (.ref a_FALSE), .val (.ref a_TRUE), .val (.ref a_FALSE), .unset] [(.ref a_TRUE), (.int (0 : Int32))])) rfl (by rw [hml]; rfl) (argsL := [(.ref a_TRUE)]) (rest := [(.int (0 : Int32))]) (lenOf pd_2 rfl) rfl (by show 2 * 0 + _ ≤ _; exact Nat.le_of_eq rfl) (hb hby at_22) (fun _ _ => ⟨rfl, e46, (by decide : 0 + 0 ≤ _), (by decide : 0 + 0 ≤ _)⟩)
      dsimp only [Pt.U, Pt.locs, Pt.cells, Pt.slots] at X47 l47 y47 z47 st47 hQ47
      subst l47 y47 z47
      obtain ⟨rfl, Nq47, e47⟩ := hQ47
      have N47 := Fr.app N46 Nq47
      refine Go.step st47 ?_
      show Go p e below _ (T47.setTop (mkF m 25 #[.val (.int p1), .val (.int p2), .val (.ref a_FALSE), .val (.ref a_TRUE), .val (.ref a_FALSE), .unset] [(.int (2 : Int32)), (.int (0 : Int32))]))
      obtain ⟨_, _, ⟨T48, L48, k48, n48⟩, -, X48, ⟨Lc48, hQ48, l48, y48, z48⟩, st48⟩ := Jvm.LawKit.callS X47 hx (y := (⟨"java/lang/Math", "min", "(II)I"⟩ : MethodName)) hown (mvT hZ (hw _ (List.mem_of_getElem? (i := 21) rfl))) (mvT hZ (hw _ (List.mem_of_getElem? (i := 22) rfl))) (mvT hZ (hw _ (List.mem_of_getElem? (i := 23) rfl))) (mvT hZ (hw _ (List.mem_of_getElem? (i := 24) rfl))) (by decide) (backOf (W := 0) (rm4 l Z a0 hw [] a_TRUE a_UNDETERMINED a_FALSE HW (0 : Int32) (2 : Int32) (0 : Int32) h0 n0 Ol (by decide)) hZ (hw _ (List.mem_of_getElem? (i := 24) rfl)) (hw _ (List.mem_of_getElem? (i := 23) rfl)) (by decide) (by decide)) (g := (mkF m 25 #[.val (.int p1), .val (.int p2), .val (.ref a_FALSE), .val (.ref a_TRUE), .val (.ref a_FALSE), .unset] [(.int (2 : Int32)), (.int (0 : Int32))])) rfl (by rw [hml]; rfl) (argsL := [(.int (0 : Int32)), (.int (2 : Int32))]) (rest := []) (lenOf pd_3 rfl) rfl (by show 2 * 0 + _ ≤ _; exact Nat.le_of_eq rfl) (hb hby at_25) (fun _ _ => ⟨rfl, e47, (by decide : 0 + 0 ≤ _), (by decide : 0 + 0 ≤ _)⟩)
      dsimp only [Pt.U, Pt.locs, Pt.cells, Pt.slots] at X48 l48 y48 z48 st48 hQ48
      subst l48 y48 z48
      obtain ⟨rfl, Nq48, e48⟩ := hQ48
      have N48 := Fr.app N47 Nq48
      refine Go.step st48 ?_
      show Go p e below _ (T48.setTop (mkF m 28 #[.val (.int p1), .val (.int p2), .val (.ref a_FALSE), .val (.ref a_TRUE), .val (.ref a_FALSE), .unset] [(.int (0 : Int32))]))
      refine Go.step (fun t_ k_ => XS.istore X48.here hx rfl (hb hby at_28) rfl (l' := #[.val (.int p1), .val (.int p2), .val (.ref a_FALSE), .val (.ref a_TRUE), .val (.ref a_FALSE), .val (.int (0 : Int32))]) rfl k_) ?_
      show Go p e below _ (T48.setTop (mkF m 30 #[.val (.int p1), .val (.int p2), .val (.ref a_FALSE), .val (.ref a_TRUE), .val (.ref a_FALSE), .val (.int (0 : Int32))] []))
      refine Go.step (fun t_ k_ => XS.aload X48.here hx rfl (hb hby at_30) rfl rfl k_) ?_
      show Go p e below _ (T48.setTop (mkF m 32 #[.val (.int p1), .val (.int p2), .val (.ref a_FALSE), .val (.ref a_TRUE), .val (.ref a_FALSE), .val (.int (0 : Int32))] [(.ref a_FALSE)]))
      obtain ⟨_, _, ⟨T49, L49, k49, n49⟩, -, X49, ⟨Lc49, hQ49, l49, y49, z49⟩, st49⟩ := Jvm.LawKit.callS X48 hx (y := (⟨"com/example/wacl/wacl/core/TruthAndPinLaw", "rank", "(Lcom/example/wacl/wacl/core/Condition$Truth;)I"⟩ : MethodName)) hown (mvT hZ (hw _ (List.mem_of_getElem? (i := 18) rfl))) (mvT hZ (hw _ (List.mem_of_getElem? (i := 19) rfl))) (mvT hZ (hw _ (List.mem_of_getElem? (i := 2) rfl))) (mvT hZ (hw _ (List.mem_of_getElem? (i := 20) rfl))) (by decide) (backOf (W := 0) (rm3 l Z a0 hw [] a_TRUE a_UNDETERMINED a_FALSE HW a_FALSE (0 : Int32) h0 n0 Ol (by simp [(Fld.ne F_TRUE_ordinal F_UNDETERMINED_ordinal (by simp)), (Ne.symm (Fld.ne F_TRUE_ordinal F_UNDETERMINED_ordinal (by simp))), (Fld.ne F_TRUE_ordinal F_FALSE_ordinal (by simp)), (Ne.symm (Fld.ne F_TRUE_ordinal F_FALSE_ordinal (by simp))), (Fld.ne F_UNDETERMINED_ordinal F_FALSE_ordinal (by simp)), (Ne.symm (Fld.ne F_UNDETERMINED_ordinal F_FALSE_ordinal (by simp)))])) hZ (hw _ (List.mem_of_getElem? (i := 20) rfl)) (hw _ (List.mem_of_getElem? (i := 2) rfl)) (by decide) (by decide)) (g := (mkF m 32 #[.val (.int p1), .val (.int p2), .val (.ref a_FALSE), .val (.ref a_TRUE), .val (.ref a_FALSE), .val (.int (0 : Int32))] [(.ref a_FALSE)])) rfl (by rw [hml]; rfl) (argsL := [(.ref a_FALSE)]) (rest := []) (lenOf pd_2 rfl) rfl (by show 2 * 0 + _ ≤ _; exact Nat.le_of_eq rfl) (hb hby at_32) (fun _ _ => ⟨rfl, e48, (by decide : 0 + 0 ≤ _), (by decide : 0 + 0 ≤ _)⟩)
      dsimp only [Pt.U, Pt.locs, Pt.cells, Pt.slots] at X49 l49 y49 z49 st49 hQ49
      subst l49 y49 z49
      obtain ⟨rfl, Nq49, e49⟩ := hQ49
      have N49 := Fr.app N48 Nq49
      refine Go.step st49 ?_
      show Go p e below _ (T49.setTop (mkF m 35 #[.val (.int p1), .val (.int p2), .val (.ref a_FALSE), .val (.ref a_TRUE), .val (.ref a_FALSE), .val (.int (0 : Int32))] [(.int (0 : Int32))]))
      refine Go.step (fun t_ k_ => XS.iload X49.here hx rfl (hb hby at_35) rfl k_) ?_
      show Go p e below _ (T49.setTop (mkF m 37 #[.val (.int p1), .val (.int p2), .val (.ref a_FALSE), .val (.ref a_TRUE), .val (.ref a_FALSE), .val (.int (0 : Int32))] [(.int (0 : Int32)), (.int (0 : Int32))]))
      have hc37 : (0 : Int32) = (0 : Int32) := by decide
      refine Go.step (fun t_ k_ => XS.icmpNo X49.here hx rfl (hb hby at_37) rfl (teq hc37).2 k_) ?_
      show Go p e below _ (T49.setTop (mkF m 40 #[.val (.int p1), .val (.int p2), .val (.ref a_FALSE), .val (.ref a_TRUE), .val (.ref a_FALSE), .val (.int (0 : Int32))] []))
      refine Go.step (fun t_ k_ => XS.iconst X49.here hx rfl (hb hby at_40) k_) ?_
      show Go p e below _ (T49.setTop (mkF m 41 #[.val (.int p1), .val (.int p2), .val (.ref a_FALSE), .val (.ref a_TRUE), .val (.ref a_FALSE), .val (.int (0 : Int32))] [(.int (1 : Int32))]))
      refine Go.step (fun t_ k_ => XS.goto X49.here hx rfl (pc0 := 41) (pc' := 45) rfl (hb hby at_41) (by decide) (by decide) k_) ?_
      show Go p e below _ (T49.setTop (mkF m 45 #[.val (.int p1), .val (.int p2), .val (.ref a_FALSE), .val (.ref a_TRUE), .val (.ref a_FALSE), .val (.int (0 : Int32))] [(.int (1 : Int32))]))
      refine Go.retZ X49 hx (t := .boolean) Bd.returns (by simp) Bd.notSynchronized (hb hby at_45) (by rw [e49]; exact ⟨rfl, N49⟩) (by decide) (by decide)
    next =>
      refine Go.step (fun t_ k_ => XS.iloadN X0.here hx rfl (hb hby at_0) rfl k_) ?_
      show Go p e below _ (s₁.setTop (mkF m 1 #[.val (.int p1), .val (.int p2), .unset, .unset, .unset, .unset] [(.int p1)]))
      obtain ⟨_, _, ⟨T50, L50, k50, n50⟩, -, X50, ⟨Lc50, hQ50, l50, y50, z50⟩, st50⟩ := Jvm.LawKit.callS X0 hx (y := (⟨"com/example/wacl/wacl/core/TruthAndPinLaw", "pick", "(I)Lcom/example/wacl/wacl/core/Condition$Truth;"⟩ : MethodName)) hown (mvT hZ (hw _ (List.mem_of_getElem? (i := 0) rfl))) (mvT hZ (hw _ (List.mem_of_getElem? (i := 1) rfl))) (mvT hZ (hw _ (List.mem_of_getElem? (i := 2) rfl))) (mvT hZ (hw _ (List.mem_of_getElem? (i := 3) rfl))) (by decide) (backOf (W := 0) (rm1 l Z a0 hw [] a_TRUE a_UNDETERMINED a_FALSE HW p1 (2 : Int32) a_FALSE h0 n0 Ol hk_p1 (by simp)) hZ (hw _ (List.mem_of_getElem? (i := 3) rfl)) (hw _ (List.mem_of_getElem? (i := 2) rfl)) (by decide) (by decide)) (g := (mkF m 1 #[.val (.int p1), .val (.int p2), .unset, .unset, .unset, .unset] [(.int p1)])) rfl (by rw [hml]; rfl) (argsL := [(.int p1)]) (rest := []) (lenOf pd_0 rfl) rfl (by show 2 * 0 + _ ≤ _; exact Nat.le_of_eq rfl) (hb hby at_1) (fun _ _ => ⟨rfl, e0, (by decide : 0 + 0 ≤ _), (by decide : 0 + 0 ≤ _)⟩)
      dsimp only [Pt.U, Pt.locs, Pt.cells, Pt.slots] at X50 l50 y50 z50 st50 hQ50
      subst l50 y50 z50
      obtain ⟨rfl, Nq50, e50⟩ := hQ50
      have N50 := Fr.app N0 Nq50
      refine Go.step st50 ?_
      show Go p e below _ (T50.setTop (mkF m 4 #[.val (.int p1), .val (.int p2), .unset, .unset, .unset, .unset] [(.ref a_FALSE)]))
      refine Go.step (fun t_ k_ => XS.astoreN X50.here hx rfl (hb hby at_4) rfl rfl (l' := #[.val (.int p1), .val (.int p2), .val (.ref a_FALSE), .unset, .unset, .unset]) rfl k_) ?_
      show Go p e below _ (T50.setTop (mkF m 5 #[.val (.int p1), .val (.int p2), .val (.ref a_FALSE), .unset, .unset, .unset] []))
      refine Go.step (fun t_ k_ => XS.iloadN X50.here hx rfl (hb hby at_5) rfl k_) ?_
      show Go p e below _ (T50.setTop (mkF m 6 #[.val (.int p1), .val (.int p2), .val (.ref a_FALSE), .unset, .unset, .unset] [(.int p2)]))
      obtain ⟨_, _, ⟨T51, L51, k51, n51⟩, -, X51, ⟨Lc51, hQ51, l51, y51, z51⟩, st51⟩ := Jvm.LawKit.callS X50 hx (y := (⟨"com/example/wacl/wacl/core/TruthAndPinLaw", "pick", "(I)Lcom/example/wacl/wacl/core/Condition$Truth;"⟩ : MethodName)) hown (mvT hZ (hw _ (List.mem_of_getElem? (i := 0) rfl))) (mvT hZ (hw _ (List.mem_of_getElem? (i := 1) rfl))) (mvT hZ (hw _ (List.mem_of_getElem? (i := 2) rfl))) (mvT hZ (hw _ (List.mem_of_getElem? (i := 3) rfl))) (by decide) (backOf (W := 0) (rm1 l Z a0 hw [] a_TRUE a_UNDETERMINED a_FALSE HW p2 (1 : Int32) a_UNDETERMINED h0 n0 Ol hk_p2 (by simp)) hZ (hw _ (List.mem_of_getElem? (i := 3) rfl)) (hw _ (List.mem_of_getElem? (i := 2) rfl)) (by decide) (by decide)) (g := (mkF m 6 #[.val (.int p1), .val (.int p2), .val (.ref a_FALSE), .unset, .unset, .unset] [(.int p2)])) rfl (by rw [hml]; rfl) (argsL := [(.int p2)]) (rest := []) (lenOf pd_0 rfl) rfl (by show 2 * 0 + _ ≤ _; exact Nat.le_of_eq rfl) (hb hby at_6) (fun _ _ => ⟨rfl, e50, (by decide : 0 + 0 ≤ _), (by decide : 0 + 0 ≤ _)⟩)
      dsimp only [Pt.U, Pt.locs, Pt.cells, Pt.slots] at X51 l51 y51 z51 st51 hQ51
      subst l51 y51 z51
      obtain ⟨rfl, Nq51, e51⟩ := hQ51
      have N51 := Fr.app N50 Nq51
      refine Go.step st51 ?_
      show Go p e below _ (T51.setTop (mkF m 9 #[.val (.int p1), .val (.int p2), .val (.ref a_FALSE), .unset, .unset, .unset] [(.ref a_UNDETERMINED)]))
      refine Go.step (fun t_ k_ => XS.astoreN X51.here hx rfl (hb hby at_9) rfl rfl (l' := #[.val (.int p1), .val (.int p2), .val (.ref a_FALSE), .val (.ref a_UNDETERMINED), .unset, .unset]) rfl k_) ?_
      show Go p e below _ (T51.setTop (mkF m 10 #[.val (.int p1), .val (.int p2), .val (.ref a_FALSE), .val (.ref a_UNDETERMINED), .unset, .unset] []))
      refine Go.step (fun t_ k_ => XS.aloadN X51.here hx rfl (hb hby at_10) rfl rfl k_) ?_
      show Go p e below _ (T51.setTop (mkF m 11 #[.val (.int p1), .val (.int p2), .val (.ref a_FALSE), .val (.ref a_UNDETERMINED), .unset, .unset] [(.ref a_FALSE)]))
      refine Go.step (fun t_ k_ => XS.aloadN X51.here hx rfl (hb hby at_11) rfl rfl k_) ?_
      show Go p e below _ (T51.setTop (mkF m 12 #[.val (.int p1), .val (.int p2), .val (.ref a_FALSE), .val (.ref a_UNDETERMINED), .unset, .unset] [(.ref a_UNDETERMINED), (.ref a_FALSE)]))
      obtain ⟨cq52, kq52, q52a, q52b, q52c⟩ := isOf hZ e51 (E_FALSE.ext Ol.2)
      obtain ⟨_, _, ⟨T52, L52, k52, n52⟩, -, X52, ⟨Lc52, hQ52, l52, y52, z52⟩, st52⟩ := X51.virtualBack hx (y := (⟨"com/example/wacl/wacl/core/Condition$Truth", "and", "(Lcom/example/wacl/wacl/core/Condition$Truth;)Lcom/example/wacl/wacl/core/Condition$Truth;"⟩ : MethodName)) (z := (⟨"com/example/wacl/wacl/core/Condition$Truth", "and", "(Lcom/example/wacl/wacl/core/Condition$Truth;)Lcom/example/wacl/wacl/core/Condition$Truth;"⟩ : MethodName)) hown (mvT hZ (hw _ (List.mem_of_getElem? (i := 8) rfl))) (mvT hZ (hw _ (List.mem_of_getElem? (i := 9) rfl))) (notFace_of_selects (args := #[]) (mvT hZ (hw _ (List.mem_of_getElem? (i := 11) rfl)))) (mvT hZ (hw _ (List.mem_of_getElem? (i := 11) rfl))) (mvT hZ (hw _ (List.mem_of_getElem? (i := 10) rfl))) (by decide) (backOf (W := 0) (rm2 l Z a0 hw [] a_TRUE a_UNDETERMINED a_FALSE HW a_FALSE a_UNDETERMINED a_FALSE h0 n0 Ol (by simp [(Fld.ne F_TRUE_ordinal F_UNDETERMINED_ordinal (by simp)), (Ne.symm (Fld.ne F_TRUE_ordinal F_UNDETERMINED_ordinal (by simp))), (Fld.ne F_TRUE_ordinal F_FALSE_ordinal (by simp)), (Ne.symm (Fld.ne F_TRUE_ordinal F_FALSE_ordinal (by simp))), (Fld.ne F_UNDETERMINED_ordinal F_FALSE_ordinal (by simp)), (Ne.symm (Fld.ne F_UNDETERMINED_ordinal F_FALSE_ordinal (by simp)))])) hZ (hw _ (List.mem_of_getElem? (i := 12) rfl)) (hw _ (List.mem_of_getElem? (i := 6) rfl)) (by decide) (by decide)) q52a q52c (g := (mkF m 12 #[.val (.int p1), .val (.int p2), .val (.ref a_FALSE), .val (.ref a_UNDETERMINED), .unset, .unset] [(.ref a_UNDETERMINED), (.ref a_FALSE)])) rfl (by rw [hml]; rfl) (Steps.refl _) (argsL := [(.ref a_UNDETERMINED)]) (rest := []) (lenOf pd_1 rfl) rfl (by show 2 * 0 + _ ≤ _; exact Nat.le_of_eq rfl) (hb hby at_12) (fun _ _ => ⟨rfl, e51, (by decide : 0 + 0 ≤ _), (by decide : 0 + 0 ≤ _)⟩)
      dsimp only [Pt.U, Pt.locs, Pt.cells, Pt.slots] at X52 l52 y52 z52 st52 hQ52
      subst l52 y52 z52
      obtain ⟨rfl, Nq52, e52⟩ := hQ52
      have N52 := Fr.app N51 Nq52
      refine Go.step (fun t_ k_ => st52.trans k_) ?_
      show Go p e below _ (T52.setTop (mkF m 15 #[.val (.int p1), .val (.int p2), .val (.ref a_FALSE), .val (.ref a_UNDETERMINED), .unset, .unset] [(.ref a_FALSE)]))
      refine Go.step (fun t_ k_ => XS.astore X52.here hx rfl (hb hby at_15) rfl rfl (l' := #[.val (.int p1), .val (.int p2), .val (.ref a_FALSE), .val (.ref a_UNDETERMINED), .val (.ref a_FALSE), .unset]) rfl k_) ?_
      show Go p e below _ (T52.setTop (mkF m 17 #[.val (.int p1), .val (.int p2), .val (.ref a_FALSE), .val (.ref a_UNDETERMINED), .val (.ref a_FALSE), .unset] []))
      refine Go.step (fun t_ k_ => XS.aloadN X52.here hx rfl (hb hby at_17) rfl rfl k_) ?_
      show Go p e below _ (T52.setTop (mkF m 18 #[.val (.int p1), .val (.int p2), .val (.ref a_FALSE), .val (.ref a_UNDETERMINED), .val (.ref a_FALSE), .unset] [(.ref a_FALSE)]))
      obtain ⟨_, _, ⟨T53, L53, k53, n53⟩, -, X53, ⟨Lc53, hQ53, l53, y53, z53⟩, st53⟩ := Jvm.LawKit.callS X52 hx (y := (⟨"com/example/wacl/wacl/core/TruthAndPinLaw", "rank", "(Lcom/example/wacl/wacl/core/Condition$Truth;)I"⟩ : MethodName)) hown (mvT hZ (hw _ (List.mem_of_getElem? (i := 18) rfl))) (mvT hZ (hw _ (List.mem_of_getElem? (i := 19) rfl))) (mvT hZ (hw _ (List.mem_of_getElem? (i := 2) rfl))) (mvT hZ (hw _ (List.mem_of_getElem? (i := 20) rfl))) (by decide) (backOf (W := 0) (rm3 l Z a0 hw [] a_TRUE a_UNDETERMINED a_FALSE HW a_FALSE (0 : Int32) h0 n0 Ol (by simp [(Fld.ne F_TRUE_ordinal F_UNDETERMINED_ordinal (by simp)), (Ne.symm (Fld.ne F_TRUE_ordinal F_UNDETERMINED_ordinal (by simp))), (Fld.ne F_TRUE_ordinal F_FALSE_ordinal (by simp)), (Ne.symm (Fld.ne F_TRUE_ordinal F_FALSE_ordinal (by simp))), (Fld.ne F_UNDETERMINED_ordinal F_FALSE_ordinal (by simp)), (Ne.symm (Fld.ne F_UNDETERMINED_ordinal F_FALSE_ordinal (by simp)))])) hZ (hw _ (List.mem_of_getElem? (i := 20) rfl)) (hw _ (List.mem_of_getElem? (i := 2) rfl)) (by decide) (by decide)) (g := (mkF m 18 #[.val (.int p1), .val (.int p2), .val (.ref a_FALSE), .val (.ref a_UNDETERMINED), .val (.ref a_FALSE), .unset] [(.ref a_FALSE)])) rfl (by rw [hml]; rfl) (argsL := [(.ref a_FALSE)]) (rest := []) (lenOf pd_2 rfl) rfl (by show 2 * 0 + _ ≤ _; exact Nat.le_of_eq rfl) (hb hby at_18) (fun _ _ => ⟨rfl, e52, (by decide : 0 + 0 ≤ _), (by decide : 0 + 0 ≤ _)⟩)
      dsimp only [Pt.U, Pt.locs, Pt.cells, Pt.slots] at X53 l53 y53 z53 st53 hQ53
      subst l53 y53 z53
      obtain ⟨rfl, Nq53, e53⟩ := hQ53
      have N53 := Fr.app N52 Nq53
      refine Go.step st53 ?_
      show Go p e below _ (T53.setTop (mkF m 21 #[.val (.int p1), .val (.int p2), .val (.ref a_FALSE), .val (.ref a_UNDETERMINED), .val (.ref a_FALSE), .unset] [(.int (0 : Int32))]))
      refine Go.step (fun t_ k_ => XS.aloadN X53.here hx rfl (hb hby at_21) rfl rfl k_) ?_
      show Go p e below _ (T53.setTop (mkF m 22 #[.val (.int p1), .val (.int p2), .val (.ref a_FALSE), .val (.ref a_UNDETERMINED), .val (.ref a_FALSE), .unset] [(.ref a_UNDETERMINED), (.int (0 : Int32))]))
      obtain ⟨_, _, ⟨T54, L54, k54, n54⟩, -, X54, ⟨Lc54, hQ54, l54, y54, z54⟩, st54⟩ := Jvm.LawKit.callS X53 hx (y := (⟨"com/example/wacl/wacl/core/TruthAndPinLaw", "rank", "(Lcom/example/wacl/wacl/core/Condition$Truth;)I"⟩ : MethodName)) hown (mvT hZ (hw _ (List.mem_of_getElem? (i := 18) rfl))) (mvT hZ (hw _ (List.mem_of_getElem? (i := 19) rfl))) (mvT hZ (hw _ (List.mem_of_getElem? (i := 2) rfl))) (mvT hZ (hw _ (List.mem_of_getElem? (i := 20) rfl))) (by decide) (backOf (W := 1) (rm3 l Z a0 hw [] a_TRUE a_UNDETERMINED a_FALSE HW a_UNDETERMINED (1 : Int32) h0 n0 Ol (by simp [(Fld.ne F_TRUE_ordinal F_UNDETERMINED_ordinal (by simp)), (Ne.symm (Fld.ne F_TRUE_ordinal F_UNDETERMINED_ordinal (by simp))), (Fld.ne F_TRUE_ordinal F_FALSE_ordinal (by simp)), (Ne.symm (Fld.ne F_TRUE_ordinal F_FALSE_ordinal (by simp))), (Fld.ne F_UNDETERMINED_ordinal F_FALSE_ordinal (by simp)), (Ne.symm (Fld.ne F_UNDETERMINED_ordinal F_FALSE_ordinal (by simp)))])) hZ (hw _ (List.mem_of_getElem? (i := 20) rfl)) (hw _ (List.mem_of_getElem? (i := 2) rfl)) (by decide) (by decide)) (g := (mkF m 22 #[.val (.int p1), .val (.int p2), .val (.ref a_FALSE), .val (.ref a_UNDETERMINED), .val (.ref a_FALSE), .unset] [(.ref a_UNDETERMINED), (.int (0 : Int32))])) rfl (by rw [hml]; rfl) (argsL := [(.ref a_UNDETERMINED)]) (rest := [(.int (0 : Int32))]) (lenOf pd_2 rfl) rfl (by show 2 * 0 + _ ≤ _; exact Nat.le_of_eq rfl) (hb hby at_22) (fun _ _ => ⟨rfl, e53, (by decide : 0 + 0 ≤ _), (by decide : 0 + 0 ≤ _)⟩)
      dsimp only [Pt.U, Pt.locs, Pt.cells, Pt.slots] at X54 l54 y54 z54 st54 hQ54
      subst l54 y54 z54
      obtain ⟨rfl, Nq54, e54⟩ := hQ54
      have N54 := Fr.app N53 Nq54
      refine Go.step st54 ?_
      show Go p e below _ (T54.setTop (mkF m 25 #[.val (.int p1), .val (.int p2), .val (.ref a_FALSE), .val (.ref a_UNDETERMINED), .val (.ref a_FALSE), .unset] [(.int (1 : Int32)), (.int (0 : Int32))]))
      obtain ⟨_, _, ⟨T55, L55, k55, n55⟩, -, X55, ⟨Lc55, hQ55, l55, y55, z55⟩, st55⟩ := Jvm.LawKit.callS X54 hx (y := (⟨"java/lang/Math", "min", "(II)I"⟩ : MethodName)) hown (mvT hZ (hw _ (List.mem_of_getElem? (i := 21) rfl))) (mvT hZ (hw _ (List.mem_of_getElem? (i := 22) rfl))) (mvT hZ (hw _ (List.mem_of_getElem? (i := 23) rfl))) (mvT hZ (hw _ (List.mem_of_getElem? (i := 24) rfl))) (by decide) (backOf (W := 0) (rm4 l Z a0 hw [] a_TRUE a_UNDETERMINED a_FALSE HW (0 : Int32) (1 : Int32) (0 : Int32) h0 n0 Ol (by decide)) hZ (hw _ (List.mem_of_getElem? (i := 24) rfl)) (hw _ (List.mem_of_getElem? (i := 23) rfl)) (by decide) (by decide)) (g := (mkF m 25 #[.val (.int p1), .val (.int p2), .val (.ref a_FALSE), .val (.ref a_UNDETERMINED), .val (.ref a_FALSE), .unset] [(.int (1 : Int32)), (.int (0 : Int32))])) rfl (by rw [hml]; rfl) (argsL := [(.int (0 : Int32)), (.int (1 : Int32))]) (rest := []) (lenOf pd_3 rfl) rfl (by show 2 * 0 + _ ≤ _; exact Nat.le_of_eq rfl) (hb hby at_25) (fun _ _ => ⟨rfl, e54, (by decide : 0 + 0 ≤ _), (by decide : 0 + 0 ≤ _)⟩)
      dsimp only [Pt.U, Pt.locs, Pt.cells, Pt.slots] at X55 l55 y55 z55 st55 hQ55
      subst l55 y55 z55
      obtain ⟨rfl, Nq55, e55⟩ := hQ55
      have N55 := Fr.app N54 Nq55
      refine Go.step st55 ?_
      show Go p e below _ (T55.setTop (mkF m 28 #[.val (.int p1), .val (.int p2), .val (.ref a_FALSE), .val (.ref a_UNDETERMINED), .val (.ref a_FALSE), .unset] [(.int (0 : Int32))]))
      refine Go.step (fun t_ k_ => XS.istore X55.here hx rfl (hb hby at_28) rfl (l' := #[.val (.int p1), .val (.int p2), .val (.ref a_FALSE), .val (.ref a_UNDETERMINED), .val (.ref a_FALSE), .val (.int (0 : Int32))]) rfl k_) ?_
      show Go p e below _ (T55.setTop (mkF m 30 #[.val (.int p1), .val (.int p2), .val (.ref a_FALSE), .val (.ref a_UNDETERMINED), .val (.ref a_FALSE), .val (.int (0 : Int32))] []))
      refine Go.step (fun t_ k_ => XS.aload X55.here hx rfl (hb hby at_30) rfl rfl k_) ?_
      show Go p e below _ (T55.setTop (mkF m 32 #[.val (.int p1), .val (.int p2), .val (.ref a_FALSE), .val (.ref a_UNDETERMINED), .val (.ref a_FALSE), .val (.int (0 : Int32))] [(.ref a_FALSE)]))
      obtain ⟨_, _, ⟨T56, L56, k56, n56⟩, -, X56, ⟨Lc56, hQ56, l56, y56, z56⟩, st56⟩ := Jvm.LawKit.callS X55 hx (y := (⟨"com/example/wacl/wacl/core/TruthAndPinLaw", "rank", "(Lcom/example/wacl/wacl/core/Condition$Truth;)I"⟩ : MethodName)) hown (mvT hZ (hw _ (List.mem_of_getElem? (i := 18) rfl))) (mvT hZ (hw _ (List.mem_of_getElem? (i := 19) rfl))) (mvT hZ (hw _ (List.mem_of_getElem? (i := 2) rfl))) (mvT hZ (hw _ (List.mem_of_getElem? (i := 20) rfl))) (by decide) (backOf (W := 0) (rm3 l Z a0 hw [] a_TRUE a_UNDETERMINED a_FALSE HW a_FALSE (0 : Int32) h0 n0 Ol (by simp [(Fld.ne F_TRUE_ordinal F_UNDETERMINED_ordinal (by simp)), (Ne.symm (Fld.ne F_TRUE_ordinal F_UNDETERMINED_ordinal (by simp))), (Fld.ne F_TRUE_ordinal F_FALSE_ordinal (by simp)), (Ne.symm (Fld.ne F_TRUE_ordinal F_FALSE_ordinal (by simp))), (Fld.ne F_UNDETERMINED_ordinal F_FALSE_ordinal (by simp)), (Ne.symm (Fld.ne F_UNDETERMINED_ordinal F_FALSE_ordinal (by simp)))])) hZ (hw _ (List.mem_of_getElem? (i := 20) rfl)) (hw _ (List.mem_of_getElem? (i := 2) rfl)) (by decide) (by decide)) (g := (mkF m 32 #[.val (.int p1), .val (.int p2), .val (.ref a_FALSE), .val (.ref a_UNDETERMINED), .val (.ref a_FALSE), .val (.int (0 : Int32))] [(.ref a_FALSE)])) rfl (by rw [hml]; rfl) (argsL := [(.ref a_FALSE)]) (rest := []) (lenOf pd_2 rfl) rfl (by show 2 * 0 + _ ≤ _; exact Nat.le_of_eq rfl) (hb hby at_32) (fun _ _ => ⟨rfl, e55, (by decide : 0 + 0 ≤ _), (by decide : 0 + 0 ≤ _)⟩)
      dsimp only [Pt.U, Pt.locs, Pt.cells, Pt.slots] at X56 l56 y56 z56 st56 hQ56
      subst l56 y56 z56
      obtain ⟨rfl, Nq56, e56⟩ := hQ56
      have N56 := Fr.app N55 Nq56
      refine Go.step st56 ?_
      show Go p e below _ (T56.setTop (mkF m 35 #[.val (.int p1), .val (.int p2), .val (.ref a_FALSE), .val (.ref a_UNDETERMINED), .val (.ref a_FALSE), .val (.int (0 : Int32))] [(.int (0 : Int32))]))
      refine Go.step (fun t_ k_ => XS.iload X56.here hx rfl (hb hby at_35) rfl k_) ?_
      show Go p e below _ (T56.setTop (mkF m 37 #[.val (.int p1), .val (.int p2), .val (.ref a_FALSE), .val (.ref a_UNDETERMINED), .val (.ref a_FALSE), .val (.int (0 : Int32))] [(.int (0 : Int32)), (.int (0 : Int32))]))
      have hc37 : (0 : Int32) = (0 : Int32) := by decide
      refine Go.step (fun t_ k_ => XS.icmpNo X56.here hx rfl (hb hby at_37) rfl (teq hc37).2 k_) ?_
      show Go p e below _ (T56.setTop (mkF m 40 #[.val (.int p1), .val (.int p2), .val (.ref a_FALSE), .val (.ref a_UNDETERMINED), .val (.ref a_FALSE), .val (.int (0 : Int32))] []))
      refine Go.step (fun t_ k_ => XS.iconst X56.here hx rfl (hb hby at_40) k_) ?_
      show Go p e below _ (T56.setTop (mkF m 41 #[.val (.int p1), .val (.int p2), .val (.ref a_FALSE), .val (.ref a_UNDETERMINED), .val (.ref a_FALSE), .val (.int (0 : Int32))] [(.int (1 : Int32))]))
      refine Go.step (fun t_ k_ => XS.goto X56.here hx rfl (pc0 := 41) (pc' := 45) rfl (hb hby at_41) (by decide) (by decide) k_) ?_
      show Go p e below _ (T56.setTop (mkF m 45 #[.val (.int p1), .val (.int p2), .val (.ref a_FALSE), .val (.ref a_UNDETERMINED), .val (.ref a_FALSE), .val (.int (0 : Int32))] [(.int (1 : Int32))]))
      refine Go.retZ X56 hx (t := .boolean) Bd.returns (by simp) Bd.notSynchronized (hb hby at_45) (by rw [e56]; exact ⟨rfl, N56⟩) (by decide) (by decide)
    next =>
      refine Go.step (fun t_ k_ => XS.iloadN X0.here hx rfl (hb hby at_0) rfl k_) ?_
      show Go p e below _ (s₁.setTop (mkF m 1 #[.val (.int p1), .val (.int p2), .unset, .unset, .unset, .unset] [(.int p1)]))
      obtain ⟨_, _, ⟨T57, L57, k57, n57⟩, -, X57, ⟨Lc57, hQ57, l57, y57, z57⟩, st57⟩ := Jvm.LawKit.callS X0 hx (y := (⟨"com/example/wacl/wacl/core/TruthAndPinLaw", "pick", "(I)Lcom/example/wacl/wacl/core/Condition$Truth;"⟩ : MethodName)) hown (mvT hZ (hw _ (List.mem_of_getElem? (i := 0) rfl))) (mvT hZ (hw _ (List.mem_of_getElem? (i := 1) rfl))) (mvT hZ (hw _ (List.mem_of_getElem? (i := 2) rfl))) (mvT hZ (hw _ (List.mem_of_getElem? (i := 3) rfl))) (by decide) (backOf (W := 0) (rm1 l Z a0 hw [] a_TRUE a_UNDETERMINED a_FALSE HW p1 (2 : Int32) a_FALSE h0 n0 Ol hk_p1 (by simp)) hZ (hw _ (List.mem_of_getElem? (i := 3) rfl)) (hw _ (List.mem_of_getElem? (i := 2) rfl)) (by decide) (by decide)) (g := (mkF m 1 #[.val (.int p1), .val (.int p2), .unset, .unset, .unset, .unset] [(.int p1)])) rfl (by rw [hml]; rfl) (argsL := [(.int p1)]) (rest := []) (lenOf pd_0 rfl) rfl (by show 2 * 0 + _ ≤ _; exact Nat.le_of_eq rfl) (hb hby at_1) (fun _ _ => ⟨rfl, e0, (by decide : 0 + 0 ≤ _), (by decide : 0 + 0 ≤ _)⟩)
      dsimp only [Pt.U, Pt.locs, Pt.cells, Pt.slots] at X57 l57 y57 z57 st57 hQ57
      subst l57 y57 z57
      obtain ⟨rfl, Nq57, e57⟩ := hQ57
      have N57 := Fr.app N0 Nq57
      refine Go.step st57 ?_
      show Go p e below _ (T57.setTop (mkF m 4 #[.val (.int p1), .val (.int p2), .unset, .unset, .unset, .unset] [(.ref a_FALSE)]))
      refine Go.step (fun t_ k_ => XS.astoreN X57.here hx rfl (hb hby at_4) rfl rfl (l' := #[.val (.int p1), .val (.int p2), .val (.ref a_FALSE), .unset, .unset, .unset]) rfl k_) ?_
      show Go p e below _ (T57.setTop (mkF m 5 #[.val (.int p1), .val (.int p2), .val (.ref a_FALSE), .unset, .unset, .unset] []))
      refine Go.step (fun t_ k_ => XS.iloadN X57.here hx rfl (hb hby at_5) rfl k_) ?_
      show Go p e below _ (T57.setTop (mkF m 6 #[.val (.int p1), .val (.int p2), .val (.ref a_FALSE), .unset, .unset, .unset] [(.int p2)]))
      obtain ⟨_, _, ⟨T58, L58, k58, n58⟩, -, X58, ⟨Lc58, hQ58, l58, y58, z58⟩, st58⟩ := Jvm.LawKit.callS X57 hx (y := (⟨"com/example/wacl/wacl/core/TruthAndPinLaw", "pick", "(I)Lcom/example/wacl/wacl/core/Condition$Truth;"⟩ : MethodName)) hown (mvT hZ (hw _ (List.mem_of_getElem? (i := 0) rfl))) (mvT hZ (hw _ (List.mem_of_getElem? (i := 1) rfl))) (mvT hZ (hw _ (List.mem_of_getElem? (i := 2) rfl))) (mvT hZ (hw _ (List.mem_of_getElem? (i := 3) rfl))) (by decide) (backOf (W := 0) (rm1 l Z a0 hw [] a_TRUE a_UNDETERMINED a_FALSE HW p2 (2 : Int32) a_FALSE h0 n0 Ol hk_p2 (by simp)) hZ (hw _ (List.mem_of_getElem? (i := 3) rfl)) (hw _ (List.mem_of_getElem? (i := 2) rfl)) (by decide) (by decide)) (g := (mkF m 6 #[.val (.int p1), .val (.int p2), .val (.ref a_FALSE), .unset, .unset, .unset] [(.int p2)])) rfl (by rw [hml]; rfl) (argsL := [(.int p2)]) (rest := []) (lenOf pd_0 rfl) rfl (by show 2 * 0 + _ ≤ _; exact Nat.le_of_eq rfl) (hb hby at_6) (fun _ _ => ⟨rfl, e57, (by decide : 0 + 0 ≤ _), (by decide : 0 + 0 ≤ _)⟩)
      dsimp only [Pt.U, Pt.locs, Pt.cells, Pt.slots] at X58 l58 y58 z58 st58 hQ58
      subst l58 y58 z58
      obtain ⟨rfl, Nq58, e58⟩ := hQ58
      have N58 := Fr.app N57 Nq58
      refine Go.step st58 ?_
      show Go p e below _ (T58.setTop (mkF m 9 #[.val (.int p1), .val (.int p2), .val (.ref a_FALSE), .unset, .unset, .unset] [(.ref a_FALSE)]))
      refine Go.step (fun t_ k_ => XS.astoreN X58.here hx rfl (hb hby at_9) rfl rfl (l' := #[.val (.int p1), .val (.int p2), .val (.ref a_FALSE), .val (.ref a_FALSE), .unset, .unset]) rfl k_) ?_
      show Go p e below _ (T58.setTop (mkF m 10 #[.val (.int p1), .val (.int p2), .val (.ref a_FALSE), .val (.ref a_FALSE), .unset, .unset] []))
      refine Go.step (fun t_ k_ => XS.aloadN X58.here hx rfl (hb hby at_10) rfl rfl k_) ?_
      show Go p e below _ (T58.setTop (mkF m 11 #[.val (.int p1), .val (.int p2), .val (.ref a_FALSE), .val (.ref a_FALSE), .unset, .unset] [(.ref a_FALSE)]))
      refine Go.step (fun t_ k_ => XS.aloadN X58.here hx rfl (hb hby at_11) rfl rfl k_) ?_
      show Go p e below _ (T58.setTop (mkF m 12 #[.val (.int p1), .val (.int p2), .val (.ref a_FALSE), .val (.ref a_FALSE), .unset, .unset] [(.ref a_FALSE), (.ref a_FALSE)]))
      obtain ⟨cq59, kq59, q59a, q59b, q59c⟩ := isOf hZ e58 (E_FALSE.ext Ol.2)
      obtain ⟨_, _, ⟨T59, L59, k59, n59⟩, -, X59, ⟨Lc59, hQ59, l59, y59, z59⟩, st59⟩ := X58.virtualBack hx (y := (⟨"com/example/wacl/wacl/core/Condition$Truth", "and", "(Lcom/example/wacl/wacl/core/Condition$Truth;)Lcom/example/wacl/wacl/core/Condition$Truth;"⟩ : MethodName)) (z := (⟨"com/example/wacl/wacl/core/Condition$Truth", "and", "(Lcom/example/wacl/wacl/core/Condition$Truth;)Lcom/example/wacl/wacl/core/Condition$Truth;"⟩ : MethodName)) hown (mvT hZ (hw _ (List.mem_of_getElem? (i := 8) rfl))) (mvT hZ (hw _ (List.mem_of_getElem? (i := 9) rfl))) (notFace_of_selects (args := #[]) (mvT hZ (hw _ (List.mem_of_getElem? (i := 11) rfl)))) (mvT hZ (hw _ (List.mem_of_getElem? (i := 11) rfl))) (mvT hZ (hw _ (List.mem_of_getElem? (i := 10) rfl))) (by decide) (backOf (W := 0) (rm2 l Z a0 hw [] a_TRUE a_UNDETERMINED a_FALSE HW a_FALSE a_FALSE a_FALSE h0 n0 Ol (by simp [(Fld.ne F_TRUE_ordinal F_UNDETERMINED_ordinal (by simp)), (Ne.symm (Fld.ne F_TRUE_ordinal F_UNDETERMINED_ordinal (by simp))), (Fld.ne F_TRUE_ordinal F_FALSE_ordinal (by simp)), (Ne.symm (Fld.ne F_TRUE_ordinal F_FALSE_ordinal (by simp))), (Fld.ne F_UNDETERMINED_ordinal F_FALSE_ordinal (by simp)), (Ne.symm (Fld.ne F_UNDETERMINED_ordinal F_FALSE_ordinal (by simp)))])) hZ (hw _ (List.mem_of_getElem? (i := 12) rfl)) (hw _ (List.mem_of_getElem? (i := 6) rfl)) (by decide) (by decide)) q59a q59c (g := (mkF m 12 #[.val (.int p1), .val (.int p2), .val (.ref a_FALSE), .val (.ref a_FALSE), .unset, .unset] [(.ref a_FALSE), (.ref a_FALSE)])) rfl (by rw [hml]; rfl) (Steps.refl _) (argsL := [(.ref a_FALSE)]) (rest := []) (lenOf pd_1 rfl) rfl (by show 2 * 0 + _ ≤ _; exact Nat.le_of_eq rfl) (hb hby at_12) (fun _ _ => ⟨rfl, e58, (by decide : 0 + 0 ≤ _), (by decide : 0 + 0 ≤ _)⟩)
      dsimp only [Pt.U, Pt.locs, Pt.cells, Pt.slots] at X59 l59 y59 z59 st59 hQ59
      subst l59 y59 z59
      obtain ⟨rfl, Nq59, e59⟩ := hQ59
      have N59 := Fr.app N58 Nq59
      refine Go.step (fun t_ k_ => st59.trans k_) ?_
      show Go p e below _ (T59.setTop (mkF m 15 #[.val (.int p1), .val (.int p2), .val (.ref a_FALSE), .val (.ref a_FALSE), .unset, .unset] [(.ref a_FALSE)]))
      refine Go.step (fun t_ k_ => XS.astore X59.here hx rfl (hb hby at_15) rfl rfl (l' := #[.val (.int p1), .val (.int p2), .val (.ref a_FALSE), .val (.ref a_FALSE), .val (.ref a_FALSE), .unset]) rfl k_) ?_
      show Go p e below _ (T59.setTop (mkF m 17 #[.val (.int p1), .val (.int p2), .val (.ref a_FALSE), .val (.ref a_FALSE), .val (.ref a_FALSE), .unset] []))
      refine Go.step (fun t_ k_ => XS.aloadN X59.here hx rfl (hb hby at_17) rfl rfl k_) ?_
      show Go p e below _ (T59.setTop (mkF m 18 #[.val (.int p1), .val (.int p2), .val (.ref a_FALSE), .val (.ref a_FALSE), .val (.ref a_FALSE), .unset] [(.ref a_FALSE)]))
      obtain ⟨_, _, ⟨T60, L60, k60, n60⟩, -, X60, ⟨Lc60, hQ60, l60, y60, z60⟩, st60⟩ := Jvm.LawKit.callS X59 hx (y := (⟨"com/example/wacl/wacl/core/TruthAndPinLaw", "rank", "(Lcom/example/wacl/wacl/core/Condition$Truth;)I"⟩ : MethodName)) hown (mvT hZ (hw _ (List.mem_of_getElem? (i := 18) rfl))) (mvT hZ (hw _ (List.mem_of_getElem? (i := 19) rfl))) (mvT hZ (hw _ (List.mem_of_getElem? (i := 2) rfl))) (mvT hZ (hw _ (List.mem_of_getElem? (i := 20) rfl))) (by decide) (backOf (W := 0) (rm3 l Z a0 hw [] a_TRUE a_UNDETERMINED a_FALSE HW a_FALSE (0 : Int32) h0 n0 Ol (by simp [(Fld.ne F_TRUE_ordinal F_UNDETERMINED_ordinal (by simp)), (Ne.symm (Fld.ne F_TRUE_ordinal F_UNDETERMINED_ordinal (by simp))), (Fld.ne F_TRUE_ordinal F_FALSE_ordinal (by simp)), (Ne.symm (Fld.ne F_TRUE_ordinal F_FALSE_ordinal (by simp))), (Fld.ne F_UNDETERMINED_ordinal F_FALSE_ordinal (by simp)), (Ne.symm (Fld.ne F_UNDETERMINED_ordinal F_FALSE_ordinal (by simp)))])) hZ (hw _ (List.mem_of_getElem? (i := 20) rfl)) (hw _ (List.mem_of_getElem? (i := 2) rfl)) (by decide) (by decide)) (g := (mkF m 18 #[.val (.int p1), .val (.int p2), .val (.ref a_FALSE), .val (.ref a_FALSE), .val (.ref a_FALSE), .unset] [(.ref a_FALSE)])) rfl (by rw [hml]; rfl) (argsL := [(.ref a_FALSE)]) (rest := []) (lenOf pd_2 rfl) rfl (by show 2 * 0 + _ ≤ _; exact Nat.le_of_eq rfl) (hb hby at_18) (fun _ _ => ⟨rfl, e59, (by decide : 0 + 0 ≤ _), (by decide : 0 + 0 ≤ _)⟩)
      dsimp only [Pt.U, Pt.locs, Pt.cells, Pt.slots] at X60 l60 y60 z60 st60 hQ60
      subst l60 y60 z60
      obtain ⟨rfl, Nq60, e60⟩ := hQ60
      have N60 := Fr.app N59 Nq60
      refine Go.step st60 ?_
      show Go p e below _ (T60.setTop (mkF m 21 #[.val (.int p1), .val (.int p2), .val (.ref a_FALSE), .val (.ref a_FALSE), .val (.ref a_FALSE), .unset] [(.int (0 : Int32))]))
      refine Go.step (fun t_ k_ => XS.aloadN X60.here hx rfl (hb hby at_21) rfl rfl k_) ?_
      show Go p e below _ (T60.setTop (mkF m 22 #[.val (.int p1), .val (.int p2), .val (.ref a_FALSE), .val (.ref a_FALSE), .val (.ref a_FALSE), .unset] [(.ref a_FALSE), (.int (0 : Int32))]))
      obtain ⟨_, _, ⟨T61, L61, k61, n61⟩, -, X61, ⟨Lc61, hQ61, l61, y61, z61⟩, st61⟩ := Jvm.LawKit.callS X60 hx (y := (⟨"com/example/wacl/wacl/core/TruthAndPinLaw", "rank", "(Lcom/example/wacl/wacl/core/Condition$Truth;)I"⟩ : MethodName)) hown (mvT hZ (hw _ (List.mem_of_getElem? (i := 18) rfl))) (mvT hZ (hw _ (List.mem_of_getElem? (i := 19) rfl))) (mvT hZ (hw _ (List.mem_of_getElem? (i := 2) rfl))) (mvT hZ (hw _ (List.mem_of_getElem? (i := 20) rfl))) (by decide) (backOf (W := 1) (rm3 l Z a0 hw [] a_TRUE a_UNDETERMINED a_FALSE HW a_FALSE (0 : Int32) h0 n0 Ol (by simp [(Fld.ne F_TRUE_ordinal F_UNDETERMINED_ordinal (by simp)), (Ne.symm (Fld.ne F_TRUE_ordinal F_UNDETERMINED_ordinal (by simp))), (Fld.ne F_TRUE_ordinal F_FALSE_ordinal (by simp)), (Ne.symm (Fld.ne F_TRUE_ordinal F_FALSE_ordinal (by simp))), (Fld.ne F_UNDETERMINED_ordinal F_FALSE_ordinal (by simp)), (Ne.symm (Fld.ne F_UNDETERMINED_ordinal F_FALSE_ordinal (by simp)))])) hZ (hw _ (List.mem_of_getElem? (i := 20) rfl)) (hw _ (List.mem_of_getElem? (i := 2) rfl)) (by decide) (by decide)) (g := (mkF m 22 #[.val (.int p1), .val (.int p2), .val (.ref a_FALSE), .val (.ref a_FALSE), .val (.ref a_FALSE), .unset] [(.ref a_FALSE), (.int (0 : Int32))])) rfl (by rw [hml]; rfl) (argsL := [(.ref a_FALSE)]) (rest := [(.int (0 : Int32))]) (lenOf pd_2 rfl) rfl (by show 2 * 0 + _ ≤ _; exact Nat.le_of_eq rfl) (hb hby at_22) (fun _ _ => ⟨rfl, e60, (by decide : 0 + 0 ≤ _), (by decide : 0 + 0 ≤ _)⟩)
      dsimp only [Pt.U, Pt.locs, Pt.cells, Pt.slots] at X61 l61 y61 z61 st61 hQ61
      subst l61 y61 z61
      obtain ⟨rfl, Nq61, e61⟩ := hQ61
      have N61 := Fr.app N60 Nq61
      refine Go.step st61 ?_
      show Go p e below _ (T61.setTop (mkF m 25 #[.val (.int p1), .val (.int p2), .val (.ref a_FALSE), .val (.ref a_FALSE), .val (.ref a_FALSE), .unset] [(.int (0 : Int32)), (.int (0 : Int32))]))
      obtain ⟨_, _, ⟨T62, L62, k62, n62⟩, -, X62, ⟨Lc62, hQ62, l62, y62, z62⟩, st62⟩ := Jvm.LawKit.callS X61 hx (y := (⟨"java/lang/Math", "min", "(II)I"⟩ : MethodName)) hown (mvT hZ (hw _ (List.mem_of_getElem? (i := 21) rfl))) (mvT hZ (hw _ (List.mem_of_getElem? (i := 22) rfl))) (mvT hZ (hw _ (List.mem_of_getElem? (i := 23) rfl))) (mvT hZ (hw _ (List.mem_of_getElem? (i := 24) rfl))) (by decide) (backOf (W := 0) (rm4 l Z a0 hw [] a_TRUE a_UNDETERMINED a_FALSE HW (0 : Int32) (0 : Int32) (0 : Int32) h0 n0 Ol (by decide)) hZ (hw _ (List.mem_of_getElem? (i := 24) rfl)) (hw _ (List.mem_of_getElem? (i := 23) rfl)) (by decide) (by decide)) (g := (mkF m 25 #[.val (.int p1), .val (.int p2), .val (.ref a_FALSE), .val (.ref a_FALSE), .val (.ref a_FALSE), .unset] [(.int (0 : Int32)), (.int (0 : Int32))])) rfl (by rw [hml]; rfl) (argsL := [(.int (0 : Int32)), (.int (0 : Int32))]) (rest := []) (lenOf pd_3 rfl) rfl (by show 2 * 0 + _ ≤ _; exact Nat.le_of_eq rfl) (hb hby at_25) (fun _ _ => ⟨rfl, e61, (by decide : 0 + 0 ≤ _), (by decide : 0 + 0 ≤ _)⟩)
      dsimp only [Pt.U, Pt.locs, Pt.cells, Pt.slots] at X62 l62 y62 z62 st62 hQ62
      subst l62 y62 z62
      obtain ⟨rfl, Nq62, e62⟩ := hQ62
      have N62 := Fr.app N61 Nq62
      refine Go.step st62 ?_
      show Go p e below _ (T62.setTop (mkF m 28 #[.val (.int p1), .val (.int p2), .val (.ref a_FALSE), .val (.ref a_FALSE), .val (.ref a_FALSE), .unset] [(.int (0 : Int32))]))
      refine Go.step (fun t_ k_ => XS.istore X62.here hx rfl (hb hby at_28) rfl (l' := #[.val (.int p1), .val (.int p2), .val (.ref a_FALSE), .val (.ref a_FALSE), .val (.ref a_FALSE), .val (.int (0 : Int32))]) rfl k_) ?_
      show Go p e below _ (T62.setTop (mkF m 30 #[.val (.int p1), .val (.int p2), .val (.ref a_FALSE), .val (.ref a_FALSE), .val (.ref a_FALSE), .val (.int (0 : Int32))] []))
      refine Go.step (fun t_ k_ => XS.aload X62.here hx rfl (hb hby at_30) rfl rfl k_) ?_
      show Go p e below _ (T62.setTop (mkF m 32 #[.val (.int p1), .val (.int p2), .val (.ref a_FALSE), .val (.ref a_FALSE), .val (.ref a_FALSE), .val (.int (0 : Int32))] [(.ref a_FALSE)]))
      obtain ⟨_, _, ⟨T63, L63, k63, n63⟩, -, X63, ⟨Lc63, hQ63, l63, y63, z63⟩, st63⟩ := Jvm.LawKit.callS X62 hx (y := (⟨"com/example/wacl/wacl/core/TruthAndPinLaw", "rank", "(Lcom/example/wacl/wacl/core/Condition$Truth;)I"⟩ : MethodName)) hown (mvT hZ (hw _ (List.mem_of_getElem? (i := 18) rfl))) (mvT hZ (hw _ (List.mem_of_getElem? (i := 19) rfl))) (mvT hZ (hw _ (List.mem_of_getElem? (i := 2) rfl))) (mvT hZ (hw _ (List.mem_of_getElem? (i := 20) rfl))) (by decide) (backOf (W := 0) (rm3 l Z a0 hw [] a_TRUE a_UNDETERMINED a_FALSE HW a_FALSE (0 : Int32) h0 n0 Ol (by simp [(Fld.ne F_TRUE_ordinal F_UNDETERMINED_ordinal (by simp)), (Ne.symm (Fld.ne F_TRUE_ordinal F_UNDETERMINED_ordinal (by simp))), (Fld.ne F_TRUE_ordinal F_FALSE_ordinal (by simp)), (Ne.symm (Fld.ne F_TRUE_ordinal F_FALSE_ordinal (by simp))), (Fld.ne F_UNDETERMINED_ordinal F_FALSE_ordinal (by simp)), (Ne.symm (Fld.ne F_UNDETERMINED_ordinal F_FALSE_ordinal (by simp)))])) hZ (hw _ (List.mem_of_getElem? (i := 20) rfl)) (hw _ (List.mem_of_getElem? (i := 2) rfl)) (by decide) (by decide)) (g := (mkF m 32 #[.val (.int p1), .val (.int p2), .val (.ref a_FALSE), .val (.ref a_FALSE), .val (.ref a_FALSE), .val (.int (0 : Int32))] [(.ref a_FALSE)])) rfl (by rw [hml]; rfl) (argsL := [(.ref a_FALSE)]) (rest := []) (lenOf pd_2 rfl) rfl (by show 2 * 0 + _ ≤ _; exact Nat.le_of_eq rfl) (hb hby at_32) (fun _ _ => ⟨rfl, e62, (by decide : 0 + 0 ≤ _), (by decide : 0 + 0 ≤ _)⟩)
      dsimp only [Pt.U, Pt.locs, Pt.cells, Pt.slots] at X63 l63 y63 z63 st63 hQ63
      subst l63 y63 z63
      obtain ⟨rfl, Nq63, e63⟩ := hQ63
      have N63 := Fr.app N62 Nq63
      refine Go.step st63 ?_
      show Go p e below _ (T63.setTop (mkF m 35 #[.val (.int p1), .val (.int p2), .val (.ref a_FALSE), .val (.ref a_FALSE), .val (.ref a_FALSE), .val (.int (0 : Int32))] [(.int (0 : Int32))]))
      refine Go.step (fun t_ k_ => XS.iload X63.here hx rfl (hb hby at_35) rfl k_) ?_
      show Go p e below _ (T63.setTop (mkF m 37 #[.val (.int p1), .val (.int p2), .val (.ref a_FALSE), .val (.ref a_FALSE), .val (.ref a_FALSE), .val (.int (0 : Int32))] [(.int (0 : Int32)), (.int (0 : Int32))]))
      have hc37 : (0 : Int32) = (0 : Int32) := by decide
      refine Go.step (fun t_ k_ => XS.icmpNo X63.here hx rfl (hb hby at_37) rfl (teq hc37).2 k_) ?_
      show Go p e below _ (T63.setTop (mkF m 40 #[.val (.int p1), .val (.int p2), .val (.ref a_FALSE), .val (.ref a_FALSE), .val (.ref a_FALSE), .val (.int (0 : Int32))] []))
      refine Go.step (fun t_ k_ => XS.iconst X63.here hx rfl (hb hby at_40) k_) ?_
      show Go p e below _ (T63.setTop (mkF m 41 #[.val (.int p1), .val (.int p2), .val (.ref a_FALSE), .val (.ref a_FALSE), .val (.ref a_FALSE), .val (.int (0 : Int32))] [(.int (1 : Int32))]))
      refine Go.step (fun t_ k_ => XS.goto X63.here hx rfl (pc0 := 41) (pc' := 45) rfl (hb hby at_41) (by decide) (by decide) k_) ?_
      show Go p e below _ (T63.setTop (mkF m 45 #[.val (.int p1), .val (.int p2), .val (.ref a_FALSE), .val (.ref a_FALSE), .val (.ref a_FALSE), .val (.int (0 : Int32))] [(.int (1 : Int32))]))
      refine Go.retZ X63 hx (t := .boolean) Bd.returns (by simp) Bd.notSynchronized (hb hby at_45) (by rw [e63]; exact ⟨rfl, N63⟩) (by decide) (by decide)
set_option maxRecDepth 65536 in
set_option maxHeartbeats 40000000 in
theorem comes_1 {Post : Tables → Env → Array Value → State → Outcome → State → Prop} (hpost : ∀ tb e args s v u, (limb_1_1.after args s (.returned v) u = true ∧ limb_1_2.after args s (.returned v) u = true ∧ True) → FrameEnd s (.returned v) u (Jvm.fieldLocs frame_1_writes args s ++ Jvm.arrayLocs frame_1_arrays args s ++ Jvm.staticLocs frame_1_statics s) 0 0 → Post tb e args s (.returned v) u) :
    ArmFor flags0 classFile x code maxLocals ret World_1 tables_1 room_1 Calls_1 rest_1 Pre_1 Post := by
  intro l hfl _ _ p e ha hc hk s m args below hf hA hF happ hP
  obtain ⟨hcalls, hrest, hpre⟩ := hP
  obtain ⟨-, -, -, hnamed, -, -, -, hat⟩ := (Spec.applies_iff hf).mp happ
  obtain ⟨hg, hn⟩ := and_e (Cond.before_iff.mp (show (Jvm.Cond.and given_1 narrow_1).before args s = true from hpre))
  obtain ⟨hgl, hgr⟩ := and_e hg
  obtain ⟨hgrl, hgrr⟩ := and_e hgr
  obtain ⟨w0, w1, rfl⟩ : ∃ w0 w1 : Value, args = #[w0, w1] := by
    have hs : args.size = 2 := by simpa [Cond.value, given_1] using hgl
    obtain ⟨L⟩ := args
    match L, hs with
    | [w0, w1], _ => exact ⟨w0, w1, rfl⟩
  have hw := fun d (hd : d ∈ tables_1) => atoms_spec (ws := Jvm.Cond.code x code maxLocals ret :: tables_1) hat d (List.mem_cons_of_mem _ hd)
  have hfit : Fit s := fun {y c} hc i hi => by
    obtain ⟨ha, rfl⟩ := Array.getElem?_eq_some_iff.mp hc
    have q := List.all_eq_true.mp ((Array.all_eq_true_iff_forall_mem.mp hF) _ (Array.getElem_mem ha)) i (List.mem_range.mpr hi)
    simpa [Array.getElem?_eq_getElem hi] using q
  obtain ⟨i0, ei0⟩ := is_v hgrl
  obtain rfl : w0 = (.int i0) := Option.some.inj ei0
  obtain ⟨i1, ei1⟩ := is_v hgrr
  obtain rfl : w1 = (.int i1) := Option.some.inj ei1
  obtain ⟨hnl, hnr⟩ := and_e hn
  obtain ⟨hnrl, hnrr⟩ := and_e hnr
  obtain ⟨hnrrl, hnrrr⟩ := and_e hnrr
  obtain ⟨hnrrrl, hnrrrr⟩ := and_e hnrrr
  obtain ⟨hnrrrrl, hnrrrrr⟩ := and_e hnrrrr
  obtain ⟨a_TRUE, ev_TRUE⟩ := exa_v hnl
  obtain ⟨a_UNDETERMINED, ev_UNDETERMINED⟩ := exa_v hnrl
  obtain ⟨a_FALSE, ev_FALSE⟩ := exa_v hnrrl
  have HW : Wd s a_TRUE a_UNDETERMINED a_FALSE := ⟨Sta.start ev_TRUE (Or.inr ⟨(hw _ (List.mem_of_getElem? (i := 6) rfl)), (hw _ (List.mem_of_getElem? (i := 7) rfl))⟩), Exa.start ev_TRUE hnl, Sta.start ev_UNDETERMINED (Or.inr ⟨(hw _ (List.mem_of_getElem? (i := 6) rfl)), (hw _ (List.mem_of_getElem? (i := 14) rfl))⟩), Exa.start ev_UNDETERMINED hnrl, Sta.start ev_FALSE (Or.inr ⟨(hw _ (List.mem_of_getElem? (i := 6) rfl)), (hw _ (List.mem_of_getElem? (i := 16) rfl))⟩), Exa.start ev_FALSE hnrrl, Fld.start ((fld_at ev_TRUE).symm.trans (eq_int hnrrrl)), Fld.start ((fld_at ev_FALSE).symm.trans (eq_int hnrrrrl)), Fld.start ((fld_at ev_UNDETERMINED).symm.trans (eq_int hnrrrrr))⟩
  obtain ⟨n, o, h1, h2, h3, _, L, rfl, ⟨rfl, N⟩, hq⟩ := rm0 l s _ hw tables_1 a_TRUE a_UNDETERMINED a_FALSE HW i0 i1 s.heap s.heap.size (Old.start s)  p e ha hc hk s m _ below hf ((Spec.applies_iff_loose hf).mp happ).1 ⟨rfl, State.Warmed39.refl s, rfl⟩ trivial
  refine ⟨n, _, h1, h2, h3, hpost _ _ _ _ _ _ ⟨Cond.after_iff.mpr rfl, Cond.after_iff.mpr (eq_i res_at (Term.int_eval (1)) rfl), trivial⟩ ⟨hq.1, hq.2.1, (hq.2.2.sift fun y hy => Or.inr (N y hy)).mono (by decide) (by decide)⟩⟩
theorem main_1_1 : Claimed_1_1 := comes_1 fun _ _ _ _ _ _ h hF => ⟨h.1, hF⟩
theorem main_1_2 : Claimed_1_2 := comes_1 fun _ _ _ _ _ _ h hF => ⟨h.2.1, hF⟩
end Jvm.Pilot.@@N@@
namespace Jvm.Pilot.@@N@@
open Jvm Jvm.ClassFile Sem Op Lib Jvm.Free Jvm.Stand Jvm.Pilot.@@N@@.Jvm.D
/-! MADE BY PROGRAM (witnessworld.py) out of the Statement's table words and the real class files: 11 classes; the members and pool entries that the words name. The judged class is class 1, her method 1. -/
namespace start1
open Jvm.ClassFile
def u (s : String) : CpInfo := .utf8 (stringToUtf16 s)
/-- a pool by its gaps: so many unusable entries, then the entry; so many at the end -/
def gap : Nat → List CpInfo → List CpInfo
  | 0, r => r
  | n + 1, r => .unusable :: gap n r
def poolList (es : List (Nat × CpInfo)) (last : Nat) : List CpInfo := es.foldr (fun e r => gap e.1 (e.2 :: r)) (gap last [])
def pool (es : List (Nat × CpInfo)) (last : Nat) : Array CpInfo := ⟨poolList es last⟩
def fileOf (pool : Array CpInfo) (this : Nat) (attrs : Array Attribute := #[]) (ms : Array MethodInfo := #[]) (fl : Nat := 33) (sup : Nat := 0) (ifs : Array Nat := #[]) (fds : Array FieldInfo := #[]) : ClassFile where
  minorVersion := 0
  majorVersion := 65
  constantPool := pool
  accessFlags := fl
  thisClass := this
  superClass := sup
  interfaces := ifs
  fields := fds
  methods := ms
  attributes := attrs
def plain (name : String) (sup : Option ClassId) : Class where
  name := name
  kind := .ordinary
  loader := none
  accessFlags := 33
  super := sup
  interfaces := #[]
  cf := none
  fields := #[]
  methods := #[]
  instanceTypes := #[]
  staticTypes := #[]
  resolved := #[]
  callSites := []
  init := .initialized
  statics := none
  mirror := none

def pool0 : Array CpInfo := pool [(5, u "<init>"), (0, u "()V"), (1, .class_ 10), (1, u "java/lang/Object")] 113

def k0m0 : Method := { name := "<init>", desc := "()V", sig := { parameters := [], returnType := none }, accessFlags := 1, code := none }
/-- java/lang/Object -/
def k0 : Class := { plain "java/lang/Object" none with
  accessFlags := 33
  interfaces := #[]
  cf := some (fileOf pool0 8 #[] #[{ accessFlags := 1, nameIndex := 5, descriptorIndex := 6, attributes := #[] }] 33 0 #[] #[])
  fields := #[]
  methods := #[k0m0]
  instanceTypes := #[]
  staticTypes := #[]
  resolved := Array.replicate 124 none
  statics := none }

def pool1 : Array CpInfo := pool [(2, .class_ 4), (1, u "java/lang/Object"), (0, u "<init>"), (0, u "()V"), (0, .methodref 8 9), (0, .class_ 10), (0, .nameAndType 11 12), (0, u "com/example/wacl/wacl/core/TruthAndPinLaw"), (0, u "pick"), (0, u "(I)Lcom/example/wacl/wacl/core/Condition$Truth;"), (0, .methodref 14 15), (0, .class_ 16), (0, .nameAndType 17 18), (0, u "com/example/wacl/wacl/core/Condition$Truth"), (0, u "and"), (0, u "(Lcom/example/wacl/wacl/core/Condition$Truth;)Lcom/example/wacl/wacl/core/Condition$Truth;"), (0, .methodref 8 20), (0, .nameAndType 21 22), (0, u "rank"), (0, u "(Lcom/example/wacl/wacl/core/Condition$Truth;)I"), (0, .methodref 24 25), (0, .class_ 26), (0, .nameAndType 27 28), (0, u "java/lang/Math"), (0, u "min"), (0, u "(II)I"), (0, .integer 2147483647), (0, .fieldref 14 31), (0, .nameAndType 32 33), (0, u "TRUE"), (0, u "Lcom/example/wacl/wacl/core/Condition$Truth;"), (0, .fieldref 14 35), (0, .nameAndType 36 33), (0, u "UNDETERMINED"), (0, .fieldref 14 38), (0, .nameAndType 39 33), (0, u "FALSE"), (2, u "law"), (0, u "(II)Z")] 7

def k1m0 : Method := { name := "<init>", desc := "()V", sig := { parameters := [], returnType := none }, accessFlags := 1, code := none }
def k1c1 : Code := { maxStack := 2, maxLocals := 6, code := code, exceptionTable := #[], attributes := #[] }
def k1m1 : Method := { name := "law", desc := "(II)Z", sig := { parameters := [.int, .int], returnType := some .boolean }, accessFlags := 9, code := some k1c1 }
def k1c2 : Code := { maxStack := 2, maxLocals := 2, code := method_3_code, exceptionTable := #[], attributes := #[] }
def k1m2 : Method := { name := "pick", desc := "(I)Lcom/example/wacl/wacl/core/Condition$Truth;", sig := { parameters := [.int], returnType := some (.object "com/example/wacl/wacl/core/Condition$Truth") }, accessFlags := 10, code := some k1c2 }
def k1c3 : Code := { maxStack := 2, maxLocals := 1, code := method_4_code, exceptionTable := #[], attributes := #[] }
def k1m3 : Method := { name := "rank", desc := "(Lcom/example/wacl/wacl/core/Condition$Truth;)I", sig := { parameters := [(.object "com/example/wacl/wacl/core/Condition$Truth")], returnType := some .int }, accessFlags := 10, code := some k1c3 }
/-- com/example/wacl/wacl/core/TruthAndPinLaw -/
def k1 : Class := { plain "com/example/wacl/wacl/core/TruthAndPinLaw" (some 0) with
  accessFlags := 49
  interfaces := #[]
  cf := some (fileOf pool1 8 #[] #[{ accessFlags := 1, nameIndex := 5, descriptorIndex := 6, attributes := #[] }, { accessFlags := 9, nameIndex := 42, descriptorIndex := 43, attributes := #[] }, { accessFlags := 10, nameIndex := 11, descriptorIndex := 12, attributes := #[] }, { accessFlags := 10, nameIndex := 21, descriptorIndex := 22, attributes := #[] }] 49 2 #[] #[])
  fields := #[]
  methods := #[k1m0, k1m1, k1m2, k1m3]
  instanceTypes := #[]
  staticTypes := #[]
  resolved := Array.replicate 51 none
  statics := none }

def pool2 : Array CpInfo := pool [(1, .class_ 2), (0, u "java/lang/constant/Constable"), (0, .class_ 4), (0, u "java/lang/Object")] 6

/-- java/lang/constant/Constable -/
def k2 : Class := { plain "java/lang/constant/Constable" (some 0) with
  accessFlags := 1537
  interfaces := #[]
  cf := some (fileOf pool2 1 #[] #[] 1537 3 #[] #[])
  fields := #[]
  methods := #[]
  instanceTypes := #[]
  staticTypes := #[]
  resolved := Array.replicate 11 none
  statics := none }

def pool3 : Array CpInfo := pool [(1, .class_ 2), (0, u "java/lang/Comparable"), (0, .class_ 4), (0, u "java/lang/Object")] 7

/-- java/lang/Comparable -/
def k3 : Class := { plain "java/lang/Comparable" (some 0) with
  accessFlags := 1537
  interfaces := #[]
  cf := some (fileOf pool3 1 #[] #[] 1537 3 #[] #[])
  fields := #[]
  methods := #[]
  instanceTypes := #[]
  staticTypes := #[]
  resolved := Array.replicate 12 none
  statics := none }

def pool4 : Array CpInfo := pool [(1, .class_ 2), (0, u "java/io/Serializable"), (0, .class_ 4), (0, u "java/lang/Object")] 2

/-- java/io/Serializable -/
def k4 : Class := { plain "java/io/Serializable" (some 0) with
  accessFlags := 1537
  interfaces := #[]
  cf := some (fileOf pool4 1 #[] #[] 1537 3 #[] #[])
  fields := #[]
  methods := #[]
  instanceTypes := #[]
  staticTypes := #[]
  resolved := Array.replicate 7 none
  statics := none }

def pool5 : Array CpInfo := pool [(2, .class_ 4), (1, u "java/lang/Enum"), (0, u "name"), (0, u "Ljava/lang/String;"), (2, u "ordinal"), (0, u "I"), (1, .class_ 14), (1, u "java/lang/Object"), (4, u "hash"), (86, .class_ 108), (1, u "java/lang/Enum$EnumDesc"), (2, .class_ 112), (0, u "java/lang/constant/Constable"), (0, .class_ 114), (0, u "java/lang/Comparable"), (0, .class_ 116), (0, u "java/io/Serializable")] 87

/-- java/lang/Enum -/
def k5 : Class := { plain "java/lang/Enum" (some 0) with
  accessFlags := 1057
  interfaces := #[2, 3, 4]
  cf := some (fileOf pool5 2 #[.nestMembers #[106]] #[] 1057 12 #[111, 113, 115] #[{ accessFlags := 18, nameIndex := 5, descriptorIndex := 6, attributes := #[] }, { accessFlags := 18, nameIndex := 9, descriptorIndex := 10, attributes := #[] }, { accessFlags := 2, nameIndex := 19, descriptorIndex := 10, attributes := #[] }])
  fields := #[{ name := "name", type := (.object "java/lang/String"), accessFlags := 18, slot := 0, constantValue := 0 }, { name := "ordinal", type := .int, accessFlags := 18, slot := 1, constantValue := 0 }, { name := "hash", type := .int, accessFlags := 2, slot := 2, constantValue := 0 }]
  methods := #[]
  instanceTypes := #[(.object "java/lang/String"), .int, .int]
  staticTypes := #[]
  resolved := Array.replicate 204 none
  statics := none }

def pool6 : Array CpInfo := pool [(1, .class_ 2), (0, u "com/example/wacl/wacl/core/Condition$Truth"), (0, .fieldref 1 4), (0, .nameAndType 5 6), (0, u "TRUE"), (0, u "Lcom/example/wacl/wacl/core/Condition$Truth;"), (0, .fieldref 1 8), (0, .nameAndType 9 6), (0, u "FALSE"), (0, .fieldref 1 11), (0, .nameAndType 12 6), (0, u "UNDETERMINED"), (2, u "$VALUES"), (0, u "[Lcom/example/wacl/wacl/core/Condition$Truth;"), (6, .class_ 25), (1, u "java/lang/Enum"), (12, u "and"), (0, u "(Lcom/example/wacl/wacl/core/Condition$Truth;)Lcom/example/wacl/wacl/core/Condition$Truth;"), (24, .class_ 65), (0, u "com/example/wacl/wacl/core/Condition")] 2

def k6c0 : Code := { maxStack := 2, maxLocals := 3, code := prog_22_method_5_code, exceptionTable := #[], attributes := #[] }
def k6m0 : Method := { name := "and", desc := "(Lcom/example/wacl/wacl/core/Condition$Truth;)Lcom/example/wacl/wacl/core/Condition$Truth;", sig := { parameters := [(.object "com/example/wacl/wacl/core/Condition$Truth")], returnType := some (.object "com/example/wacl/wacl/core/Condition$Truth") }, accessFlags := 1, code := some k6c0 }
/-- com/example/wacl/wacl/core/Condition$Truth -/
def k6 : Class := { plain "com/example/wacl/wacl/core/Condition$Truth" (some 5) with
  accessFlags := 16433
  interfaces := #[]
  cf := some (fileOf pool6 1 #[.nestHost 64] #[{ accessFlags := 1, nameIndex := 38, descriptorIndex := 39, attributes := #[] }] 16433 23 #[] #[{ accessFlags := 16409, nameIndex := 5, descriptorIndex := 6, attributes := #[] }, { accessFlags := 16409, nameIndex := 9, descriptorIndex := 6, attributes := #[] }, { accessFlags := 16409, nameIndex := 12, descriptorIndex := 6, attributes := #[] }, { accessFlags := 4122, nameIndex := 15, descriptorIndex := 16, attributes := #[] }])
  fields := #[{ name := "TRUE", type := (.object "com/example/wacl/wacl/core/Condition$Truth"), accessFlags := 16409, slot := 0, constantValue := 0 }, { name := "FALSE", type := (.object "com/example/wacl/wacl/core/Condition$Truth"), accessFlags := 16409, slot := 1, constantValue := 0 }, { name := "UNDETERMINED", type := (.object "com/example/wacl/wacl/core/Condition$Truth"), accessFlags := 16409, slot := 2, constantValue := 0 }, { name := "$VALUES", type := (.array (.object "com/example/wacl/wacl/core/Condition$Truth")), accessFlags := 4122, slot := 3, constantValue := 0 }]
  methods := #[k6m0]
  instanceTypes := #[(.object "java/lang/String"), .int, .int]
  staticTypes := #[(.object "com/example/wacl/wacl/core/Condition$Truth"), (.object "com/example/wacl/wacl/core/Condition$Truth"), (.object "com/example/wacl/wacl/core/Condition$Truth"), (.array (.object "com/example/wacl/wacl/core/Condition$Truth"))]
  resolved := Array.replicate 68 none
  statics := some 0 }

def pool7 : Array CpInfo := pool [(1, .class_ 2), (0, u "java/lang/Math"), (1, .class_ 6), (1, u "java/lang/Object"), (0, u "<init>"), (0, u "()V"), (89, .class_ 100), (1, u "java/lang/Math$RandomNumberGeneratorHolder"), (71, u "negativeZeroFloatBits"), (0, u "J"), (2, u "negativeZeroDoubleBits"), (24, u "min"), (43, u "$assertionsDisabled"), (0, u "Z"), (88, u "(II)I"), (2, u "twoToTheDoubleScaleDown"), (0, u "D"), (4, u "twoToTheDoubleScaleUp"), (9, u "E"), (3, u "PI"), (2, u "TAU"), (2, u "DEGREES_TO_RADIANS"), (0, u "RADIANS_TO_DEGREES")] 94

def k7m0 : Method := { name := "<init>", desc := "()V", sig := { parameters := [], returnType := none }, accessFlags := 2, code := none }
def k7c1 : Code := { maxStack := 2, maxLocals := 2, code := jdk_29_method_69_code, exceptionTable := #[], attributes := #[] }
def k7m1 : Method := { name := "min", desc := "(II)I", sig := { parameters := [.int, .int], returnType := some .int }, accessFlags := 9, code := some k7c1 }
/-- java/lang/Math -/
def k7 : Class := { plain "java/lang/Math" (some 0) with
  accessFlags := 49
  interfaces := #[]
  cf := some (fileOf pool7 1 #[.nestMembers #[98]] #[{ accessFlags := 2, nameIndex := 7, descriptorIndex := 8, attributes := #[] }, { accessFlags := 9, nameIndex := 201, descriptorIndex := 335, attributes := #[] }] 49 4 #[] #[{ accessFlags := 25, nameIndex := 354, descriptorIndex := 339, attributes := #[] }, { accessFlags := 25, nameIndex := 358, descriptorIndex := 339, attributes := #[] }, { accessFlags := 25, nameIndex := 361, descriptorIndex := 339, attributes := #[] }, { accessFlags := 26, nameIndex := 364, descriptorIndex := 339, attributes := #[] }, { accessFlags := 26, nameIndex := 365, descriptorIndex := 339, attributes := #[] }, { accessFlags := 26, nameIndex := 172, descriptorIndex := 173, attributes := #[] }, { accessFlags := 26, nameIndex := 176, descriptorIndex := 173, attributes := #[] }, { accessFlags := 8, nameIndex := 344, descriptorIndex := 339, attributes := #[] }, { accessFlags := 8, nameIndex := 338, descriptorIndex := 339, attributes := #[] }, { accessFlags := 4120, nameIndex := 245, descriptorIndex := 246, attributes := #[] }])
  fields := #[{ name := "E", type := .double, accessFlags := 25, slot := 0, constantValue := 0 }, { name := "PI", type := .double, accessFlags := 25, slot := 1, constantValue := 0 }, { name := "TAU", type := .double, accessFlags := 25, slot := 2, constantValue := 0 }, { name := "DEGREES_TO_RADIANS", type := .double, accessFlags := 26, slot := 3, constantValue := 0 }, { name := "RADIANS_TO_DEGREES", type := .double, accessFlags := 26, slot := 4, constantValue := 0 }, { name := "negativeZeroFloatBits", type := .long, accessFlags := 26, slot := 5, constantValue := 0 }, { name := "negativeZeroDoubleBits", type := .long, accessFlags := 26, slot := 6, constantValue := 0 }, { name := "twoToTheDoubleScaleUp", type := .double, accessFlags := 8, slot := 7, constantValue := 0 }, { name := "twoToTheDoubleScaleDown", type := .double, accessFlags := 8, slot := 8, constantValue := 0 }, { name := "$assertionsDisabled", type := .boolean, accessFlags := 4120, slot := 9, constantValue := 0 }]
  methods := #[k7m0, k7m1]
  instanceTypes := #[]
  staticTypes := #[.double, .double, .double, .double, .double, .long, .long, .double, .double, .boolean]
  resolved := Array.replicate 460 none
  statics := none }

def pool8 : Array CpInfo := pool [(1, u "java/lang/Cloneable"), (0, .class_ 1), (0, u "java/lang/Object"), (0, .class_ 3)] 3

/-- java/lang/Cloneable -/
def k8 : Class := { plain "java/lang/Cloneable" (some 0) with
  accessFlags := 1537
  interfaces := #[]
  cf := some (fileOf pool8 2 #[] #[] 1537 4 #[] #[])
  fields := #[]
  methods := #[]
  instanceTypes := #[]
  staticTypes := #[]
  resolved := Array.replicate 8 none
  statics := none }

/-- the primitive byte -/
def k9 : Class := { plain "byte" none with kind := .primitive 'B', accessFlags := 0x411 }
/-- [B -/
def k10 : Class := { plain "[B" (some 0) with kind := .array 9 .byte, interfaces := #[8, 4], accessFlags := 1041 }

def heap : Heap := #[{ cls := 6, slots := #[.ref 1, .ref 3, .ref 2, .null], vm := .statics 6 },
  { cls := 6, slots := #[.null, .int 0, .int 0], vm := .none },
  { cls := 6, slots := #[.null, .int 2, .int 0], vm := .none },
  { cls := 6, slots := #[.null, .int 1, .int 0], vm := .none }]
def classes : Array Class := #[k0, k1, k2, k3, k4, k5, k6, k7, k8, k9, k10]
def interned : List (Array UInt16 × Addr) := []
def slotsUsed : Nat := 13
def theMethod : MethodId := ⟨1, 1⟩
def args0 : Array Value := #[.int 5, .int 6]
def aboutOver (below : List Frame) : State where
  vm := { classes := classes, interned := interned.toArray }
  heap := heap
  slotsUsed := slotsUsed
  threads := #[{ frames := .invoking theMethod args0 :: below }]
def below0 : List Frame := [.native { method := ⟨0, 0⟩, args := #[] }]
def about1 : State := aboutOver below0
def p0 : Program := .bare "" "" ""
def e0 : Env := launch0.env 0 0 0
theorem w_frames : about1.frames = Frame.invoking theMethod args0 :: below0 := rfl
set_option maxRecDepth 65536 in
theorem w_args : argsFit about1.vm theMethod args0 = true := by decide +kernel
set_option maxRecDepth 65536 in
theorem w_heap : heapFits about1 = true := by decide +kernel
set_option maxRecDepth 65536 in
theorem w_runnable : about1.curStatus? = some .runnable := by decide +kernel
set_option maxRecDepth 65536 in
theorem w_alone : about1.alone = true := by decide +kernel
set_option maxRecDepth 65536 in
theorem w_named : about1.methodNamed? x = some theMethod := by decide +kernel
set_option maxRecDepth 65536 in
theorem w_hears : about1.hears theMethod below0 = true := by decide +kernel
set_option maxRecDepth 65536 in
theorem w_ripe : about1.ripe theMethod args0 below0 = true := by decide +kernel
theorem w_running : about1.status = .running := rfl
set_option maxRecDepth 65536 in
theorem w_room : about1.hasRoom e0.platform room_1 = true :=
  launch0.hasRoom_least _ room_1 (by decide +kernel) (by decide +kernel) (by decide +kernel) (by decide +kernel) (by decide +kernel) (by decide +kernel)
theorem allAtoms_all (ts : List Jvm.Cond) (a : Array Jvm.Value) (st : Jvm.State) : (allAtoms ts).before a st = ts.all (fun c => c.before a st) := by
  induction ts with
  | nil => rfl
  | cons c t ih =>
    show (Jvm.Cond.and c (allAtoms t)).before a st = _
    rw [Jvm.Cond.before_and, ih, List.all_cons]
def words1 : List Jvm.Cond := Jvm.Cond.code x code maxLocals ret :: tables_1
/-- a 'code' word, met by the world's own term for the bytes: nothing is compared byte by byte -/
theorem code_word {y : MethodName} {bytes : ByteArray} {mx : Nat} {rt : Option FieldType} {a : Array Value} {s : State} {m : MethodId} {meth : Method} {c : Code} (h1 : s.methodNamed? y = some m) (h2 : s.vm.method? m = some meth) (h3 : meth.code = some c) (h4 : c.code = bytes)
    (h5 : (c.maxLocals == mx && c.exceptionTable.isEmpty && decide (c.maxStack ≤ mostOperands) && decide (meth.sig.returnType = rt) && !meth.locks && decide (parseMethodDescriptor y.desc = some meth.sig)) = true) : (Jvm.Cond.code y bytes mx rt).before a s = true := by
  simp only [Bool.and_eq_true, beq_iff_eq, Bool.not_eq_true', decide_eq_true_eq] at h5
  obtain ⟨⟨⟨⟨⟨g1, g2⟩, g3⟩, g4⟩, g5⟩, g6⟩ := h5
  simp [Cond.before, Cond.holds, Cond.value, h1, h2, h3, h4, g1, g2, g3, g4, g5, g6]
def isCode : Jvm.Cond → Bool
  | .code _ _ _ _ => true
  | _ => false
theorem all_split {L : List Jvm.Cond} {P : Jvm.Cond → Bool} (h1 : L.all (fun c => isCode c || P c) = true) (h2 : ∀ c ∈ L.filter isCode, P c = true) : L.all P = true := by
  refine List.all_eq_true.mpr fun c hc => ?_
  have h := List.all_eq_true.mp h1 c hc
  rcases Bool.eq_false_or_eq_true (isCode c) with hi | hi
  · exact h2 c (List.mem_filter.mpr ⟨hc, hi⟩)
  · simpa [hi] using h
set_option maxRecDepth 65536 in
theorem w_c0 : (Jvm.Cond.code x code maxLocals ret).before args0 about1 = true := code_word (m := ⟨1, 1⟩) (meth := k1m1) (c := k1c1) (by decide +kernel) rfl rfl rfl (by decide +kernel)
set_option maxRecDepth 65536 in
theorem w_c1 : (Jvm.Cond.code ({ cls := "com/example/wacl/wacl/core/TruthAndPinLaw", name := "pick", desc := "(I)Lcom/example/wacl/wacl/core/Condition$Truth;" } : Jvm.MethodName) method_3_code (2 : Nat) (Option.some (Jvm.ClassFile.FieldType.object "com/example/wacl/wacl/core/Condition$Truth"))).before args0 about1 = true := code_word (m := ⟨1, 2⟩) (meth := k1m2) (c := k1c2) (by decide +kernel) rfl rfl rfl (by decide +kernel)
set_option maxRecDepth 65536 in
theorem w_c2 : (Jvm.Cond.code ({ cls := "com/example/wacl/wacl/core/Condition$Truth", name := "and", desc := "(Lcom/example/wacl/wacl/core/Condition$Truth;)Lcom/example/wacl/wacl/core/Condition$Truth;" } : Jvm.MethodName) prog_22_method_5_code (3 : Nat) (Option.some (Jvm.ClassFile.FieldType.object "com/example/wacl/wacl/core/Condition$Truth"))).before args0 about1 = true := code_word (m := ⟨6, 0⟩) (meth := k6m0) (c := k6c0) (by decide +kernel) rfl rfl rfl (by decide +kernel)
set_option maxRecDepth 65536 in
theorem w_c3 : (Jvm.Cond.code ({ cls := "com/example/wacl/wacl/core/TruthAndPinLaw", name := "rank", desc := "(Lcom/example/wacl/wacl/core/Condition$Truth;)I" } : Jvm.MethodName) method_4_code (1 : Nat) (Option.some Jvm.ClassFile.FieldType.int)).before args0 about1 = true := code_word (m := ⟨1, 3⟩) (meth := k1m3) (c := k1c3) (by decide +kernel) rfl rfl rfl (by decide +kernel)
set_option maxRecDepth 65536 in
theorem w_c4 : (Jvm.Cond.code ({ cls := "java/lang/Math", name := "min", desc := "(II)I" } : Jvm.MethodName) jdk_29_method_69_code (2 : Nat) (Option.some Jvm.ClassFile.FieldType.int)).before args0 about1 = true := code_word (m := ⟨7, 1⟩) (meth := k7m1) (c := k7c1) (by decide +kernel) rfl rfl rfl (by decide +kernel)
def codes1 : List Jvm.Cond := [Jvm.Cond.code x code maxLocals ret, Jvm.Cond.code ({ cls := "com/example/wacl/wacl/core/TruthAndPinLaw", name := "pick", desc := "(I)Lcom/example/wacl/wacl/core/Condition$Truth;" } : Jvm.MethodName) method_3_code (2 : Nat) (Option.some (Jvm.ClassFile.FieldType.object "com/example/wacl/wacl/core/Condition$Truth")), Jvm.Cond.code ({ cls := "com/example/wacl/wacl/core/Condition$Truth", name := "and", desc := "(Lcom/example/wacl/wacl/core/Condition$Truth;)Lcom/example/wacl/wacl/core/Condition$Truth;" } : Jvm.MethodName) prog_22_method_5_code (3 : Nat) (Option.some (Jvm.ClassFile.FieldType.object "com/example/wacl/wacl/core/Condition$Truth")), Jvm.Cond.code ({ cls := "com/example/wacl/wacl/core/TruthAndPinLaw", name := "rank", desc := "(Lcom/example/wacl/wacl/core/Condition$Truth;)I" } : Jvm.MethodName) method_4_code (1 : Nat) (Option.some Jvm.ClassFile.FieldType.int), Jvm.Cond.code ({ cls := "java/lang/Math", name := "min", desc := "(II)I" } : Jvm.MethodName) jdk_29_method_69_code (2 : Nat) (Option.some Jvm.ClassFile.FieldType.int)]
set_option maxRecDepth 65536 in
theorem codes_eq : words1.filter isCode = codes1 := rfl
theorem w_codes : ∀ c ∈ words1.filter isCode, c.before args0 about1 = true := by
  rw [codes_eq]
  intro c hc
  simp only [codes1, List.mem_cons, List.not_mem_nil, or_false] at hc
  rcases hc with rfl | rfl | rfl | rfl | rfl
  · exact w_c0
  · exact w_c1
  · exact w_c2
  · exact w_c3
  · exact w_c4
set_option maxRecDepth 65536 in
theorem w_t1 : (words1.take 24).all (fun c => isCode c || c.before args0 about1) = true := by decide +kernel
set_option maxRecDepth 65536 in
theorem w_t2 : (words1.drop 24).all (fun c => isCode c || c.before args0 about1) = true := by decide +kernel
theorem w_tables : (allAtoms (Jvm.Cond.code x code maxLocals ret :: tables_1)).before args0 about1 = true := by
  rw [allAtoms_all]
  show words1.all (fun c => c.before args0 about1) = true
  refine all_split ?_ w_codes
  rw [← List.take_append_drop 24 words1, List.all_append, w_t1, w_t2]
  rfl
set_option maxRecDepth 65536 in
theorem w_case : (Jvm.Cond.and given_1 narrow_1).before args0 about1 = true := by decide +kernel
theorem w_applies : (headSpec (Jvm.Cond.code x code maxLocals ret :: tables_1) room_1).applies x e0.platform about1 = true :=
  (Spec.applies_iff w_frames).mpr ⟨w_running, w_runnable, w_alone, w_named, w_hears, w_ripe, w_room, w_tables⟩
theorem atStart : AtStart classFile x code maxLocals ret World_1 tables_1 room_1 Calls_1 rest_1 Pre_1 launch0 p0 e0 about1 theMethod args0 below0 :=
  ⟨lists_1, trivial, launch0.admits_env _ _ _, launch0.least_env, fairChoices_fair.cas, fairChoices_fair.clock, w_frames, w_args, w_heap, w_applies, trivial, trivial, w_case⟩
end start1
theorem witness_1 : WitnessClaimed_1 := ⟨start1.p0, start1.e0, start1.about1, start1.theMethod, start1.args0, start1.below0, start1.atStart⟩
end Jvm.Pilot.@@N@@
