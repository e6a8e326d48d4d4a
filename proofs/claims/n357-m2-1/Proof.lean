import JvmDerived
import JvmDerived.Pilot.@@N@@Statement
import JvmDerived.Pilot.@@N@@Code
set_option linter.unusedVariables false
set_option linter.unusedSimpArgs false
@@BLOCK:NumsL.lean.txt@@
namespace Jvm.RoadKit
open Sem ClassFile Op Lib Jvm.Stand Jvm.Free Jvm.LawKit
section New
variable {p : Program} {l : Launch} {e : Env} {R : Room} {s : State} {m : MethodId} {args : Array Value} {below : List Frame} {meth : Method} {c : Code} {T : State} {locs : List Loc} {cells slots : Nat}
theorem retI (X : Stand p l e R s m args below meth c T locs cells slots) (hx : p.tables.exec = Jvm.exec) {pc : Nat} {Ls : Array Slot} {z : Int32} {rest : List Value} (hret : meth.sig.returnType = some .int) (hd : decode c.code pc = .ok (.ireturn, 1)) {fs : List Frame}
    (hl : ∀ (f : JFrame) (acts : List Action), f.method = m → f.locked = none → f.entered = [] → (doReturn e (T.setTop f) acts (some (.int z))).1 = T.setFrames fs) : Steps p.tables e below (T.setTop (mkF m pc Ls (.int z :: rest))) (T.setFrames fs) := by
  have hm' : T.vm.method? m = some meth := X.method'
  have hn : narrow .int (.int z) = .int z := rfl
  show Steps p.tables e below (T.setTop { method := m, pc := pc, locals := Ls, stack := _ :: rest, locked := none }) _
  jvm_step X.here [X.here.top, hx, hd, hm', hret, hn]
  first | (intro acts; rw [hl _ acts rfl rfl rfl]) | rw [hl _ _ rfl rfl rfl]
  exact Steps.refl _
end New
end Jvm.RoadKit
namespace Jvm.Pilot.@@N@@
open Jvm Jvm.ClassFile Sem Op Lib Jvm.Free Jvm.Stand Jvm.LawKit Jvm.RoadKit Bundle Jvm.Pilot.@@N@@.Jvm.D
/-- what a walk comes to, said forward -/
def Go (p : Program) (e : Env) (below : List Frame) (R : State → Outcome → Prop) (A : State) : Prop := ∃ t o, Steps p.tables e below A t ∧ R t o
def Fin1 (s : State) (below : List Frame) (Q : Option Value → Heap → List Loc → Prop) (K N : Nat) (t : State) (o : Outcome) : Prop := t.status = .running ∧ Ended t below o ∧ ∃ v L, o = .returned v ∧ Q v t.heap L ∧ FrameEnd s o t L K N
theorem Go.step {p : Program} {e : Env} {below : List Frame} {R : State → Outcome → Prop} {A B : State} (k : ∀ t, Steps p.tables e below A t → Steps p.tables e below B t) (h : Go p e below R A) : Go p e below R B := by
  obtain ⟨t, o, h1, h2⟩ := h
  exact ⟨t, o, k t h1, h2⟩
section GoRet
variable {p : Program} {l : Launch} {e : Env} {R : Room} {s : State} {m : MethodId} {args : Array Value} {below : List Frame} {meth : Method} {c : Code} {T : State} {locs : List Loc} {cells slots : Nat} {Q : Option Value → Heap → List Loc → Prop} {K N pc : Nat} {Ls : Array Slot} {rest : List Value}
theorem Go.retZ (X : Stand p l e R s m args below meth c T locs cells slots) (hx : p.tables.exec = Jvm.exec) {z : Int32} {t : FieldType} (hret : meth.sig.returnType = some t) (ht : t = .boolean ∨ t = .byte ∨ t = .char ∨ t = .short) (hlk : meth.locks = false) (hd : decode c.code pc = .ok (.ireturn, 1)) (hq : Q (some (.int (nar t z))) T.heap locs) (hc : cells ≤ K) (hn : slots ≤ N) : Go p e below (Fin1 s below Q K N) (T.setTop (mkF m pc Ls (.int z :: rest))) := by
  obtain ⟨fs, hr, hrun, hended, hW, hsame⟩ := X.leave (v := some (.int (nar t z))) (fun h => by rw [hret] at h; cases h) hlk
  exact ⟨_, _, retN X hx hret ht hd hr, hrun, hended, _, _, rfl, hq, ⟨_, rfl⟩, hW, hsame.mono hc hn⟩
theorem Go.retI (X : Stand p l e R s m args below meth c T locs cells slots) (hx : p.tables.exec = Jvm.exec) {z : Int32} (hret : meth.sig.returnType = some .int) (hlk : meth.locks = false) (hd : decode c.code pc = .ok (.ireturn, 1)) (hq : Q (some (.int z)) T.heap locs) (hc : cells ≤ K) (hn : slots ≤ N) : Go p e below (Fin1 s below Q K N) (T.setTop (mkF m pc Ls (.int z :: rest))) := by
  obtain ⟨fs, hr, hrun, hended, hW, hsame⟩ := X.leave (v := some (.int z)) (fun h => by rw [hret] at h; cases h) hlk
  exact ⟨_, _, Jvm.RoadKit.retI X hx hret hd hr, hrun, hended, _, _, rfl, hq, ⟨_, rfl⟩, hW, hsame.mono hc hn⟩
theorem Go.retJ (X : Stand p l e R s m args below meth c T locs cells slots) (hx : p.tables.exec = Jvm.exec) {z : Int64} (hret : meth.sig.returnType = some .long) (hlk : meth.locks = false) (hd : decode c.code pc = .ok (.lreturn, 1)) (hq : Q (some (.long z)) T.heap locs) (hc : cells ≤ K) (hn : slots ≤ N) : Go p e below (Fin1 s below Q K N) (T.setTop (mkF m pc Ls (.long z :: rest))) := by
  obtain ⟨fs, hr, hrun, hended, hW, hsame⟩ := X.leave (v := some (.long z)) (fun h => by rw [hret] at h; cases h) hlk
  exact ⟨_, _, retOut X hx hret rfl (Or.inr (Or.inl ⟨rfl, rfl, _, rfl⟩)) hd hr, hrun, hended, _, _, rfl, hq, ⟨_, rfl⟩, hW, hsame.mono hc hn⟩
theorem Go.retR (X : Stand p l e R s m args below meth c T locs cells slots) (hx : p.tables.exec = Jvm.exec) {w : Value} {t : FieldType} (hret : meth.sig.returnType = some t) (ht : t.isReference = true) (hw : w.isRef = true) (hlk : meth.locks = false) (hd : decode c.code pc = .ok (.areturn, 1)) (hq : Q (some w) T.heap locs) (hc : cells ≤ K) (hn : slots ≤ N) : Go p e below (Fin1 s below Q K N) (T.setTop (mkF m pc Ls (w :: rest))) := by
  obtain ⟨fs, hr, hrun, hended, hW, hsame⟩ := X.leave (v := some w) (fun h => by rw [hret] at h; cases h) hlk
  have hnw : narrow t w = w := by rcases ref_cases hw with rfl | ⟨a, rfl⟩ <;> cases t <;> first | rfl | (cases ht)
  exact ⟨_, _, retOut X hx hret hnw (Or.inr (Or.inr (Or.inr (Or.inr ⟨rfl, ht, hw⟩)))) hd hr, hrun, hended, _, _, rfl, hq, ⟨_, rfl⟩, hW, hsame.mono hc hn⟩
theorem Go.retV (X : Stand p l e R s m args below meth c T locs cells slots) (hx : p.tables.exec = Jvm.exec) (hret : meth.sig.returnType = none) (hlk : meth.locks = false) (hd : decode c.code pc = .ok (.return_, 1)) (hq : Q none T.heap locs) (hc : cells ≤ K) (hn : slots ≤ N) : Go p e below (Fin1 s below Q K N) (T.setTop (mkF m pc Ls [])) := by
  obtain ⟨fs, hr, hrun, hended, hW, hsame⟩ := X.leave (v := none) (fun _ => rfl) hlk
  exact ⟨_, _, X.returnOut hx hret hd hr, hrun, hended, _, _, rfl, hq, ⟨_, rfl⟩, hW, hsame.mono hc hn⟩
end GoRet
def Fin2 (s : State) (below : List Frame) (Q : Option Value → Heap → List Loc → Prop) (K N : Nat) (t : State) (o : Outcome) : Prop := t.status = .running ∧ Ended t below o ∧ ∃ v L, o = .returned v ∧ Q v t.heap L ∧ ReturnedEndW s o t L K N
theorem wmono {s t : State} {o : Outcome} {L : List Loc} {k n k' n' : Nat} (h : ReturnedEndW s o t L k n) (h1 : k ≤ k') (h2 : n ≤ n') : ReturnedEndW s o t L k' n' := ⟨h.1, h.2.1, h.2.2.1, h.2.2.2.mono h1 h2⟩
section GoRetW
variable {p : Program} {l : Launch} {e : Env} {R : Room} {s : State} {vm0 : Vm} {m : MethodId} {args : Array Value} {below : List Frame} {meth : Method} {c : Code} {T : State} {locs : List Loc} {cells slots : Nat} {Q : Option Value → Heap → List Loc → Prop} {K N pc k0 : Nat} {Ls : Array Slot} {rest : List Value}
theorem GoW.retZ (X : Stand p l e R (s.setVm vm0) m args below meth c T locs cells slots) (hS : s.Since vm0 k0) (hk : k0 ≤ T.heap.size) (hx : p.tables.exec = Jvm.exec) {z : Int32} {t : FieldType} (hret : meth.sig.returnType = some t) (ht : t = .boolean ∨ t = .byte ∨ t = .char ∨ t = .short) (hlk : meth.locks = false) (hd : decode c.code pc = .ok (.ireturn, 1)) (hq : Q (some (.int (nar t z))) T.heap locs) (hc : cells ≤ K) (hn : slots ≤ N) : Go p e below (Fin2 s below Q K N) (T.setTop (mkF m pc Ls (.int z :: rest))) := by
  obtain ⟨fs, hr, hrun, hended, hW⟩ := X.leaveW hS hk (v := some (.int (nar t z))) (fun h => by rw [hret] at h; cases h) hlk
  exact ⟨_, _, retN X hx hret ht hd hr, hrun, hended, _, _, rfl, hq, wmono hW hc hn⟩
theorem GoW.retI (X : Stand p l e R (s.setVm vm0) m args below meth c T locs cells slots) (hS : s.Since vm0 k0) (hk : k0 ≤ T.heap.size) (hx : p.tables.exec = Jvm.exec) {z : Int32} (hret : meth.sig.returnType = some .int) (hlk : meth.locks = false) (hd : decode c.code pc = .ok (.ireturn, 1)) (hq : Q (some (.int z)) T.heap locs) (hc : cells ≤ K) (hn : slots ≤ N) : Go p e below (Fin2 s below Q K N) (T.setTop (mkF m pc Ls (.int z :: rest))) := by
  obtain ⟨fs, hr, hrun, hended, hW⟩ := X.leaveW hS hk (v := some (.int z)) (fun h => by rw [hret] at h; cases h) hlk
  exact ⟨_, _, Jvm.RoadKit.retI X hx hret hd hr, hrun, hended, _, _, rfl, hq, wmono hW hc hn⟩
theorem GoW.retR (X : Stand p l e R (s.setVm vm0) m args below meth c T locs cells slots) (hS : s.Since vm0 k0) (hk : k0 ≤ T.heap.size) (hx : p.tables.exec = Jvm.exec) {w : Value} {t : FieldType} (hret : meth.sig.returnType = some t) (ht : t.isReference = true) (hw : w.isRef = true) (hlk : meth.locks = false) (hd : decode c.code pc = .ok (.areturn, 1)) (hq : Q (some w) T.heap locs) (hc : cells ≤ K) (hn : slots ≤ N) : Go p e below (Fin2 s below Q K N) (T.setTop (mkF m pc Ls (w :: rest))) := by
  obtain ⟨fs, hr, hrun, hended, hW⟩ := X.leaveW hS hk (v := some w) (fun h => by rw [hret] at h; cases h) hlk
  have hnw : narrow t w = w := by rcases ref_cases hw with rfl | ⟨a, rfl⟩ <;> cases t <;> first | rfl | (cases ht)
  exact ⟨_, _, retOut X hx hret hnw (Or.inr (Or.inr (Or.inr (Or.inr ⟨rfl, ht, hw⟩)))) hd hr, hrun, hended, _, _, rfl, hq, wmono hW hc hn⟩
theorem GoW.retV (X : Stand p l e R (s.setVm vm0) m args below meth c T locs cells slots) (hS : s.Since vm0 k0) (hk : k0 ≤ T.heap.size) (hx : p.tables.exec = Jvm.exec) (hret : meth.sig.returnType = none) (hlk : meth.locks = false) (hd : decode c.code pc = .ok (.return_, 1)) (hq : Q none T.heap locs) (hc : cells ≤ K) (hn : slots ≤ N) : Go p e below (Fin2 s below Q K N) (T.setTop (mkF m pc Ls [])) := by
  obtain ⟨fs, hr, hrun, hended, hW⟩ := X.leaveW hS hk (v := none) (fun _ => rfl) hlk
  exact ⟨_, _, X.returnOut hx hret hd hr, hrun, hended, _, _, rfl, hq, wmono hW hc hn⟩
end GoRetW
theorem old_z0 {Z : State} {n0 : Nat} {h : Heap} (O : Old Z n0 h) : n0 ≤ h.size := O.1 ▸ O.2.1
theorem eq_long {args : Array Value} {s : State} {t : Term} {z : Int64} (h : (Jvm.Cond.eq t (.long z)).value args s none s [] = some true) : t.eval args s none [] s = some (.long z) := by
  simp only [Cond.value, Term.eval] at h
  cases e : t.eval args s none [] s with
  | none => simp [e] at h
  | some v => cases v <;> simp_all
theorem eq_int {args : Array Value} {s : State} {t : Term} {z : Int32} (h : (Jvm.Cond.eq t (.int z)).value args s none s [] = some true) : t.eval args s none [] s = some (.int z) := by
  simp only [Cond.value, Term.eval] at h
  cases e : t.eval args s none [] s with
  | none => simp [e] at h
  | some v => cases v <;> simp_all
def Wd (Z : State) (a_TRUE : Addr) (a_FALSE : Addr) (a_UNDETERMINED : Addr) : Prop := (Sta Z Z.heap "com/example/wacl/wacl/core/Condition$Truth" "TRUE" "Lcom/example/wacl/wacl/core/Condition$Truth;" (.ref a_TRUE)) ∧ (Exa Z Z.heap a_TRUE "com/example/wacl/wacl/core/Condition$Truth") ∧ (Sta Z Z.heap "com/example/wacl/wacl/core/Condition$Truth" "FALSE" "Lcom/example/wacl/wacl/core/Condition$Truth;" (.ref a_FALSE)) ∧ (Exa Z Z.heap a_FALSE "com/example/wacl/wacl/core/Condition$Truth") ∧ (Sta Z Z.heap "com/example/wacl/wacl/core/Condition$Truth" "UNDETERMINED" "Lcom/example/wacl/wacl/core/Condition$Truth;" (.ref a_UNDETERMINED)) ∧ (Exa Z Z.heap a_UNDETERMINED "com/example/wacl/wacl/core/Condition$Truth") ∧ (Fld Z Z.heap a_FALSE "java/lang/Enum" "ordinal" "I" (.int (1 : Int32))) ∧ (Fld Z Z.heap a_TRUE "java/lang/Enum" "ordinal" "I" (.int (0 : Int32))) ∧ (Fld Z Z.heap a_UNDETERMINED "java/lang/Enum" "ordinal" "I" (.int (2 : Int32)))
theorem i32_is {k : Int32} (z : Int32) (h : k.toInt = z.toInt) : k = z := Int32.toInt_inj.mp h
theorem rem_bd (x m : Int32) (hm : 0 < m.toInt) : 0 ≤ ((x &&& (2147483647 : Int32)) % m).toInt ∧ ((x &&& (2147483647 : Int32)) % m).toInt < m.toInt := by
  have e1 : (x &&& (2147483647 : Int32)).toInt = x.toInt % 2 ^ 31 := Jvm.Kit.i32_mask x 2147483647 (k := 31) (by decide) (by decide)
  have h0 : 0 ≤ (x &&& (2147483647 : Int32)).toInt := by rw [e1]; exact Int.emod_nonneg _ (by decide)
  rw [Jvm.Kit.i32_rem_nonneg h0]
  exact ⟨Int.emod_nonneg _ (by omega), Int.emod_lt_of_pos _ hm⟩
theorem cs3 {k : Int32} (h : 0 ≤ k.toInt ∧ k.toInt < 3) : k = (0 : Int32) ∨ k = (1 : Int32) ∨ k = (2 : Int32) := by
  have q : k.toInt = 0 ∨ k.toInt = 1 ∨ k.toInt = 2 := by omega
  rcases q with q | q | q
  · exact Or.inl (i32_is 0 q)
  · exact Or.inr (Or.inl (i32_is 1 q))
  · exact Or.inr (Or.inr ((i32_is 2 q)))
theorem d1_0 : decode prog_22_method_7_code 0 = .ok (.getstatic 10, 3) := by decide +kernel
theorem d1_3 : decode prog_22_method_7_code 3 = .ok (.astore_n 1, 1) := by decide +kernel
theorem d1_4 : decode prog_22_method_7_code 4 = .ok (.aload_n 0, 1) := by decide +kernel
theorem d1_5 : decode prog_22_method_7_code 5 = .ok (.getstatic 3, 3) := by decide +kernel
theorem d1_8 : decode prog_22_method_7_code 8 = .ok (.if_acmp .ne 10, 3) := by decide +kernel
theorem d1_11 : decode prog_22_method_7_code 11 = .ok (.getstatic 7, 3) := by decide +kernel
theorem d1_14 : decode prog_22_method_7_code 14 = .ok (.astore_n 1, 1) := by decide +kernel
theorem d1_15 : decode prog_22_method_7_code 15 = .ok (.goto 14, 3) := by decide +kernel
theorem d1_29 : decode prog_22_method_7_code 29 = .ok (.aload_n 1, 1) := by decide +kernel
theorem d1_30 : decode prog_22_method_7_code 30 = .ok (.areturn, 1) := by decide +kernel
theorem d1_18 : decode prog_22_method_7_code 18 = .ok (.aload_n 0, 1) := by decide +kernel
theorem d1_19 : decode prog_22_method_7_code 19 = .ok (.getstatic 7, 3) := by decide +kernel
theorem d1_22 : decode prog_22_method_7_code 22 = .ok (.if_acmp .ne 7, 3) := by decide +kernel
theorem d1_25 : decode prog_22_method_7_code 25 = .ok (.getstatic 3, 3) := by decide +kernel
theorem d1_28 : decode prog_22_method_7_code 28 = .ok (.astore_n 1, 1) := by decide +kernel
theorem pn_0 : plainName "com/example/wacl/wacl/core/Condition$Truth" = true := by first | (simp [plainName, overriddenIn]; done) | decide +kernel
theorem ef_rm1 (m : MethodId) (x0 : Addr)  : entryFrame m #[(.ref x0)] 2 = mkF m 0 #[.val (.ref x0), .unset] [] := by first | (simp [entryFrame, mkF, argsToLocals, Value.category]; done) | rfl
def Q_rm1 (Z : State) (a_TRUE : Addr) (a_FALSE : Addr) (a_UNDETERMINED : Addr) (r : Addr) (res : Addr) (h0 : Heap) (n0 : Nat) (v : Option Value) (h : Heap) (L : List Loc) : Prop := v = some (.ref res) ∧ Fr n0 L ∧ h = h0
set_option maxRecDepth 65536 in
set_option maxHeartbeats 40000000 in
theorem rm1 (l : Launch) (Z : State) (a0 : Array Value) (hw : ∀ d ∈ tables_1, d.before a0 Z = true) (ws : List Jvm.Cond) (a_TRUE : Addr) (a_FALSE : Addr) (a_UNDETERMINED : Addr) (HW : Wd Z a_TRUE a_FALSE a_UNDETERMINED) (r : Addr) (res : Addr) (h0 : Heap) (n0 : Nat) (Ol : Old Z n0 h0)  (hres : (if r = a_TRUE then a_FALSE else if r = a_FALSE then a_TRUE else a_UNDETERMINED) = res) :
    MetFree l (⟨"com/example/wacl/wacl/core/Condition$Truth", "not", "()Lcom/example/wacl/wacl/core/Condition$Truth;"⟩ : MethodName) (head1 (Jvm.Cond.code (⟨"com/example/wacl/wacl/core/Condition$Truth", "not", "()Lcom/example/wacl/wacl/core/Condition$Truth;"⟩ : MethodName) prog_22_method_7_code 2 (some (.object "com/example/wacl/wacl/core/Condition$Truth")) :: ws) ({ frames := 0, cells := 0, slots := 0, locals := 0 } : Room)) (fun a U => a = #[(.ref r)] ∧ Z.Warmed39 U.vm ∧ U.heap = h0) (fun _ _ _ _ _ => True) (fun _ U o U' => ∃ v L, o = .returned v ∧ Q_rm1 Z a_TRUE a_FALSE a_UNDETERMINED r res h0 n0 v U'.heap L ∧ FrameEnd U o U' L ({ frames := 0, cells := 0, slots := 0, locals := 0 } : Room).cells ({ frames := 0, cells := 0, slots := 0, locals := 0 } : Room).slots) := by
  refine MetFree.of_bodySF (plainFor_of_name pn_0) hisR ?_
  intro p e s m args below meth c s₁ Bd hml0 hP hK
  obtain ⟨rfl, hZ, hh⟩ := hP
  have hx := Bd.exec
  have hby := Bd.bytes
  have hml : c.maxLocals = 2 := hml0
  have hown : s.vm.findClass "com/example/wacl/wacl/core/Condition$Truth" = some m.cls := findClass_of_methodNamed Bd.named
  have hnm := (name_of_methodNamed Bd.named Bd.method).1
  have X0 : Stand p l e ({ frames := 0, cells := 0, slots := 0, locals := 0 } : Room) s m #[(.ref r)] below meth c s₁ [] 0 0 := Stand.of_body Bd
  have e0 : s₁.heap = h0 := by rw [← hh, Bd.state]; rfl
  have N0 := Fr.nil n0
  have kp0 := Keep.refl h0 []
  show Go p e below (Fin1 s below (Q_rm1 Z a_TRUE a_FALSE a_UNDETERMINED r res h0 n0) ({ frames := 0, cells := 0, slots := 0, locals := 0 } : Room).cells ({ frames := 0, cells := 0, slots := 0, locals := 0 } : Room).slots) _
  refine Go.step (fun t_ k_ => castTop (ef_rm1 m r) k_) ?_
  obtain ⟨S_TRUE, E_TRUE, S_FALSE, E_FALSE, S_UNDETERMINED, E_UNDETERMINED, F_FALSE_ordinal, F_TRUE_ordinal, F_UNDETERMINED_ordinal⟩ := id HW
  show Go p e below _ (s₁.setTop (mkF m 0 #[.val (.ref r), .unset] []))
  obtain ⟨T1, X1, e1, st1⟩ := getS2 X0 hx hZ hown (host := "") (Or.inl (hw _ (List.mem_of_getElem? (i := 11) rfl))) Via.refl e0 (S_UNDETERMINED.ext Ol.2) (g := (mkF m 0 #[.val (.ref r), .unset] [])) rfl (hb hby d1_0)
  refine Go.step st1 ?_
  show Go p e below _ (T1.setTop (mkF m 3 #[.val (.ref r), .unset] [(.ref a_UNDETERMINED)]))
  refine Go.step (fun t_ k_ => XS.astoreN X1.here hx rfl (hb hby d1_3) rfl rfl (l' := #[.val (.ref r), .val (.ref a_UNDETERMINED)]) rfl k_) ?_
  show Go p e below _ (T1.setTop (mkF m 4 #[.val (.ref r), .val (.ref a_UNDETERMINED)] []))
  refine Go.step (fun t_ k_ => XS.aloadN X1.here hx rfl (hb hby d1_4) rfl rfl k_) ?_
  show Go p e below _ (T1.setTop (mkF m 5 #[.val (.ref r), .val (.ref a_UNDETERMINED)] [(.ref r)]))
  obtain ⟨T2, X2, e2, st2⟩ := getS2 X1 hx hZ hown (host := "") (Or.inl (hw _ (List.mem_of_getElem? (i := 13) rfl))) Via.refl e1 (S_TRUE.ext Ol.2) (g := (mkF m 5 #[.val (.ref r), .val (.ref a_UNDETERMINED)] [(.ref r)])) rfl (hb hby d1_5)
  refine Go.step st2 ?_
  show Go p e below _ (T2.setTop (mkF m 8 #[.val (.ref r), .val (.ref a_UNDETERMINED)] [(.ref a_TRUE), (.ref r)]))
  by_cases ha8 : r = a_TRUE
  case pos =>
    refine Go.step (fun t_ k_ => Jvm.RoadKit.acmp (g := (mkF m 8 #[.val (.ref r), .val (.ref a_UNDETERMINED)] [(.ref a_TRUE), (.ref r)])) X2 hx rfl rfl rfl (pc0 := 8) (pc' := 11) (same := true) rfl (hb hby d1_8) rfl (decide_eq_true (congrArg Value.ref ha8)) (by decide) (by decide) k_) ?_
    show Go p e below _ (T2.setTop (mkF m 11 #[.val (.ref r), .val (.ref a_UNDETERMINED)] []))
    obtain ⟨T3, X3, e3, st3⟩ := getS2 X2 hx hZ hown (host := "") (Or.inl (hw _ (List.mem_of_getElem? (i := 14) rfl))) Via.refl e2 (S_FALSE.ext Ol.2) (g := (mkF m 11 #[.val (.ref r), .val (.ref a_UNDETERMINED)] [])) rfl (hb hby d1_11)
    refine Go.step st3 ?_
    show Go p e below _ (T3.setTop (mkF m 14 #[.val (.ref r), .val (.ref a_UNDETERMINED)] [(.ref a_FALSE)]))
    refine Go.step (fun t_ k_ => XS.astoreN X3.here hx rfl (hb hby d1_14) rfl rfl (l' := #[.val (.ref r), .val (.ref a_FALSE)]) rfl k_) ?_
    show Go p e below _ (T3.setTop (mkF m 15 #[.val (.ref r), .val (.ref a_FALSE)] []))
    refine Go.step (fun t_ k_ => XS.goto X3.here hx rfl (pc0 := 15) (pc' := 29) rfl (hb hby d1_15) (by decide) (by decide) k_) ?_
    show Go p e below _ (T3.setTop (mkF m 29 #[.val (.ref r), .val (.ref a_FALSE)] []))
    refine Go.step (fun t_ k_ => XS.aloadN X3.here hx rfl (hb hby d1_29) rfl rfl k_) ?_
    show Go p e below _ (T3.setTop (mkF m 30 #[.val (.ref r), .val (.ref a_FALSE)] [(.ref a_FALSE)]))
    refine Go.retR X3 hx Bd.returns rfl rfl Bd.notSynchronized (hb hby d1_30) (by rw [e3]; exact ⟨by rw [← hres]; first | (simp [if_pos ha8]; done) | (simp [ha8]; done) | (simp_all; done), N0, rfl⟩) (by decide) (by decide)
  case neg =>
    refine Go.step (fun t_ k_ => Jvm.RoadKit.acmp (g := (mkF m 8 #[.val (.ref r), .val (.ref a_UNDETERMINED)] [(.ref a_TRUE), (.ref r)])) X2 hx rfl rfl rfl (pc0 := 8) (pc' := 18) (same := false) rfl (hb hby d1_8) rfl (decide_eq_false fun q => ha8 (Value.ref.inj q)) (by decide) (by decide) k_) ?_
    show Go p e below _ (T2.setTop (mkF m 18 #[.val (.ref r), .val (.ref a_UNDETERMINED)] []))
    refine Go.step (fun t_ k_ => XS.aloadN X2.here hx rfl (hb hby d1_18) rfl rfl k_) ?_
    show Go p e below _ (T2.setTop (mkF m 19 #[.val (.ref r), .val (.ref a_UNDETERMINED)] [(.ref r)]))
    obtain ⟨T4, X4, e4, st4⟩ := getS2 X2 hx hZ hown (host := "") (Or.inl (hw _ (List.mem_of_getElem? (i := 14) rfl))) Via.refl e2 (S_FALSE.ext Ol.2) (g := (mkF m 19 #[.val (.ref r), .val (.ref a_UNDETERMINED)] [(.ref r)])) rfl (hb hby d1_19)
    refine Go.step st4 ?_
    show Go p e below _ (T4.setTop (mkF m 22 #[.val (.ref r), .val (.ref a_UNDETERMINED)] [(.ref a_FALSE), (.ref r)]))
    by_cases ha22 : r = a_FALSE
    case pos =>
      refine Go.step (fun t_ k_ => Jvm.RoadKit.acmp (g := (mkF m 22 #[.val (.ref r), .val (.ref a_UNDETERMINED)] [(.ref a_FALSE), (.ref r)])) X4 hx rfl rfl rfl (pc0 := 22) (pc' := 25) (same := true) rfl (hb hby d1_22) rfl (decide_eq_true (congrArg Value.ref ha22)) (by decide) (by decide) k_) ?_
      show Go p e below _ (T4.setTop (mkF m 25 #[.val (.ref r), .val (.ref a_UNDETERMINED)] []))
      obtain ⟨T5, X5, e5, st5⟩ := getS2 X4 hx hZ hown (host := "") (Or.inl (hw _ (List.mem_of_getElem? (i := 13) rfl))) Via.refl e4 (S_TRUE.ext Ol.2) (g := (mkF m 25 #[.val (.ref r), .val (.ref a_UNDETERMINED)] [])) rfl (hb hby d1_25)
      refine Go.step st5 ?_
      show Go p e below _ (T5.setTop (mkF m 28 #[.val (.ref r), .val (.ref a_UNDETERMINED)] [(.ref a_TRUE)]))
      refine Go.step (fun t_ k_ => XS.astoreN X5.here hx rfl (hb hby d1_28) rfl rfl (l' := #[.val (.ref r), .val (.ref a_TRUE)]) rfl k_) ?_
      show Go p e below _ (T5.setTop (mkF m 29 #[.val (.ref r), .val (.ref a_TRUE)] []))
      refine Go.step (fun t_ k_ => XS.aloadN X5.here hx rfl (hb hby d1_29) rfl rfl k_) ?_
      show Go p e below _ (T5.setTop (mkF m 30 #[.val (.ref r), .val (.ref a_TRUE)] [(.ref a_TRUE)]))
      refine Go.retR X5 hx Bd.returns rfl rfl Bd.notSynchronized (hb hby d1_30) (by rw [e5]; exact ⟨by rw [← hres]; first | (simp [if_neg ha8, if_pos ha22]; done) | (simp [ha8, ha22]; done) | (simp_all; done), N0, rfl⟩) (by decide) (by decide)
    case neg =>
      refine Go.step (fun t_ k_ => Jvm.RoadKit.acmp (g := (mkF m 22 #[.val (.ref r), .val (.ref a_UNDETERMINED)] [(.ref a_FALSE), (.ref r)])) X4 hx rfl rfl rfl (pc0 := 22) (pc' := 29) (same := false) rfl (hb hby d1_22) rfl (decide_eq_false fun q => ha22 (Value.ref.inj q)) (by decide) (by decide) k_) ?_
      show Go p e below _ (T4.setTop (mkF m 29 #[.val (.ref r), .val (.ref a_UNDETERMINED)] []))
      refine Go.step (fun t_ k_ => XS.aloadN X4.here hx rfl (hb hby d1_29) rfl rfl k_) ?_
      show Go p e below _ (T4.setTop (mkF m 30 #[.val (.ref r), .val (.ref a_UNDETERMINED)] [(.ref a_UNDETERMINED)]))
      refine Go.retR X4 hx Bd.returns rfl rfl Bd.notSynchronized (hb hby d1_30) (by rw [e4]; exact ⟨by rw [← hres]; first | (simp [if_neg ha8, if_neg ha22]; done) | (simp [ha8, ha22]; done) | (simp_all; done), N0, rfl⟩) (by decide) (by decide)
theorem pd_0 : parseMethodDescriptor "()Lcom/example/wacl/wacl/core/Condition$Truth;" = some ⟨[], some (.object "com/example/wacl/wacl/core/Condition$Truth")⟩ := by decide +kernel
theorem pn_1 : plainName "com/example/wacl/wacl/core/TruthNotPinLaw" = true := by first | (simp [plainName, overriddenIn]; done) | decide +kernel
theorem ef_rm0 (m : MethodId) (x0 : Int32)  : entryFrame m #[(.int x0)] maxLocals = mkF m 0 #[.val (.int x0), .unset, .unset, .unset, .unset] [] := by first | (simp [entryFrame, mkF, argsToLocals, Value.category, maxLocals]; done) | rfl
def Q_rm0 (Z : State) (a_TRUE : Addr) (a_FALSE : Addr) (a_UNDETERMINED : Addr) (p1 : Int32) (h0 : Heap) (n0 : Nat) (v : Option Value) (h : Heap) (L : List Loc) : Prop := v = some (.int 1) ∧ Fr n0 L
set_option maxRecDepth 65536 in
set_option maxHeartbeats 40000000 in
theorem rm0 (l : Launch) (Z : State) (a0 : Array Value) (hw : ∀ d ∈ tables_1, d.before a0 Z = true) (ws : List Jvm.Cond) (a_TRUE : Addr) (a_FALSE : Addr) (a_UNDETERMINED : Addr) (HW : Wd Z a_TRUE a_FALSE a_UNDETERMINED) (p1 : Int32) (h0 : Heap) (n0 : Nat) (Ol : Old Z n0 h0)  :
    MetFree l x (head1 (Jvm.Cond.code x code maxLocals ret :: ws) room_1) (fun a U => a = #[(.int p1)] ∧ Z.Warmed39 U.vm ∧ U.heap = h0) (fun _ _ _ _ _ => True) (fun _ U o U' => ∃ v L, o = .returned v ∧ Q_rm0 Z a_TRUE a_FALSE a_UNDETERMINED p1 h0 n0 v U'.heap L ∧ FrameEnd U o U' L room_1.cells room_1.slots) := by
  refine MetFree.of_bodySF (plainFor_of_name pn_1) hisR ?_
  intro p e s m args below meth c s₁ Bd hml0 hP hK
  obtain ⟨rfl, hZ, hh⟩ := hP
  have hx := Bd.exec
  have hby := Bd.bytes
  have hml : c.maxLocals = 5 := hml0
  have hown : s.vm.findClass "com/example/wacl/wacl/core/TruthNotPinLaw" = some m.cls := findClass_of_methodNamed Bd.named
  have hnm := (name_of_methodNamed Bd.named Bd.method).1
  have X0 : Stand p l e room_1 s m #[(.int p1)] below meth c s₁ [] 0 0 := Stand.of_body Bd
  have e0 : s₁.heap = h0 := by rw [← hh, Bd.state]; rfl
  have N0 := Fr.nil n0
  have kp0 := Keep.refl h0 []
  show Go p e below (Fin1 s below (Q_rm0 Z a_TRUE a_FALSE a_UNDETERMINED p1 h0 n0) room_1.cells room_1.slots) _
  refine Go.step (fun t_ k_ => castTop (ef_rm0 m p1) k_) ?_
  obtain ⟨S_TRUE, E_TRUE, S_FALSE, E_FALSE, S_UNDETERMINED, E_UNDETERMINED, F_FALSE_ordinal, F_TRUE_ordinal, F_UNDETERMINED_ordinal⟩ := id HW
  show Go p e below _ (s₁.setTop (mkF m 0 #[.val (.int p1), .unset, .unset, .unset, .unset] []))
  refine Go.step (fun t_ k_ => XS.iloadN X0.here hx rfl (hb hby at_0) rfl k_) ?_
  show Go p e below _ (s₁.setTop (mkF m 1 #[.val (.int p1), .unset, .unset, .unset, .unset] [(.int p1)]))
  refine Go.step (fun t_ k_ => X0.ldcInt hx hown (mvT hZ (hw _ (List.mem_of_getElem? (i := 0) rfl))) (g := (mkF m 1 #[.val (.int p1), .unset, .unset, .unset, .unset] [(.int p1)])) rfl (hb hby at_1) _ k_) ?_
  show Go p e below _ (s₁.setTop (mkF m 3 #[.val (.int p1), .unset, .unset, .unset, .unset] [(.int (2147483647 : Int32)), (.int p1)]))
  refine Go.step (fun t_ k_ => XS.iand X0.here hx rfl (hb hby at_3) rfl k_) ?_
  show Go p e below _ (s₁.setTop (mkF m 4 #[.val (.int p1), .unset, .unset, .unset, .unset] [(.int (p1 &&& (2147483647 : Int32)))]))
  refine Go.step (fun t_ k_ => XS.iconst X0.here hx rfl (hb hby at_4) k_) ?_
  show Go p e below _ (s₁.setTop (mkF m 5 #[.val (.int p1), .unset, .unset, .unset, .unset] [(.int (3 : Int32)), (.int (p1 &&& (2147483647 : Int32)))]))
  refine Go.step (fun t_ k_ => iremM X0 hx rfl (hb hby at_5) rfl (by decide) k_) ?_
  show Go p e below _ (s₁.setTop (mkF m 6 #[.val (.int p1), .unset, .unset, .unset, .unset] [(.int ((p1 &&& (2147483647 : Int32)) % (3 : Int32)))]))
  refine Go.step (fun t_ k_ => XS.istoreN X0.here hx rfl (hb hby at_6) rfl (l' := #[.val (.int p1), .val (.int ((p1 &&& (2147483647 : Int32)) % (3 : Int32))), .unset, .unset, .unset]) rfl k_) ?_
  show Go p e below _ (s₁.setTop (mkF m 7 #[.val (.int p1), .val (.int ((p1 &&& (2147483647 : Int32)) % (3 : Int32))), .unset, .unset, .unset] []))
  generalize hk_k : ((p1 &&& (2147483647 : Int32)) % (3 : Int32)) = k
  show Go p e below _ (s₁.setTop (mkF m 7 #[.val (.int p1), .val (.int k), .unset, .unset, .unset] []))
  have hb_k := rem_bd p1 (3 : Int32) (by decide)
  rw [hk_k] at hb_k
  rcases cs3 hb_k with rfl | rfl | rfl
  next =>
    show Go p e below _ (s₁.setTop (mkF m 7 #[.val (.int p1), .val (.int (0 : Int32)), .unset, .unset, .unset] []))
    refine Go.step (fun t_ k_ => XS.iloadN X0.here hx rfl (hb hby at_7) rfl k_) ?_
    show Go p e below _ (s₁.setTop (mkF m 8 #[.val (.int p1), .val (.int (0 : Int32)), .unset, .unset, .unset] [(.int (0 : Int32))]))
    have hc8 : (0 : Int32) = (0 : Int32) := by decide
    refine Go.step (fun t_ k_ => XS.ifNo X0.here hx rfl (hb hby at_8) rfl ((if0 _ _).trans (teq hc8).2) k_) ?_
    show Go p e below _ (s₁.setTop (mkF m 11 #[.val (.int p1), .val (.int (0 : Int32)), .unset, .unset, .unset] []))
    obtain ⟨T1, X1, e1, st1⟩ := getS2 X0 hx hZ hown (host := "") (Or.inl (hw _ (List.mem_of_getElem? (i := 1) rfl))) Via.refl e0 (S_TRUE.ext Ol.2) (g := (mkF m 11 #[.val (.int p1), .val (.int (0 : Int32)), .unset, .unset, .unset] [])) rfl (hb hby at_11)
    refine Go.step st1 ?_
    show Go p e below _ (T1.setTop (mkF m 14 #[.val (.int p1), .val (.int (0 : Int32)), .unset, .unset, .unset] [(.ref a_TRUE)]))
    refine Go.step (fun t_ k_ => XS.astoreN X1.here hx rfl (hb hby at_14) rfl rfl (l' := #[.val (.int p1), .val (.int (0 : Int32)), .val (.ref a_TRUE), .unset, .unset]) rfl k_) ?_
    show Go p e below _ (T1.setTop (mkF m 15 #[.val (.int p1), .val (.int (0 : Int32)), .val (.ref a_TRUE), .unset, .unset] []))
    obtain ⟨T2, X2, e2, st2⟩ := getS2 X1 hx hZ hown (host := "") (Or.inl (hw _ (List.mem_of_getElem? (i := 4) rfl))) Via.refl e1 (S_FALSE.ext Ol.2) (g := (mkF m 15 #[.val (.int p1), .val (.int (0 : Int32)), .val (.ref a_TRUE), .unset, .unset] [])) rfl (hb hby at_15)
    refine Go.step st2 ?_
    show Go p e below _ (T2.setTop (mkF m 18 #[.val (.int p1), .val (.int (0 : Int32)), .val (.ref a_TRUE), .unset, .unset] [(.ref a_FALSE)]))
    refine Go.step (fun t_ k_ => XS.astoreN X2.here hx rfl (hb hby at_18) rfl rfl (l' := #[.val (.int p1), .val (.int (0 : Int32)), .val (.ref a_TRUE), .val (.ref a_FALSE), .unset]) rfl k_) ?_
    show Go p e below _ (T2.setTop (mkF m 19 #[.val (.int p1), .val (.int (0 : Int32)), .val (.ref a_TRUE), .val (.ref a_FALSE), .unset] []))
    refine Go.step (fun t_ k_ => XS.goto X2.here hx rfl (pc0 := 19) (pc' := 46) rfl (hb hby at_19) (by decide) (by decide) k_) ?_
    show Go p e below _ (T2.setTop (mkF m 46 #[.val (.int p1), .val (.int (0 : Int32)), .val (.ref a_TRUE), .val (.ref a_FALSE), .unset] []))
    refine Go.step (fun t_ k_ => XS.aloadN X2.here hx rfl (hb hby at_46) rfl rfl k_) ?_
    show Go p e below _ (T2.setTop (mkF m 47 #[.val (.int p1), .val (.int (0 : Int32)), .val (.ref a_TRUE), .val (.ref a_FALSE), .unset] [(.ref a_TRUE)]))
    obtain ⟨cq3, kq3, q3a, q3b, q3c⟩ := isOf hZ e2 (E_TRUE.ext Ol.2)
    obtain ⟨_, _, ⟨T3, L3, k3, n3⟩, -, X3, ⟨Lc3, hQ3, l3, y3, z3⟩, st3⟩ := X2.virtualBack hx (y := (⟨"com/example/wacl/wacl/core/Condition$Truth", "not", "()Lcom/example/wacl/wacl/core/Condition$Truth;"⟩ : MethodName)) (z := (⟨"com/example/wacl/wacl/core/Condition$Truth", "not", "()Lcom/example/wacl/wacl/core/Condition$Truth;"⟩ : MethodName)) hown (mvT hZ (hw _ (List.mem_of_getElem? (i := 6) rfl))) (mvT hZ (hw _ (List.mem_of_getElem? (i := 7) rfl))) (notFace_of_selects (args := #[]) (mvT hZ (hw _ (List.mem_of_getElem? (i := 9) rfl)))) (mvT hZ (hw _ (List.mem_of_getElem? (i := 9) rfl))) (mvT hZ (hw _ (List.mem_of_getElem? (i := 8) rfl))) (by decide) (backOf (W := 0) (rm1 l Z a0 hw [] a_TRUE a_FALSE a_UNDETERMINED HW a_TRUE a_FALSE h0 n0 Ol (by simp [(Fld.ne F_TRUE_ordinal F_FALSE_ordinal (by simp)), (Ne.symm (Fld.ne F_TRUE_ordinal F_FALSE_ordinal (by simp))), (Fld.ne F_TRUE_ordinal F_UNDETERMINED_ordinal (by simp)), (Ne.symm (Fld.ne F_TRUE_ordinal F_UNDETERMINED_ordinal (by simp))), (Fld.ne F_FALSE_ordinal F_UNDETERMINED_ordinal (by simp)), (Ne.symm (Fld.ne F_FALSE_ordinal F_UNDETERMINED_ordinal (by simp)))])) hZ (hw _ (List.mem_of_getElem? (i := 10) rfl)) (hw _ (List.mem_of_getElem? (i := 2) rfl)) (by decide) (by decide)) q3a q3c (g := (mkF m 47 #[.val (.int p1), .val (.int (0 : Int32)), .val (.ref a_TRUE), .val (.ref a_FALSE), .unset] [(.ref a_TRUE)])) rfl (by rw [hml]; rfl) (Steps.refl _) (argsL := []) (rest := []) (lenOf pd_0 rfl) rfl (by show 2 * 0 + _ ≤ _; exact Nat.le_of_eq rfl) (hb hby at_47) (fun _ _ => ⟨rfl, e2, (by decide : 0 + 0 ≤ _), (by decide : 0 + 0 ≤ _)⟩)
    dsimp only [Pt.U, Pt.locs, Pt.cells, Pt.slots] at X3 l3 y3 z3 st3 hQ3
    subst l3 y3 z3
    obtain ⟨rfl, Nq3, e3⟩ := hQ3
    have N3 := Fr.app N0 Nq3
    refine Go.step (fun t_ k_ => st3.trans k_) ?_
    show Go p e below _ (T3.setTop (mkF m 50 #[.val (.int p1), .val (.int (0 : Int32)), .val (.ref a_TRUE), .val (.ref a_FALSE), .unset] [(.ref a_FALSE)]))
    refine Go.step (fun t_ k_ => XS.astore X3.here hx rfl (hb hby at_50) rfl rfl (l' := #[.val (.int p1), .val (.int (0 : Int32)), .val (.ref a_TRUE), .val (.ref a_FALSE), .val (.ref a_FALSE)]) rfl k_) ?_
    show Go p e below _ (T3.setTop (mkF m 52 #[.val (.int p1), .val (.int (0 : Int32)), .val (.ref a_TRUE), .val (.ref a_FALSE), .val (.ref a_FALSE)] []))
    refine Go.step (fun t_ k_ => XS.aload X3.here hx rfl (hb hby at_52) rfl rfl k_) ?_
    show Go p e below _ (T3.setTop (mkF m 54 #[.val (.int p1), .val (.int (0 : Int32)), .val (.ref a_TRUE), .val (.ref a_FALSE), .val (.ref a_FALSE)] [(.ref a_FALSE)]))
    refine Go.step (fun t_ k_ => XS.aloadN X3.here hx rfl (hb hby at_54) rfl rfl k_) ?_
    show Go p e below _ (T3.setTop (mkF m 55 #[.val (.int p1), .val (.int (0 : Int32)), .val (.ref a_TRUE), .val (.ref a_FALSE), .val (.ref a_FALSE)] [(.ref a_FALSE), (.ref a_FALSE)]))
    refine Go.step (fun t_ k_ => Jvm.RoadKit.acmp (g := (mkF m 55 #[.val (.int p1), .val (.int (0 : Int32)), .val (.ref a_TRUE), .val (.ref a_FALSE), .val (.ref a_FALSE)] [(.ref a_FALSE), (.ref a_FALSE)])) X3 hx rfl rfl rfl (pc0 := 55) (pc' := 58) (same := true) rfl (hb hby at_55) rfl (decide_eq_true rfl) (by decide) (by decide) k_) ?_
    show Go p e below _ (T3.setTop (mkF m 58 #[.val (.int p1), .val (.int (0 : Int32)), .val (.ref a_TRUE), .val (.ref a_FALSE), .val (.ref a_FALSE)] []))
    refine Go.step (fun t_ k_ => XS.aload X3.here hx rfl (hb hby at_58) rfl rfl k_) ?_
    show Go p e below _ (T3.setTop (mkF m 60 #[.val (.int p1), .val (.int (0 : Int32)), .val (.ref a_TRUE), .val (.ref a_FALSE), .val (.ref a_FALSE)] [(.ref a_FALSE)]))
    obtain ⟨cq4, kq4, q4a, q4b, q4c⟩ := isOf hZ e3 (E_FALSE.ext Ol.2)
    obtain ⟨_, _, ⟨T4, L4, k4, n4⟩, -, X4, ⟨Lc4, hQ4, l4, y4, z4⟩, st4⟩ := X3.virtualBack hx (y := (⟨"com/example/wacl/wacl/core/Condition$Truth", "not", "()Lcom/example/wacl/wacl/core/Condition$Truth;"⟩ : MethodName)) (z := (⟨"com/example/wacl/wacl/core/Condition$Truth", "not", "()Lcom/example/wacl/wacl/core/Condition$Truth;"⟩ : MethodName)) hown (mvT hZ (hw _ (List.mem_of_getElem? (i := 6) rfl))) (mvT hZ (hw _ (List.mem_of_getElem? (i := 7) rfl))) (notFace_of_selects (args := #[]) (mvT hZ (hw _ (List.mem_of_getElem? (i := 9) rfl)))) (mvT hZ (hw _ (List.mem_of_getElem? (i := 9) rfl))) (mvT hZ (hw _ (List.mem_of_getElem? (i := 8) rfl))) (by decide) (backOf (W := 0) (rm1 l Z a0 hw [] a_TRUE a_FALSE a_UNDETERMINED HW a_FALSE a_TRUE h0 n0 Ol (by simp [(Fld.ne F_TRUE_ordinal F_FALSE_ordinal (by simp)), (Ne.symm (Fld.ne F_TRUE_ordinal F_FALSE_ordinal (by simp))), (Fld.ne F_TRUE_ordinal F_UNDETERMINED_ordinal (by simp)), (Ne.symm (Fld.ne F_TRUE_ordinal F_UNDETERMINED_ordinal (by simp))), (Fld.ne F_FALSE_ordinal F_UNDETERMINED_ordinal (by simp)), (Ne.symm (Fld.ne F_FALSE_ordinal F_UNDETERMINED_ordinal (by simp)))])) hZ (hw _ (List.mem_of_getElem? (i := 10) rfl)) (hw _ (List.mem_of_getElem? (i := 2) rfl)) (by decide) (by decide)) q4a q4c (g := (mkF m 60 #[.val (.int p1), .val (.int (0 : Int32)), .val (.ref a_TRUE), .val (.ref a_FALSE), .val (.ref a_FALSE)] [(.ref a_FALSE)])) rfl (by rw [hml]; rfl) (Steps.refl _) (argsL := []) (rest := []) (lenOf pd_0 rfl) rfl (by show 2 * 0 + _ ≤ _; exact Nat.le_of_eq rfl) (hb hby at_60) (fun _ _ => ⟨rfl, e3, (by decide : 0 + 0 ≤ _), (by decide : 0 + 0 ≤ _)⟩)
    dsimp only [Pt.U, Pt.locs, Pt.cells, Pt.slots] at X4 l4 y4 z4 st4 hQ4
    subst l4 y4 z4
    obtain ⟨rfl, Nq4, e4⟩ := hQ4
    have N4 := Fr.app N3 Nq4
    refine Go.step (fun t_ k_ => st4.trans k_) ?_
    show Go p e below _ (T4.setTop (mkF m 63 #[.val (.int p1), .val (.int (0 : Int32)), .val (.ref a_TRUE), .val (.ref a_FALSE), .val (.ref a_FALSE)] [(.ref a_TRUE)]))
    refine Go.step (fun t_ k_ => XS.aloadN X4.here hx rfl (hb hby at_63) rfl rfl k_) ?_
    show Go p e below _ (T4.setTop (mkF m 64 #[.val (.int p1), .val (.int (0 : Int32)), .val (.ref a_TRUE), .val (.ref a_FALSE), .val (.ref a_FALSE)] [(.ref a_TRUE), (.ref a_TRUE)]))
    refine Go.step (fun t_ k_ => Jvm.RoadKit.acmp (g := (mkF m 64 #[.val (.int p1), .val (.int (0 : Int32)), .val (.ref a_TRUE), .val (.ref a_FALSE), .val (.ref a_FALSE)] [(.ref a_TRUE), (.ref a_TRUE)])) X4 hx rfl rfl rfl (pc0 := 64) (pc' := 67) (same := true) rfl (hb hby at_64) rfl (decide_eq_true rfl) (by decide) (by decide) k_) ?_
    show Go p e below _ (T4.setTop (mkF m 67 #[.val (.int p1), .val (.int (0 : Int32)), .val (.ref a_TRUE), .val (.ref a_FALSE), .val (.ref a_FALSE)] []))
    refine Go.step (fun t_ k_ => XS.iconst X4.here hx rfl (hb hby at_67) k_) ?_
    show Go p e below _ (T4.setTop (mkF m 68 #[.val (.int p1), .val (.int (0 : Int32)), .val (.ref a_TRUE), .val (.ref a_FALSE), .val (.ref a_FALSE)] [(.int (1 : Int32))]))
    refine Go.step (fun t_ k_ => XS.goto X4.here hx rfl (pc0 := 68) (pc' := 72) rfl (hb hby at_68) (by decide) (by decide) k_) ?_
    show Go p e below _ (T4.setTop (mkF m 72 #[.val (.int p1), .val (.int (0 : Int32)), .val (.ref a_TRUE), .val (.ref a_FALSE), .val (.ref a_FALSE)] [(.int (1 : Int32))]))
    refine Go.retZ X4 hx (t := .boolean) Bd.returns (by simp) Bd.notSynchronized (hb hby at_72) (by rw [e4]; exact ⟨rfl, N4⟩) (by decide) (by decide)
  next =>
    show Go p e below _ (s₁.setTop (mkF m 7 #[.val (.int p1), .val (.int (1 : Int32)), .unset, .unset, .unset] []))
    refine Go.step (fun t_ k_ => XS.iloadN X0.here hx rfl (hb hby at_7) rfl k_) ?_
    show Go p e below _ (s₁.setTop (mkF m 8 #[.val (.int p1), .val (.int (1 : Int32)), .unset, .unset, .unset] [(.int (1 : Int32))]))
    have hc8 : ¬ ((1 : Int32) = (0 : Int32)) := by decide
    refine Go.step (fun t_ k_ => XS.ifYes X0.here hx rfl (pc0 := 8) (pc' := 22) rfl (hb hby at_8) rfl ((if0 _ _).trans (feq hc8).2) (by decide) (by decide) k_) ?_
    show Go p e below _ (s₁.setTop (mkF m 22 #[.val (.int p1), .val (.int (1 : Int32)), .unset, .unset, .unset] []))
    refine Go.step (fun t_ k_ => XS.iloadN X0.here hx rfl (hb hby at_22) rfl k_) ?_
    show Go p e below _ (s₁.setTop (mkF m 23 #[.val (.int p1), .val (.int (1 : Int32)), .unset, .unset, .unset] [(.int (1 : Int32))]))
    refine Go.step (fun t_ k_ => XS.iconst X0.here hx rfl (hb hby at_23) k_) ?_
    show Go p e below _ (s₁.setTop (mkF m 24 #[.val (.int p1), .val (.int (1 : Int32)), .unset, .unset, .unset] [(.int (1 : Int32)), (.int (1 : Int32))]))
    have hc24 : (1 : Int32) = (1 : Int32) := by decide
    refine Go.step (fun t_ k_ => XS.icmpNo X0.here hx rfl (hb hby at_24) rfl (teq hc24).2 k_) ?_
    show Go p e below _ (s₁.setTop (mkF m 27 #[.val (.int p1), .val (.int (1 : Int32)), .unset, .unset, .unset] []))
    obtain ⟨T5, X5, e5, st5⟩ := getS2 X0 hx hZ hown (host := "") (Or.inl (hw _ (List.mem_of_getElem? (i := 4) rfl))) Via.refl e0 (S_FALSE.ext Ol.2) (g := (mkF m 27 #[.val (.int p1), .val (.int (1 : Int32)), .unset, .unset, .unset] [])) rfl (hb hby at_27)
    refine Go.step st5 ?_
    show Go p e below _ (T5.setTop (mkF m 30 #[.val (.int p1), .val (.int (1 : Int32)), .unset, .unset, .unset] [(.ref a_FALSE)]))
    refine Go.step (fun t_ k_ => XS.astoreN X5.here hx rfl (hb hby at_30) rfl rfl (l' := #[.val (.int p1), .val (.int (1 : Int32)), .val (.ref a_FALSE), .unset, .unset]) rfl k_) ?_
    show Go p e below _ (T5.setTop (mkF m 31 #[.val (.int p1), .val (.int (1 : Int32)), .val (.ref a_FALSE), .unset, .unset] []))
    obtain ⟨T6, X6, e6, st6⟩ := getS2 X5 hx hZ hown (host := "") (Or.inl (hw _ (List.mem_of_getElem? (i := 1) rfl))) Via.refl e5 (S_TRUE.ext Ol.2) (g := (mkF m 31 #[.val (.int p1), .val (.int (1 : Int32)), .val (.ref a_FALSE), .unset, .unset] [])) rfl (hb hby at_31)
    refine Go.step st6 ?_
    show Go p e below _ (T6.setTop (mkF m 34 #[.val (.int p1), .val (.int (1 : Int32)), .val (.ref a_FALSE), .unset, .unset] [(.ref a_TRUE)]))
    refine Go.step (fun t_ k_ => XS.astoreN X6.here hx rfl (hb hby at_34) rfl rfl (l' := #[.val (.int p1), .val (.int (1 : Int32)), .val (.ref a_FALSE), .val (.ref a_TRUE), .unset]) rfl k_) ?_
    show Go p e below _ (T6.setTop (mkF m 35 #[.val (.int p1), .val (.int (1 : Int32)), .val (.ref a_FALSE), .val (.ref a_TRUE), .unset] []))
    refine Go.step (fun t_ k_ => XS.goto X6.here hx rfl (pc0 := 35) (pc' := 46) rfl (hb hby at_35) (by decide) (by decide) k_) ?_
    show Go p e below _ (T6.setTop (mkF m 46 #[.val (.int p1), .val (.int (1 : Int32)), .val (.ref a_FALSE), .val (.ref a_TRUE), .unset] []))
    refine Go.step (fun t_ k_ => XS.aloadN X6.here hx rfl (hb hby at_46) rfl rfl k_) ?_
    show Go p e below _ (T6.setTop (mkF m 47 #[.val (.int p1), .val (.int (1 : Int32)), .val (.ref a_FALSE), .val (.ref a_TRUE), .unset] [(.ref a_FALSE)]))
    obtain ⟨cq7, kq7, q7a, q7b, q7c⟩ := isOf hZ e6 (E_FALSE.ext Ol.2)
    obtain ⟨_, _, ⟨T7, L7, k7, n7⟩, -, X7, ⟨Lc7, hQ7, l7, y7, z7⟩, st7⟩ := X6.virtualBack hx (y := (⟨"com/example/wacl/wacl/core/Condition$Truth", "not", "()Lcom/example/wacl/wacl/core/Condition$Truth;"⟩ : MethodName)) (z := (⟨"com/example/wacl/wacl/core/Condition$Truth", "not", "()Lcom/example/wacl/wacl/core/Condition$Truth;"⟩ : MethodName)) hown (mvT hZ (hw _ (List.mem_of_getElem? (i := 6) rfl))) (mvT hZ (hw _ (List.mem_of_getElem? (i := 7) rfl))) (notFace_of_selects (args := #[]) (mvT hZ (hw _ (List.mem_of_getElem? (i := 9) rfl)))) (mvT hZ (hw _ (List.mem_of_getElem? (i := 9) rfl))) (mvT hZ (hw _ (List.mem_of_getElem? (i := 8) rfl))) (by decide) (backOf (W := 0) (rm1 l Z a0 hw [] a_TRUE a_FALSE a_UNDETERMINED HW a_FALSE a_TRUE h0 n0 Ol (by simp [(Fld.ne F_TRUE_ordinal F_FALSE_ordinal (by simp)), (Ne.symm (Fld.ne F_TRUE_ordinal F_FALSE_ordinal (by simp))), (Fld.ne F_TRUE_ordinal F_UNDETERMINED_ordinal (by simp)), (Ne.symm (Fld.ne F_TRUE_ordinal F_UNDETERMINED_ordinal (by simp))), (Fld.ne F_FALSE_ordinal F_UNDETERMINED_ordinal (by simp)), (Ne.symm (Fld.ne F_FALSE_ordinal F_UNDETERMINED_ordinal (by simp)))])) hZ (hw _ (List.mem_of_getElem? (i := 10) rfl)) (hw _ (List.mem_of_getElem? (i := 2) rfl)) (by decide) (by decide)) q7a q7c (g := (mkF m 47 #[.val (.int p1), .val (.int (1 : Int32)), .val (.ref a_FALSE), .val (.ref a_TRUE), .unset] [(.ref a_FALSE)])) rfl (by rw [hml]; rfl) (Steps.refl _) (argsL := []) (rest := []) (lenOf pd_0 rfl) rfl (by show 2 * 0 + _ ≤ _; exact Nat.le_of_eq rfl) (hb hby at_47) (fun _ _ => ⟨rfl, e6, (by decide : 0 + 0 ≤ _), (by decide : 0 + 0 ≤ _)⟩)
    dsimp only [Pt.U, Pt.locs, Pt.cells, Pt.slots] at X7 l7 y7 z7 st7 hQ7
    subst l7 y7 z7
    obtain ⟨rfl, Nq7, e7⟩ := hQ7
    have N7 := Fr.app N0 Nq7
    refine Go.step (fun t_ k_ => st7.trans k_) ?_
    show Go p e below _ (T7.setTop (mkF m 50 #[.val (.int p1), .val (.int (1 : Int32)), .val (.ref a_FALSE), .val (.ref a_TRUE), .unset] [(.ref a_TRUE)]))
    refine Go.step (fun t_ k_ => XS.astore X7.here hx rfl (hb hby at_50) rfl rfl (l' := #[.val (.int p1), .val (.int (1 : Int32)), .val (.ref a_FALSE), .val (.ref a_TRUE), .val (.ref a_TRUE)]) rfl k_) ?_
    show Go p e below _ (T7.setTop (mkF m 52 #[.val (.int p1), .val (.int (1 : Int32)), .val (.ref a_FALSE), .val (.ref a_TRUE), .val (.ref a_TRUE)] []))
    refine Go.step (fun t_ k_ => XS.aload X7.here hx rfl (hb hby at_52) rfl rfl k_) ?_
    show Go p e below _ (T7.setTop (mkF m 54 #[.val (.int p1), .val (.int (1 : Int32)), .val (.ref a_FALSE), .val (.ref a_TRUE), .val (.ref a_TRUE)] [(.ref a_TRUE)]))
    refine Go.step (fun t_ k_ => XS.aloadN X7.here hx rfl (hb hby at_54) rfl rfl k_) ?_
    show Go p e below _ (T7.setTop (mkF m 55 #[.val (.int p1), .val (.int (1 : Int32)), .val (.ref a_FALSE), .val (.ref a_TRUE), .val (.ref a_TRUE)] [(.ref a_TRUE), (.ref a_TRUE)]))
    refine Go.step (fun t_ k_ => Jvm.RoadKit.acmp (g := (mkF m 55 #[.val (.int p1), .val (.int (1 : Int32)), .val (.ref a_FALSE), .val (.ref a_TRUE), .val (.ref a_TRUE)] [(.ref a_TRUE), (.ref a_TRUE)])) X7 hx rfl rfl rfl (pc0 := 55) (pc' := 58) (same := true) rfl (hb hby at_55) rfl (decide_eq_true rfl) (by decide) (by decide) k_) ?_
    show Go p e below _ (T7.setTop (mkF m 58 #[.val (.int p1), .val (.int (1 : Int32)), .val (.ref a_FALSE), .val (.ref a_TRUE), .val (.ref a_TRUE)] []))
    refine Go.step (fun t_ k_ => XS.aload X7.here hx rfl (hb hby at_58) rfl rfl k_) ?_
    show Go p e below _ (T7.setTop (mkF m 60 #[.val (.int p1), .val (.int (1 : Int32)), .val (.ref a_FALSE), .val (.ref a_TRUE), .val (.ref a_TRUE)] [(.ref a_TRUE)]))
    obtain ⟨cq8, kq8, q8a, q8b, q8c⟩ := isOf hZ e7 (E_TRUE.ext Ol.2)
    obtain ⟨_, _, ⟨T8, L8, k8, n8⟩, -, X8, ⟨Lc8, hQ8, l8, y8, z8⟩, st8⟩ := X7.virtualBack hx (y := (⟨"com/example/wacl/wacl/core/Condition$Truth", "not", "()Lcom/example/wacl/wacl/core/Condition$Truth;"⟩ : MethodName)) (z := (⟨"com/example/wacl/wacl/core/Condition$Truth", "not", "()Lcom/example/wacl/wacl/core/Condition$Truth;"⟩ : MethodName)) hown (mvT hZ (hw _ (List.mem_of_getElem? (i := 6) rfl))) (mvT hZ (hw _ (List.mem_of_getElem? (i := 7) rfl))) (notFace_of_selects (args := #[]) (mvT hZ (hw _ (List.mem_of_getElem? (i := 9) rfl)))) (mvT hZ (hw _ (List.mem_of_getElem? (i := 9) rfl))) (mvT hZ (hw _ (List.mem_of_getElem? (i := 8) rfl))) (by decide) (backOf (W := 0) (rm1 l Z a0 hw [] a_TRUE a_FALSE a_UNDETERMINED HW a_TRUE a_FALSE h0 n0 Ol (by simp [(Fld.ne F_TRUE_ordinal F_FALSE_ordinal (by simp)), (Ne.symm (Fld.ne F_TRUE_ordinal F_FALSE_ordinal (by simp))), (Fld.ne F_TRUE_ordinal F_UNDETERMINED_ordinal (by simp)), (Ne.symm (Fld.ne F_TRUE_ordinal F_UNDETERMINED_ordinal (by simp))), (Fld.ne F_FALSE_ordinal F_UNDETERMINED_ordinal (by simp)), (Ne.symm (Fld.ne F_FALSE_ordinal F_UNDETERMINED_ordinal (by simp)))])) hZ (hw _ (List.mem_of_getElem? (i := 10) rfl)) (hw _ (List.mem_of_getElem? (i := 2) rfl)) (by decide) (by decide)) q8a q8c (g := (mkF m 60 #[.val (.int p1), .val (.int (1 : Int32)), .val (.ref a_FALSE), .val (.ref a_TRUE), .val (.ref a_TRUE)] [(.ref a_TRUE)])) rfl (by rw [hml]; rfl) (Steps.refl _) (argsL := []) (rest := []) (lenOf pd_0 rfl) rfl (by show 2 * 0 + _ ≤ _; exact Nat.le_of_eq rfl) (hb hby at_60) (fun _ _ => ⟨rfl, e7, (by decide : 0 + 0 ≤ _), (by decide : 0 + 0 ≤ _)⟩)
    dsimp only [Pt.U, Pt.locs, Pt.cells, Pt.slots] at X8 l8 y8 z8 st8 hQ8
    subst l8 y8 z8
    obtain ⟨rfl, Nq8, e8⟩ := hQ8
    have N8 := Fr.app N7 Nq8
    refine Go.step (fun t_ k_ => st8.trans k_) ?_
    show Go p e below _ (T8.setTop (mkF m 63 #[.val (.int p1), .val (.int (1 : Int32)), .val (.ref a_FALSE), .val (.ref a_TRUE), .val (.ref a_TRUE)] [(.ref a_FALSE)]))
    refine Go.step (fun t_ k_ => XS.aloadN X8.here hx rfl (hb hby at_63) rfl rfl k_) ?_
    show Go p e below _ (T8.setTop (mkF m 64 #[.val (.int p1), .val (.int (1 : Int32)), .val (.ref a_FALSE), .val (.ref a_TRUE), .val (.ref a_TRUE)] [(.ref a_FALSE), (.ref a_FALSE)]))
    refine Go.step (fun t_ k_ => Jvm.RoadKit.acmp (g := (mkF m 64 #[.val (.int p1), .val (.int (1 : Int32)), .val (.ref a_FALSE), .val (.ref a_TRUE), .val (.ref a_TRUE)] [(.ref a_FALSE), (.ref a_FALSE)])) X8 hx rfl rfl rfl (pc0 := 64) (pc' := 67) (same := true) rfl (hb hby at_64) rfl (decide_eq_true rfl) (by decide) (by decide) k_) ?_
    show Go p e below _ (T8.setTop (mkF m 67 #[.val (.int p1), .val (.int (1 : Int32)), .val (.ref a_FALSE), .val (.ref a_TRUE), .val (.ref a_TRUE)] []))
    refine Go.step (fun t_ k_ => XS.iconst X8.here hx rfl (hb hby at_67) k_) ?_
    show Go p e below _ (T8.setTop (mkF m 68 #[.val (.int p1), .val (.int (1 : Int32)), .val (.ref a_FALSE), .val (.ref a_TRUE), .val (.ref a_TRUE)] [(.int (1 : Int32))]))
    refine Go.step (fun t_ k_ => XS.goto X8.here hx rfl (pc0 := 68) (pc' := 72) rfl (hb hby at_68) (by decide) (by decide) k_) ?_
    show Go p e below _ (T8.setTop (mkF m 72 #[.val (.int p1), .val (.int (1 : Int32)), .val (.ref a_FALSE), .val (.ref a_TRUE), .val (.ref a_TRUE)] [(.int (1 : Int32))]))
    refine Go.retZ X8 hx (t := .boolean) Bd.returns (by simp) Bd.notSynchronized (hb hby at_72) (by rw [e8]; exact ⟨rfl, N8⟩) (by decide) (by decide)
  next =>
    show Go p e below _ (s₁.setTop (mkF m 7 #[.val (.int p1), .val (.int (2 : Int32)), .unset, .unset, .unset] []))
    refine Go.step (fun t_ k_ => XS.iloadN X0.here hx rfl (hb hby at_7) rfl k_) ?_
    show Go p e below _ (s₁.setTop (mkF m 8 #[.val (.int p1), .val (.int (2 : Int32)), .unset, .unset, .unset] [(.int (2 : Int32))]))
    have hc8 : ¬ ((2 : Int32) = (0 : Int32)) := by decide
    refine Go.step (fun t_ k_ => XS.ifYes X0.here hx rfl (pc0 := 8) (pc' := 22) rfl (hb hby at_8) rfl ((if0 _ _).trans (feq hc8).2) (by decide) (by decide) k_) ?_
    show Go p e below _ (s₁.setTop (mkF m 22 #[.val (.int p1), .val (.int (2 : Int32)), .unset, .unset, .unset] []))
    refine Go.step (fun t_ k_ => XS.iloadN X0.here hx rfl (hb hby at_22) rfl k_) ?_
    show Go p e below _ (s₁.setTop (mkF m 23 #[.val (.int p1), .val (.int (2 : Int32)), .unset, .unset, .unset] [(.int (2 : Int32))]))
    refine Go.step (fun t_ k_ => XS.iconst X0.here hx rfl (hb hby at_23) k_) ?_
    show Go p e below _ (s₁.setTop (mkF m 24 #[.val (.int p1), .val (.int (2 : Int32)), .unset, .unset, .unset] [(.int (1 : Int32)), (.int (2 : Int32))]))
    have hc24 : ¬ ((2 : Int32) = (1 : Int32)) := by decide
    refine Go.step (fun t_ k_ => XS.icmpYes X0.here hx rfl (pc0 := 24) (pc' := 38) rfl (hb hby at_24) rfl (feq hc24).2 (by decide) (by decide) k_) ?_
    show Go p e below _ (s₁.setTop (mkF m 38 #[.val (.int p1), .val (.int (2 : Int32)), .unset, .unset, .unset] []))
    obtain ⟨T9, X9, e9, st9⟩ := getS2 X0 hx hZ hown (host := "") (Or.inl (hw _ (List.mem_of_getElem? (i := 15) rfl))) Via.refl e0 (S_UNDETERMINED.ext Ol.2) (g := (mkF m 38 #[.val (.int p1), .val (.int (2 : Int32)), .unset, .unset, .unset] [])) rfl (hb hby at_38)
    refine Go.step st9 ?_
    show Go p e below _ (T9.setTop (mkF m 41 #[.val (.int p1), .val (.int (2 : Int32)), .unset, .unset, .unset] [(.ref a_UNDETERMINED)]))
    refine Go.step (fun t_ k_ => XS.astoreN X9.here hx rfl (hb hby at_41) rfl rfl (l' := #[.val (.int p1), .val (.int (2 : Int32)), .val (.ref a_UNDETERMINED), .unset, .unset]) rfl k_) ?_
    show Go p e below _ (T9.setTop (mkF m 42 #[.val (.int p1), .val (.int (2 : Int32)), .val (.ref a_UNDETERMINED), .unset, .unset] []))
    obtain ⟨T10, X10, e10, st10⟩ := getS2 X9 hx hZ hown (host := "") (Or.inl (hw _ (List.mem_of_getElem? (i := 15) rfl))) Via.refl e9 (S_UNDETERMINED.ext Ol.2) (g := (mkF m 42 #[.val (.int p1), .val (.int (2 : Int32)), .val (.ref a_UNDETERMINED), .unset, .unset] [])) rfl (hb hby at_42)
    refine Go.step st10 ?_
    show Go p e below _ (T10.setTop (mkF m 45 #[.val (.int p1), .val (.int (2 : Int32)), .val (.ref a_UNDETERMINED), .unset, .unset] [(.ref a_UNDETERMINED)]))
    refine Go.step (fun t_ k_ => XS.astoreN X10.here hx rfl (hb hby at_45) rfl rfl (l' := #[.val (.int p1), .val (.int (2 : Int32)), .val (.ref a_UNDETERMINED), .val (.ref a_UNDETERMINED), .unset]) rfl k_) ?_
    show Go p e below _ (T10.setTop (mkF m 46 #[.val (.int p1), .val (.int (2 : Int32)), .val (.ref a_UNDETERMINED), .val (.ref a_UNDETERMINED), .unset] []))
    refine Go.step (fun t_ k_ => XS.aloadN X10.here hx rfl (hb hby at_46) rfl rfl k_) ?_
    show Go p e below _ (T10.setTop (mkF m 47 #[.val (.int p1), .val (.int (2 : Int32)), .val (.ref a_UNDETERMINED), .val (.ref a_UNDETERMINED), .unset] [(.ref a_UNDETERMINED)]))
    obtain ⟨cq11, kq11, q11a, q11b, q11c⟩ := isOf hZ e10 (E_UNDETERMINED.ext Ol.2)
    obtain ⟨_, _, ⟨T11, L11, k11, n11⟩, -, X11, ⟨Lc11, hQ11, l11, y11, z11⟩, st11⟩ := X10.virtualBack hx (y := (⟨"com/example/wacl/wacl/core/Condition$Truth", "not", "()Lcom/example/wacl/wacl/core/Condition$Truth;"⟩ : MethodName)) (z := (⟨"com/example/wacl/wacl/core/Condition$Truth", "not", "()Lcom/example/wacl/wacl/core/Condition$Truth;"⟩ : MethodName)) hown (mvT hZ (hw _ (List.mem_of_getElem? (i := 6) rfl))) (mvT hZ (hw _ (List.mem_of_getElem? (i := 7) rfl))) (notFace_of_selects (args := #[]) (mvT hZ (hw _ (List.mem_of_getElem? (i := 9) rfl)))) (mvT hZ (hw _ (List.mem_of_getElem? (i := 9) rfl))) (mvT hZ (hw _ (List.mem_of_getElem? (i := 8) rfl))) (by decide) (backOf (W := 0) (rm1 l Z a0 hw [] a_TRUE a_FALSE a_UNDETERMINED HW a_UNDETERMINED a_UNDETERMINED h0 n0 Ol (by simp [(Fld.ne F_TRUE_ordinal F_FALSE_ordinal (by simp)), (Ne.symm (Fld.ne F_TRUE_ordinal F_FALSE_ordinal (by simp))), (Fld.ne F_TRUE_ordinal F_UNDETERMINED_ordinal (by simp)), (Ne.symm (Fld.ne F_TRUE_ordinal F_UNDETERMINED_ordinal (by simp))), (Fld.ne F_FALSE_ordinal F_UNDETERMINED_ordinal (by simp)), (Ne.symm (Fld.ne F_FALSE_ordinal F_UNDETERMINED_ordinal (by simp)))])) hZ (hw _ (List.mem_of_getElem? (i := 10) rfl)) (hw _ (List.mem_of_getElem? (i := 2) rfl)) (by decide) (by decide)) q11a q11c (g := (mkF m 47 #[.val (.int p1), .val (.int (2 : Int32)), .val (.ref a_UNDETERMINED), .val (.ref a_UNDETERMINED), .unset] [(.ref a_UNDETERMINED)])) rfl (by rw [hml]; rfl) (Steps.refl _) (argsL := []) (rest := []) (lenOf pd_0 rfl) rfl (by show 2 * 0 + _ ≤ _; exact Nat.le_of_eq rfl) (hb hby at_47) (fun _ _ => ⟨rfl, e10, (by decide : 0 + 0 ≤ _), (by decide : 0 + 0 ≤ _)⟩)
    dsimp only [Pt.U, Pt.locs, Pt.cells, Pt.slots] at X11 l11 y11 z11 st11 hQ11
    subst l11 y11 z11
    obtain ⟨rfl, Nq11, e11⟩ := hQ11
    have N11 := Fr.app N0 Nq11
    refine Go.step (fun t_ k_ => st11.trans k_) ?_
    show Go p e below _ (T11.setTop (mkF m 50 #[.val (.int p1), .val (.int (2 : Int32)), .val (.ref a_UNDETERMINED), .val (.ref a_UNDETERMINED), .unset] [(.ref a_UNDETERMINED)]))
    refine Go.step (fun t_ k_ => XS.astore X11.here hx rfl (hb hby at_50) rfl rfl (l' := #[.val (.int p1), .val (.int (2 : Int32)), .val (.ref a_UNDETERMINED), .val (.ref a_UNDETERMINED), .val (.ref a_UNDETERMINED)]) rfl k_) ?_
    show Go p e below _ (T11.setTop (mkF m 52 #[.val (.int p1), .val (.int (2 : Int32)), .val (.ref a_UNDETERMINED), .val (.ref a_UNDETERMINED), .val (.ref a_UNDETERMINED)] []))
    refine Go.step (fun t_ k_ => XS.aload X11.here hx rfl (hb hby at_52) rfl rfl k_) ?_
    show Go p e below _ (T11.setTop (mkF m 54 #[.val (.int p1), .val (.int (2 : Int32)), .val (.ref a_UNDETERMINED), .val (.ref a_UNDETERMINED), .val (.ref a_UNDETERMINED)] [(.ref a_UNDETERMINED)]))
    refine Go.step (fun t_ k_ => XS.aloadN X11.here hx rfl (hb hby at_54) rfl rfl k_) ?_
    show Go p e below _ (T11.setTop (mkF m 55 #[.val (.int p1), .val (.int (2 : Int32)), .val (.ref a_UNDETERMINED), .val (.ref a_UNDETERMINED), .val (.ref a_UNDETERMINED)] [(.ref a_UNDETERMINED), (.ref a_UNDETERMINED)]))
    refine Go.step (fun t_ k_ => Jvm.RoadKit.acmp (g := (mkF m 55 #[.val (.int p1), .val (.int (2 : Int32)), .val (.ref a_UNDETERMINED), .val (.ref a_UNDETERMINED), .val (.ref a_UNDETERMINED)] [(.ref a_UNDETERMINED), (.ref a_UNDETERMINED)])) X11 hx rfl rfl rfl (pc0 := 55) (pc' := 58) (same := true) rfl (hb hby at_55) rfl (decide_eq_true rfl) (by decide) (by decide) k_) ?_
    show Go p e below _ (T11.setTop (mkF m 58 #[.val (.int p1), .val (.int (2 : Int32)), .val (.ref a_UNDETERMINED), .val (.ref a_UNDETERMINED), .val (.ref a_UNDETERMINED)] []))
    refine Go.step (fun t_ k_ => XS.aload X11.here hx rfl (hb hby at_58) rfl rfl k_) ?_
    show Go p e below _ (T11.setTop (mkF m 60 #[.val (.int p1), .val (.int (2 : Int32)), .val (.ref a_UNDETERMINED), .val (.ref a_UNDETERMINED), .val (.ref a_UNDETERMINED)] [(.ref a_UNDETERMINED)]))
    obtain ⟨cq12, kq12, q12a, q12b, q12c⟩ := isOf hZ e11 (E_UNDETERMINED.ext Ol.2)
    obtain ⟨_, _, ⟨T12, L12, k12, n12⟩, -, X12, ⟨Lc12, hQ12, l12, y12, z12⟩, st12⟩ := X11.virtualBack hx (y := (⟨"com/example/wacl/wacl/core/Condition$Truth", "not", "()Lcom/example/wacl/wacl/core/Condition$Truth;"⟩ : MethodName)) (z := (⟨"com/example/wacl/wacl/core/Condition$Truth", "not", "()Lcom/example/wacl/wacl/core/Condition$Truth;"⟩ : MethodName)) hown (mvT hZ (hw _ (List.mem_of_getElem? (i := 6) rfl))) (mvT hZ (hw _ (List.mem_of_getElem? (i := 7) rfl))) (notFace_of_selects (args := #[]) (mvT hZ (hw _ (List.mem_of_getElem? (i := 9) rfl)))) (mvT hZ (hw _ (List.mem_of_getElem? (i := 9) rfl))) (mvT hZ (hw _ (List.mem_of_getElem? (i := 8) rfl))) (by decide) (backOf (W := 0) (rm1 l Z a0 hw [] a_TRUE a_FALSE a_UNDETERMINED HW a_UNDETERMINED a_UNDETERMINED h0 n0 Ol (by simp [(Fld.ne F_TRUE_ordinal F_FALSE_ordinal (by simp)), (Ne.symm (Fld.ne F_TRUE_ordinal F_FALSE_ordinal (by simp))), (Fld.ne F_TRUE_ordinal F_UNDETERMINED_ordinal (by simp)), (Ne.symm (Fld.ne F_TRUE_ordinal F_UNDETERMINED_ordinal (by simp))), (Fld.ne F_FALSE_ordinal F_UNDETERMINED_ordinal (by simp)), (Ne.symm (Fld.ne F_FALSE_ordinal F_UNDETERMINED_ordinal (by simp)))])) hZ (hw _ (List.mem_of_getElem? (i := 10) rfl)) (hw _ (List.mem_of_getElem? (i := 2) rfl)) (by decide) (by decide)) q12a q12c (g := (mkF m 60 #[.val (.int p1), .val (.int (2 : Int32)), .val (.ref a_UNDETERMINED), .val (.ref a_UNDETERMINED), .val (.ref a_UNDETERMINED)] [(.ref a_UNDETERMINED)])) rfl (by rw [hml]; rfl) (Steps.refl _) (argsL := []) (rest := []) (lenOf pd_0 rfl) rfl (by show 2 * 0 + _ ≤ _; exact Nat.le_of_eq rfl) (hb hby at_60) (fun _ _ => ⟨rfl, e11, (by decide : 0 + 0 ≤ _), (by decide : 0 + 0 ≤ _)⟩)
    dsimp only [Pt.U, Pt.locs, Pt.cells, Pt.slots] at X12 l12 y12 z12 st12 hQ12
    subst l12 y12 z12
    obtain ⟨rfl, Nq12, e12⟩ := hQ12
    have N12 := Fr.app N11 Nq12
    refine Go.step (fun t_ k_ => st12.trans k_) ?_
    show Go p e below _ (T12.setTop (mkF m 63 #[.val (.int p1), .val (.int (2 : Int32)), .val (.ref a_UNDETERMINED), .val (.ref a_UNDETERMINED), .val (.ref a_UNDETERMINED)] [(.ref a_UNDETERMINED)]))
    refine Go.step (fun t_ k_ => XS.aloadN X12.here hx rfl (hb hby at_63) rfl rfl k_) ?_
    show Go p e below _ (T12.setTop (mkF m 64 #[.val (.int p1), .val (.int (2 : Int32)), .val (.ref a_UNDETERMINED), .val (.ref a_UNDETERMINED), .val (.ref a_UNDETERMINED)] [(.ref a_UNDETERMINED), (.ref a_UNDETERMINED)]))
    refine Go.step (fun t_ k_ => Jvm.RoadKit.acmp (g := (mkF m 64 #[.val (.int p1), .val (.int (2 : Int32)), .val (.ref a_UNDETERMINED), .val (.ref a_UNDETERMINED), .val (.ref a_UNDETERMINED)] [(.ref a_UNDETERMINED), (.ref a_UNDETERMINED)])) X12 hx rfl rfl rfl (pc0 := 64) (pc' := 67) (same := true) rfl (hb hby at_64) rfl (decide_eq_true rfl) (by decide) (by decide) k_) ?_
    show Go p e below _ (T12.setTop (mkF m 67 #[.val (.int p1), .val (.int (2 : Int32)), .val (.ref a_UNDETERMINED), .val (.ref a_UNDETERMINED), .val (.ref a_UNDETERMINED)] []))
    refine Go.step (fun t_ k_ => XS.iconst X12.here hx rfl (hb hby at_67) k_) ?_
    show Go p e below _ (T12.setTop (mkF m 68 #[.val (.int p1), .val (.int (2 : Int32)), .val (.ref a_UNDETERMINED), .val (.ref a_UNDETERMINED), .val (.ref a_UNDETERMINED)] [(.int (1 : Int32))]))
    refine Go.step (fun t_ k_ => XS.goto X12.here hx rfl (pc0 := 68) (pc' := 72) rfl (hb hby at_68) (by decide) (by decide) k_) ?_
    show Go p e below _ (T12.setTop (mkF m 72 #[.val (.int p1), .val (.int (2 : Int32)), .val (.ref a_UNDETERMINED), .val (.ref a_UNDETERMINED), .val (.ref a_UNDETERMINED)] [(.int (1 : Int32))]))
    refine Go.retZ X12 hx (t := .boolean) Bd.returns (by simp) Bd.notSynchronized (hb hby at_72) (by rw [e12]; exact ⟨rfl, N12⟩) (by decide) (by decide)
set_option maxRecDepth 65536 in
set_option maxHeartbeats 40000000 in
theorem comes_1 {Post : Tables → Env → Array Value → State → Outcome → State → Prop} (hpost : ∀ tb e args s v u, (limb_1_1.after args s (.returned v) u = true ∧ limb_1_2.after args s (.returned v) u = true ∧ True) → FrameEnd s (.returned v) u (Jvm.fieldLocs frame_1_writes args s ++ Jvm.arrayLocs frame_1_arrays args s ++ Jvm.staticLocs frame_1_statics s) 0 0 → Post tb e args s (.returned v) u) :
    ArmFor flags0 classFile x code maxLocals ret World_1 tables_1 room_1 Calls_1 rest_1 Pre_1 Post := by
  intro l hfl _ _ p e ha hc hk s m args below hf hA hF happ hP
  obtain ⟨hcalls, hrest, hpre⟩ := hP
  obtain ⟨-, -, -, hnamed, -, -, -, hat⟩ := (Spec.applies_iff hf).mp happ
  obtain ⟨hg, hn⟩ := and_e (Cond.before_iff.mp (show (Jvm.Cond.and given_1 narrow_1).before args s = true from hpre))
  obtain ⟨hgl, hgr⟩ := and_e hg
  obtain ⟨w0, rfl⟩ : ∃ w0 : Value, args = #[w0] := by
    have hs : args.size = 1 := by simpa [Cond.value, given_1] using hgl
    obtain ⟨L⟩ := args
    match L, hs with
    | [w0], _ => exact ⟨w0, rfl⟩
  have hw := fun d (hd : d ∈ tables_1) => atoms_spec (ws := Jvm.Cond.code x code maxLocals ret :: tables_1) hat d (List.mem_cons_of_mem _ hd)
  have hfit : Fit s := fun {y c} hc i hi => by
    obtain ⟨ha, rfl⟩ := Array.getElem?_eq_some_iff.mp hc
    have q := List.all_eq_true.mp ((Array.all_eq_true_iff_forall_mem.mp hF) _ (Array.getElem_mem ha)) i (List.mem_range.mpr hi)
    simpa [Array.getElem?_eq_getElem hi] using q
  obtain ⟨i0, ei0⟩ := is_v hgr
  obtain rfl : w0 = (.int i0) := Option.some.inj ei0
  obtain ⟨hnl, hnr⟩ := and_e hn
  obtain ⟨hnrl, hnrr⟩ := and_e hnr
  obtain ⟨hnrrl, hnrrr⟩ := and_e hnrr
  obtain ⟨hnrrrl, hnrrrr⟩ := and_e hnrrr
  obtain ⟨hnrrrrl, hnrrrrr⟩ := and_e hnrrrr
  obtain ⟨a_TRUE, ev_TRUE⟩ := exa_v hnl
  obtain ⟨a_FALSE, ev_FALSE⟩ := exa_v hnrl
  obtain ⟨a_UNDETERMINED, ev_UNDETERMINED⟩ := exa_v hnrrl
  have HW : Wd s a_TRUE a_FALSE a_UNDETERMINED := ⟨Sta.start ev_TRUE (Or.inr ⟨(hw _ (List.mem_of_getElem? (i := 2) rfl)), (hw _ (List.mem_of_getElem? (i := 3) rfl))⟩), Exa.start ev_TRUE hnl, Sta.start ev_FALSE (Or.inr ⟨(hw _ (List.mem_of_getElem? (i := 2) rfl)), (hw _ (List.mem_of_getElem? (i := 5) rfl))⟩), Exa.start ev_FALSE hnrl, Sta.start ev_UNDETERMINED (Or.inr ⟨(hw _ (List.mem_of_getElem? (i := 2) rfl)), (hw _ (List.mem_of_getElem? (i := 12) rfl))⟩), Exa.start ev_UNDETERMINED hnrrl, Fld.start ((fld_at ev_FALSE).symm.trans (eq_int hnrrrl)), Fld.start ((fld_at ev_TRUE).symm.trans (eq_int hnrrrrl)), Fld.start ((fld_at ev_UNDETERMINED).symm.trans (eq_int hnrrrrr))⟩
  obtain ⟨n, o, h1, h2, h3, _, L, rfl, ⟨rfl, N⟩, hq⟩ := rm0 l s _ hw tables_1 a_TRUE a_FALSE a_UNDETERMINED HW i0 s.heap s.heap.size (Old.start s)  p e ha hc hk s m _ below hf ((Spec.applies_iff_loose hf).mp happ).1 ⟨rfl, State.Warmed39.refl s, rfl⟩ trivial
  refine ⟨n, _, h1, h2, h3, hpost _ _ _ _ _ _ ⟨Cond.after_iff.mpr rfl, Cond.after_iff.mpr (eq_i res_at (Term.int_eval (1)) rfl), trivial⟩ ⟨hq.1, hq.2.1, (hq.2.2.sift fun y hy => Or.inr (N y hy)).mono (by decide) (by decide)⟩⟩
theorem main_1_1 : Claimed_1_1 := comes_1 fun _ _ _ _ _ _ h hF => ⟨h.1, hF⟩
theorem main_1_2 : Claimed_1_2 := comes_1 fun _ _ _ _ _ _ h hF => ⟨h.2.1, hF⟩
end Jvm.Pilot.@@N@@
namespace Jvm.Pilot.@@N@@
open Jvm Jvm.ClassFile Sem Op Lib Jvm.Free Jvm.Stand Jvm.Pilot.@@N@@.Jvm.D
/-! MADE BY PROGRAM (witnessworld.py) out of the Statement's table words and the real class files: 10 classes; the members and pool entries that the words name. The judged class is class 1, her method 1. -/
namespace start1
open Jvm.ClassFile
def u (s : String) : CpInfo := .utf8 (stringToUtf16 s)
/-- a pool by its gaps: so many unusable entries, then the entry; so many at the end -/
def gap : Nat → List CpInfo → List CpInfo
  | 0, r => r
  | n + 1, r => .unusable :: gap n r
def poolList (es : List (Nat × CpInfo)) (last : Nat) : List CpInfo := es.foldr (fun e r => gap e.1 (e.2 :: r)) (gap last [])
def pool (es : List (Nat × CpInfo)) (last : Nat) : Array CpInfo := ⟨poolList es last⟩
def fileOf (pool : Array CpInfo) (this : Nat) (attrs : Array Attribute := #[]) (ms : Array MethodInfo := #[]) (fl : Nat := 33) (sup : Nat := 0) (ifs : Array Nat := #[]) (fds : Array FieldInfo := #[]) : ClassFile where
  minorVersion := 0
  majorVersion := 65
  constantPool := pool
  accessFlags := fl
  thisClass := this
  superClass := sup
  interfaces := ifs
  fields := fds
  methods := ms
  attributes := attrs
def plain (name : String) (sup : Option ClassId) : Class where
  name := name
  kind := .ordinary
  loader := none
  accessFlags := 33
  super := sup
  interfaces := #[]
  cf := none
  fields := #[]
  methods := #[]
  instanceTypes := #[]
  staticTypes := #[]
  resolved := #[]
  callSites := []
  init := .initialized
  statics := none
  mirror := none

def pool0 : Array CpInfo := pool [(5, u "<init>"), (0, u "()V"), (1, .class_ 10), (1, u "java/lang/Object")] 113

def k0m0 : Method := { name := "<init>", desc := "()V", sig := { parameters := [], returnType := none }, accessFlags := 1, code := none }
/-- java/lang/Object -/
def k0 : Class := { plain "java/lang/Object" none with
  accessFlags := 33
  interfaces := #[]
  cf := some (fileOf pool0 8 #[] #[{ accessFlags := 1, nameIndex := 5, descriptorIndex := 6, attributes := #[] }] 33 0 #[] #[])
  fields := #[]
  methods := #[k0m0]
  instanceTypes := #[]
  staticTypes := #[]
  resolved := Array.replicate 124 none
  statics := none }

def pool1 : Array CpInfo := pool [(2, .class_ 4), (1, u "java/lang/Object"), (0, u "<init>"), (0, u "()V"), (0, .integer 2147483647), (0, .fieldref 9 10), (0, .class_ 11), (0, .nameAndType 12 13), (0, u "com/example/wacl/wacl/core/Condition$Truth"), (0, u "TRUE"), (0, u "Lcom/example/wacl/wacl/core/Condition$Truth;"), (0, .fieldref 9 15), (0, .nameAndType 16 13), (0, u "FALSE"), (0, .fieldref 9 18), (0, .nameAndType 19 13), (0, u "UNDETERMINED"), (0, .methodref 9 21), (0, .nameAndType 22 23), (0, u "not"), (0, u "()Lcom/example/wacl/wacl/core/Condition$Truth;"), (0, .class_ 25), (0, u "com/example/wacl/wacl/core/TruthNotPinLaw"), (2, u "law"), (0, u "(I)Z")] 7

def k1m0 : Method := { name := "<init>", desc := "()V", sig := { parameters := [], returnType := none }, accessFlags := 1, code := none }
def k1c1 : Code := { maxStack := 2, maxLocals := 5, code := code, exceptionTable := #[], attributes := #[] }
def k1m1 : Method := { name := "law", desc := "(I)Z", sig := { parameters := [.int], returnType := some .boolean }, accessFlags := 9, code := some k1c1 }
/-- com/example/wacl/wacl/core/TruthNotPinLaw -/
def k1 : Class := { plain "com/example/wacl/wacl/core/TruthNotPinLaw" (some 0) with
  accessFlags := 49
  interfaces := #[]
  cf := some (fileOf pool1 24 #[] #[{ accessFlags := 1, nameIndex := 5, descriptorIndex := 6, attributes := #[] }, { accessFlags := 9, nameIndex := 28, descriptorIndex := 29, attributes := #[] }] 49 2 #[] #[])
  fields := #[]
  methods := #[k1m0, k1m1]
  instanceTypes := #[]
  staticTypes := #[]
  resolved := Array.replicate 37 none
  statics := none }

def pool2 : Array CpInfo := pool [(1, .class_ 2), (0, u "java/lang/constant/Constable"), (0, .class_ 4), (0, u "java/lang/Object")] 6

/-- java/lang/constant/Constable -/
def k2 : Class := { plain "java/lang/constant/Constable" (some 0) with
  accessFlags := 1537
  interfaces := #[]
  cf := some (fileOf pool2 1 #[] #[] 1537 3 #[] #[])
  fields := #[]
  methods := #[]
  instanceTypes := #[]
  staticTypes := #[]
  resolved := Array.replicate 11 none
  statics := none }

def pool3 : Array CpInfo := pool [(1, .class_ 2), (0, u "java/lang/Comparable"), (0, .class_ 4), (0, u "java/lang/Object")] 7

/-- java/lang/Comparable -/
def k3 : Class := { plain "java/lang/Comparable" (some 0) with
  accessFlags := 1537
  interfaces := #[]
  cf := some (fileOf pool3 1 #[] #[] 1537 3 #[] #[])
  fields := #[]
  methods := #[]
  instanceTypes := #[]
  staticTypes := #[]
  resolved := Array.replicate 12 none
  statics := none }

def pool4 : Array CpInfo := pool [(1, .class_ 2), (0, u "java/io/Serializable"), (0, .class_ 4), (0, u "java/lang/Object")] 2

/-- java/io/Serializable -/
def k4 : Class := { plain "java/io/Serializable" (some 0) with
  accessFlags := 1537
  interfaces := #[]
  cf := some (fileOf pool4 1 #[] #[] 1537 3 #[] #[])
  fields := #[]
  methods := #[]
  instanceTypes := #[]
  staticTypes := #[]
  resolved := Array.replicate 7 none
  statics := none }

def pool5 : Array CpInfo := pool [(2, .class_ 4), (1, u "java/lang/Enum"), (0, u "name"), (0, u "Ljava/lang/String;"), (2, u "ordinal"), (0, u "I"), (1, .class_ 14), (1, u "java/lang/Object"), (4, u "hash"), (86, .class_ 108), (1, u "java/lang/Enum$EnumDesc"), (2, .class_ 112), (0, u "java/lang/constant/Constable"), (0, .class_ 114), (0, u "java/lang/Comparable"), (0, .class_ 116), (0, u "java/io/Serializable")] 87

/-- java/lang/Enum -/
def k5 : Class := { plain "java/lang/Enum" (some 0) with
  accessFlags := 1057
  interfaces := #[2, 3, 4]
  cf := some (fileOf pool5 2 #[.nestMembers #[106]] #[] 1057 12 #[111, 113, 115] #[{ accessFlags := 18, nameIndex := 5, descriptorIndex := 6, attributes := #[] }, { accessFlags := 18, nameIndex := 9, descriptorIndex := 10, attributes := #[] }, { accessFlags := 2, nameIndex := 19, descriptorIndex := 10, attributes := #[] }])
  fields := #[{ name := "name", type := (.object "java/lang/String"), accessFlags := 18, slot := 0, constantValue := 0 }, { name := "ordinal", type := .int, accessFlags := 18, slot := 1, constantValue := 0 }, { name := "hash", type := .int, accessFlags := 2, slot := 2, constantValue := 0 }]
  methods := #[]
  instanceTypes := #[(.object "java/lang/String"), .int, .int]
  staticTypes := #[]
  resolved := Array.replicate 204 none
  statics := none }

def pool6 : Array CpInfo := pool [(1, .class_ 2), (0, u "com/example/wacl/wacl/core/Condition$Truth"), (0, .fieldref 1 4), (0, .nameAndType 5 6), (0, u "TRUE"), (0, u "Lcom/example/wacl/wacl/core/Condition$Truth;"), (0, .fieldref 1 8), (0, .nameAndType 9 6), (0, u "FALSE"), (0, .fieldref 1 11), (0, .nameAndType 12 6), (0, u "UNDETERMINED"), (2, u "$VALUES"), (0, u "[Lcom/example/wacl/wacl/core/Condition$Truth;"), (6, .class_ 25), (1, u "java/lang/Enum"), (8, u "not"), (0, u "()Lcom/example/wacl/wacl/core/Condition$Truth;"), (28, .class_ 65), (0, u "com/example/wacl/wacl/core/Condition")] 2

def k6c0 : Code := { maxStack := 2, maxLocals := 2, code := prog_22_method_7_code, exceptionTable := #[], attributes := #[] }
def k6m0 : Method := { name := "not", desc := "()Lcom/example/wacl/wacl/core/Condition$Truth;", sig := { parameters := [], returnType := some (.object "com/example/wacl/wacl/core/Condition$Truth") }, accessFlags := 1, code := some k6c0 }
/-- com/example/wacl/wacl/core/Condition$Truth -/
def k6 : Class := { plain "com/example/wacl/wacl/core/Condition$Truth" (some 5) with
  accessFlags := 16433
  interfaces := #[]
  cf := some (fileOf pool6 1 #[.nestHost 64] #[{ accessFlags := 1, nameIndex := 34, descriptorIndex := 35, attributes := #[] }] 16433 23 #[] #[{ accessFlags := 16409, nameIndex := 5, descriptorIndex := 6, attributes := #[] }, { accessFlags := 16409, nameIndex := 9, descriptorIndex := 6, attributes := #[] }, { accessFlags := 16409, nameIndex := 12, descriptorIndex := 6, attributes := #[] }, { accessFlags := 4122, nameIndex := 15, descriptorIndex := 16, attributes := #[] }])
  fields := #[{ name := "TRUE", type := (.object "com/example/wacl/wacl/core/Condition$Truth"), accessFlags := 16409, slot := 0, constantValue := 0 }, { name := "FALSE", type := (.object "com/example/wacl/wacl/core/Condition$Truth"), accessFlags := 16409, slot := 1, constantValue := 0 }, { name := "UNDETERMINED", type := (.object "com/example/wacl/wacl/core/Condition$Truth"), accessFlags := 16409, slot := 2, constantValue := 0 }, { name := "$VALUES", type := (.array (.object "com/example/wacl/wacl/core/Condition$Truth")), accessFlags := 4122, slot := 3, constantValue := 0 }]
  methods := #[k6m0]
  instanceTypes := #[(.object "java/lang/String"), .int, .int]
  staticTypes := #[(.object "com/example/wacl/wacl/core/Condition$Truth"), (.object "com/example/wacl/wacl/core/Condition$Truth"), (.object "com/example/wacl/wacl/core/Condition$Truth"), (.array (.object "com/example/wacl/wacl/core/Condition$Truth"))]
  resolved := Array.replicate 68 none
  statics := some 0 }

def pool7 : Array CpInfo := pool [(1, u "java/lang/Cloneable"), (0, .class_ 1), (0, u "java/lang/Object"), (0, .class_ 3)] 3

/-- java/lang/Cloneable -/
def k7 : Class := { plain "java/lang/Cloneable" (some 0) with
  accessFlags := 1537
  interfaces := #[]
  cf := some (fileOf pool7 2 #[] #[] 1537 4 #[] #[])
  fields := #[]
  methods := #[]
  instanceTypes := #[]
  staticTypes := #[]
  resolved := Array.replicate 8 none
  statics := none }

/-- the primitive byte -/
def k8 : Class := { plain "byte" none with kind := .primitive 'B', accessFlags := 0x411 }
/-- [B -/
def k9 : Class := { plain "[B" (some 0) with kind := .array 8 .byte, interfaces := #[7, 4], accessFlags := 1041 }

def heap : Heap := #[{ cls := 6, slots := #[.ref 1, .ref 2, .ref 3, .null], vm := .statics 6 },
  { cls := 6, slots := #[.null, .int 0, .int 0], vm := .none },
  { cls := 6, slots := #[.null, .int 1, .int 0], vm := .none },
  { cls := 6, slots := #[.null, .int 2, .int 0], vm := .none }]
def classes : Array Class := #[k0, k1, k2, k3, k4, k5, k6, k7, k8, k9]
def interned : List (Array UInt16 × Addr) := []
def slotsUsed : Nat := 13
def theMethod : MethodId := ⟨1, 1⟩
def args0 : Array Value := #[.int 5]
def aboutOver (below : List Frame) : State where
  vm := { classes := classes, interned := interned.toArray }
  heap := heap
  slotsUsed := slotsUsed
  threads := #[{ frames := .invoking theMethod args0 :: below }]
def below0 : List Frame := [.native { method := ⟨0, 0⟩, args := #[] }]
def about1 : State := aboutOver below0
def p0 : Program := .bare "" "" ""
def e0 : Env := launch0.env 0 0 0
theorem w_frames : about1.frames = Frame.invoking theMethod args0 :: below0 := rfl
set_option maxRecDepth 65536 in
theorem w_args : argsFit about1.vm theMethod args0 = true := by decide +kernel
set_option maxRecDepth 65536 in
theorem w_heap : heapFits about1 = true := by decide +kernel
set_option maxRecDepth 65536 in
theorem w_runnable : about1.curStatus? = some .runnable := by decide +kernel
set_option maxRecDepth 65536 in
theorem w_alone : about1.alone = true := by decide +kernel
set_option maxRecDepth 65536 in
theorem w_named : about1.methodNamed? x = some theMethod := by decide +kernel
set_option maxRecDepth 65536 in
theorem w_hears : about1.hears theMethod below0 = true := by decide +kernel
set_option maxRecDepth 65536 in
theorem w_ripe : about1.ripe theMethod args0 below0 = true := by decide +kernel
theorem w_running : about1.status = .running := rfl
set_option maxRecDepth 65536 in
theorem w_room : about1.hasRoom e0.platform room_1 = true :=
  launch0.hasRoom_least _ room_1 (by decide +kernel) (by decide +kernel) (by decide +kernel) (by decide +kernel) (by decide +kernel) (by decide +kernel)
theorem allAtoms_all (ts : List Jvm.Cond) (a : Array Jvm.Value) (st : Jvm.State) : (allAtoms ts).before a st = ts.all (fun c => c.before a st) := by
  induction ts with
  | nil => rfl
  | cons c t ih =>
    show (Jvm.Cond.and c (allAtoms t)).before a st = _
    rw [Jvm.Cond.before_and, ih, List.all_cons]
def words1 : List Jvm.Cond := Jvm.Cond.code x code maxLocals ret :: tables_1
/-- a 'code' word, met by the world's own term for the bytes: nothing is compared byte by byte -/
theorem code_word {y : MethodName} {bytes : ByteArray} {mx : Nat} {rt : Option FieldType} {a : Array Value} {s : State} {m : MethodId} {meth : Method} {c : Code} (h1 : s.methodNamed? y = some m) (h2 : s.vm.method? m = some meth) (h3 : meth.code = some c) (h4 : c.code = bytes)
    (h5 : (c.maxLocals == mx && c.exceptionTable.isEmpty && decide (c.maxStack ≤ mostOperands) && decide (meth.sig.returnType = rt) && !meth.locks && decide (parseMethodDescriptor y.desc = some meth.sig)) = true) : (Jvm.Cond.code y bytes mx rt).before a s = true := by
  simp only [Bool.and_eq_true, beq_iff_eq, Bool.not_eq_true', decide_eq_true_eq] at h5
  obtain ⟨⟨⟨⟨⟨g1, g2⟩, g3⟩, g4⟩, g5⟩, g6⟩ := h5
  simp [Cond.before, Cond.holds, Cond.value, h1, h2, h3, h4, g1, g2, g3, g4, g5, g6]
def isCode : Jvm.Cond → Bool
  | .code _ _ _ _ => true
  | _ => false
theorem all_split {L : List Jvm.Cond} {P : Jvm.Cond → Bool} (h1 : L.all (fun c => isCode c || P c) = true) (h2 : ∀ c ∈ L.filter isCode, P c = true) : L.all P = true := by
  refine List.all_eq_true.mpr fun c hc => ?_
  have h := List.all_eq_true.mp h1 c hc
  rcases Bool.eq_false_or_eq_true (isCode c) with hi | hi
  · exact h2 c (List.mem_filter.mpr ⟨hc, hi⟩)
  · simpa [hi] using h
set_option maxRecDepth 65536 in
theorem w_c0 : (Jvm.Cond.code x code maxLocals ret).before args0 about1 = true := code_word (m := ⟨1, 1⟩) (meth := k1m1) (c := k1c1) (by decide +kernel) rfl rfl rfl (by decide +kernel)
set_option maxRecDepth 65536 in
theorem w_c1 : (Jvm.Cond.code ({ cls := "com/example/wacl/wacl/core/Condition$Truth", name := "not", desc := "()Lcom/example/wacl/wacl/core/Condition$Truth;" } : Jvm.MethodName) prog_22_method_7_code (2 : Nat) (Option.some (Jvm.ClassFile.FieldType.object "com/example/wacl/wacl/core/Condition$Truth"))).before args0 about1 = true := code_word (m := ⟨6, 0⟩) (meth := k6m0) (c := k6c0) (by decide +kernel) rfl rfl rfl (by decide +kernel)
def codes1 : List Jvm.Cond := [Jvm.Cond.code x code maxLocals ret, Jvm.Cond.code ({ cls := "com/example/wacl/wacl/core/Condition$Truth", name := "not", desc := "()Lcom/example/wacl/wacl/core/Condition$Truth;" } : Jvm.MethodName) prog_22_method_7_code (2 : Nat) (Option.some (Jvm.ClassFile.FieldType.object "com/example/wacl/wacl/core/Condition$Truth"))]
set_option maxRecDepth 65536 in
theorem codes_eq : words1.filter isCode = codes1 := rfl
theorem w_codes : ∀ c ∈ words1.filter isCode, c.before args0 about1 = true := by
  rw [codes_eq]
  intro c hc
  simp only [codes1, List.mem_cons, List.not_mem_nil, or_false] at hc
  rcases hc with rfl | rfl
  · exact w_c0
  · exact w_c1
set_option maxRecDepth 65536 in
theorem w_t1 : words1.all (fun c => isCode c || c.before args0 about1) = true := by decide +kernel
theorem w_tables : (allAtoms (Jvm.Cond.code x code maxLocals ret :: tables_1)).before args0 about1 = true := by
  rw [allAtoms_all]
  show words1.all (fun c => c.before args0 about1) = true
  refine all_split ?_ w_codes
  rw [w_t1]
set_option maxRecDepth 65536 in
theorem w_case : (Jvm.Cond.and given_1 narrow_1).before args0 about1 = true := by decide +kernel
theorem w_applies : (headSpec (Jvm.Cond.code x code maxLocals ret :: tables_1) room_1).applies x e0.platform about1 = true :=
  (Spec.applies_iff w_frames).mpr ⟨w_running, w_runnable, w_alone, w_named, w_hears, w_ripe, w_room, w_tables⟩
theorem atStart : AtStart classFile x code maxLocals ret World_1 tables_1 room_1 Calls_1 rest_1 Pre_1 launch0 p0 e0 about1 theMethod args0 below0 :=
  ⟨lists_1, trivial, launch0.admits_env _ _ _, launch0.least_env, fairChoices_fair.cas, fairChoices_fair.clock, w_frames, w_args, w_heap, w_applies, trivial, trivial, w_case⟩
end start1
theorem witness_1 : WitnessClaimed_1 := ⟨start1.p0, start1.e0, start1.about1, start1.theMethod, start1.args0, start1.below0, start1.atStart⟩
end Jvm.Pilot.@@N@@
