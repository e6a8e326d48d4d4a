import JvmDerived
import JvmDerived.Pilot.@@N@@Statement
import JvmDerived.Pilot.@@N@@Code
set_option linter.unusedVariables false
set_option linter.unusedSimpArgs false
@@BLOCK:NumsL.lean.txt@@
namespace Jvm.RoadKit
open Sem ClassFile Op Lib Jvm.Stand Jvm.Free Jvm.LawKit
section New
variable {p : Program} {l : Launch} {e : Env} {R : Room} {s : State} {m : MethodId} {args : Array Value} {below : List Frame} {meth : Method} {c : Code} {T : State} {locs : List Loc} {cells slots : Nat}
theorem retI (X : Stand p l e R s m args below meth c T locs cells slots) (hx : p.tables.exec = Jvm.exec) {pc : Nat} {Ls : Array Slot} {z : Int32} {rest : List Value} (hret : meth.sig.returnType = some .int) (hd : decode c.code pc = .ok (.ireturn, 1)) {fs : List Frame}
    (hl : ∀ (f : JFrame) (acts : List Action), f.method = m → f.locked = none → f.entered = [] → (doReturn e (T.setTop f) acts (some (.int z))).1 = T.setFrames fs) : Steps p.tables e below (T.setTop (mkF m pc Ls (.int z :: rest))) (T.setFrames fs) := by
  have hm' : T.vm.method? m = some meth := X.method'
  have hn : narrow .int (.int z) = .int z := rfl
  show Steps p.tables e below (T.setTop { method := m, pc := pc, locals := Ls, stack := _ :: rest, locked := none }) _
  jvm_step X.here [X.here.top, hx, hd, hm', hret, hn]
  first | (intro acts; rw [hl _ acts rfl rfl rfl]) | rw [hl _ _ rfl rfl rfl]
  exact Steps.refl _
end New
end Jvm.RoadKit
namespace Jvm.Pilot.@@N@@
open Jvm Jvm.ClassFile Sem Op Lib Jvm.Free Jvm.Stand Jvm.LawKit Jvm.RoadKit Bundle Jvm.Pilot.@@N@@.Jvm.D
/-- what a walk comes to, said forward -/
def Go (p : Program) (e : Env) (below : List Frame) (R : State → Outcome → Prop) (A : State) : Prop := ∃ t o, Steps p.tables e below A t ∧ R t o
def Fin1 (s : State) (below : List Frame) (Q : Option Value → Heap → List Loc → Prop) (K N : Nat) (t : State) (o : Outcome) : Prop := t.status = .running ∧ Ended t below o ∧ ∃ v L, o = .returned v ∧ Q v t.heap L ∧ FrameEnd s o t L K N
theorem Go.step {p : Program} {e : Env} {below : List Frame} {R : State → Outcome → Prop} {A B : State} (k : ∀ t, Steps p.tables e below A t → Steps p.tables e below B t) (h : Go p e below R A) : Go p e below R B := by
  obtain ⟨t, o, h1, h2⟩ := h
  exact ⟨t, o, k t h1, h2⟩
section GoRet
variable {p : Program} {l : Launch} {e : Env} {R : Room} {s : State} {m : MethodId} {args : Array Value} {below : List Frame} {meth : Method} {c : Code} {T : State} {locs : List Loc} {cells slots : Nat} {Q : Option Value → Heap → List Loc → Prop} {K N pc : Nat} {Ls : Array Slot} {rest : List Value}
theorem Go.retZ (X : Stand p l e R s m args below meth c T locs cells slots) (hx : p.tables.exec = Jvm.exec) {z : Int32} {t : FieldType} (hret : meth.sig.returnType = some t) (ht : t = .boolean ∨ t = .byte ∨ t = .char ∨ t = .short) (hlk : meth.locks = false) (hd : decode c.code pc = .ok (.ireturn, 1)) (hq : Q (some (.int (nar t z))) T.heap locs) (hc : cells ≤ K) (hn : slots ≤ N) : Go p e below (Fin1 s below Q K N) (T.setTop (mkF m pc Ls (.int z :: rest))) := by
  obtain ⟨fs, hr, hrun, hended, hW, hsame⟩ := X.leave (v := some (.int (nar t z))) (fun h => by rw [hret] at h; cases h) hlk
  exact ⟨_, _, retN X hx hret ht hd hr, hrun, hended, _, _, rfl, hq, ⟨_, rfl⟩, hW, hsame.mono hc hn⟩
theorem Go.retI (X : Stand p l e R s m args below meth c T locs cells slots) (hx : p.tables.exec = Jvm.exec) {z : Int32} (hret : meth.sig.returnType = some .int) (hlk : meth.locks = false) (hd : decode c.code pc = .ok (.ireturn, 1)) (hq : Q (some (.int z)) T.heap locs) (hc : cells ≤ K) (hn : slots ≤ N) : Go p e below (Fin1 s below Q K N) (T.setTop (mkF m pc Ls (.int z :: rest))) := by
  obtain ⟨fs, hr, hrun, hended, hW, hsame⟩ := X.leave (v := some (.int z)) (fun h => by rw [hret] at h; cases h) hlk
  exact ⟨_, _, Jvm.RoadKit.retI X hx hret hd hr, hrun, hended, _, _, rfl, hq, ⟨_, rfl⟩, hW, hsame.mono hc hn⟩
theorem Go.retJ (X : Stand p l e R s m args below meth c T locs cells slots) (hx : p.tables.exec = Jvm.exec) {z : Int64} (hret : meth.sig.returnType = some .long) (hlk : meth.locks = false) (hd : decode c.code pc = .ok (.lreturn, 1)) (hq : Q (some (.long z)) T.heap locs) (hc : cells ≤ K) (hn : slots ≤ N) : Go p e below (Fin1 s below Q K N) (T.setTop (mkF m pc Ls (.long z :: rest))) := by
  obtain ⟨fs, hr, hrun, hended, hW, hsame⟩ := X.leave (v := some (.long z)) (fun h => by rw [hret] at h; cases h) hlk
  exact ⟨_, _, retOut X hx hret rfl (Or.inr (Or.inl ⟨rfl, rfl, _, rfl⟩)) hd hr, hrun, hended, _, _, rfl, hq, ⟨_, rfl⟩, hW, hsame.mono hc hn⟩
theorem Go.retR (X : Stand p l e R s m args below meth c T locs cells slots) (hx : p.tables.exec = Jvm.exec) {w : Value} {t : FieldType} (hret : meth.sig.returnType = some t) (ht : t.isReference = true) (hw : w.isRef = true) (hlk : meth.locks = false) (hd : decode c.code pc = .ok (.areturn, 1)) (hq : Q (some w) T.heap locs) (hc : cells ≤ K) (hn : slots ≤ N) : Go p e below (Fin1 s below Q K N) (T.setTop (mkF m pc Ls (w :: rest))) := by
  obtain ⟨fs, hr, hrun, hended, hW, hsame⟩ := X.leave (v := some w) (fun h => by rw [hret] at h; cases h) hlk
  have hnw : narrow t w = w := by rcases ref_cases hw with rfl | ⟨a, rfl⟩ <;> cases t <;> first | rfl | (cases ht)
  exact ⟨_, _, retOut X hx hret hnw (Or.inr (Or.inr (Or.inr (Or.inr ⟨rfl, ht, hw⟩)))) hd hr, hrun, hended, _, _, rfl, hq, ⟨_, rfl⟩, hW, hsame.mono hc hn⟩
theorem Go.retV (X : Stand p l e R s m args below meth c T locs cells slots) (hx : p.tables.exec = Jvm.exec) (hret : meth.sig.returnType = none) (hlk : meth.locks = false) (hd : decode c.code pc = .ok (.return_, 1)) (hq : Q none T.heap locs) (hc : cells ≤ K) (hn : slots ≤ N) : Go p e below (Fin1 s below Q K N) (T.setTop (mkF m pc Ls [])) := by
  obtain ⟨fs, hr, hrun, hended, hW, hsame⟩ := X.leave (v := none) (fun _ => rfl) hlk
  exact ⟨_, _, X.returnOut hx hret hd hr, hrun, hended, _, _, rfl, hq, ⟨_, rfl⟩, hW, hsame.mono hc hn⟩
end GoRet
def Fin2 (s : State) (below : List Frame) (Q : Option Value → Heap → List Loc → Prop) (K N : Nat) (t : State) (o : Outcome) : Prop := t.status = .running ∧ Ended t below o ∧ ∃ v L, o = .returned v ∧ Q v t.heap L ∧ ReturnedEndW s o t L K N
theorem wmono {s t : State} {o : Outcome} {L : List Loc} {k n k' n' : Nat} (h : ReturnedEndW s o t L k n) (h1 : k ≤ k') (h2 : n ≤ n') : ReturnedEndW s o t L k' n' := ⟨h.1, h.2.1, h.2.2.1, h.2.2.2.mono h1 h2⟩
section GoRetW
variable {p : Program} {l : Launch} {e : Env} {R : Room} {s : State} {vm0 : Vm} {m : MethodId} {args : Array Value} {below : List Frame} {meth : Method} {c : Code} {T : State} {locs : List Loc} {cells slots : Nat} {Q : Option Value → Heap → List Loc → Prop} {K N pc k0 : Nat} {Ls : Array Slot} {rest : List Value}
theorem GoW.retZ (X : Stand p l e R (s.setVm vm0) m args below meth c T locs cells slots) (hS : s.Since vm0 k0) (hk : k0 ≤ T.heap.size) (hx : p.tables.exec = Jvm.exec) {z : Int32} {t : FieldType} (hret : meth.sig.returnType = some t) (ht : t = .boolean ∨ t = .byte ∨ t = .char ∨ t = .short) (hlk : meth.locks = false) (hd : decode c.code pc = .ok (.ireturn, 1)) (hq : Q (some (.int (nar t z))) T.heap locs) (hc : cells ≤ K) (hn : slots ≤ N) : Go p e below (Fin2 s below Q K N) (T.setTop (mkF m pc Ls (.int z :: rest))) := by
  obtain ⟨fs, hr, hrun, hended, hW⟩ := X.leaveW hS hk (v := some (.int (nar t z))) (fun h => by rw [hret] at h; cases h) hlk
  exact ⟨_, _, retN X hx hret ht hd hr, hrun, hended, _, _, rfl, hq, wmono hW hc hn⟩
theorem GoW.retI (X : Stand p l e R (s.setVm vm0) m args below meth c T locs cells slots) (hS : s.Since vm0 k0) (hk : k0 ≤ T.heap.size) (hx : p.tables.exec = Jvm.exec) {z : Int32} (hret : meth.sig.returnType = some .int) (hlk : meth.locks = false) (hd : decode c.code pc = .ok (.ireturn, 1)) (hq : Q (some (.int z)) T.heap locs) (hc : cells ≤ K) (hn : slots ≤ N) : Go p e below (Fin2 s below Q K N) (T.setTop (mkF m pc Ls (.int z :: rest))) := by
  obtain ⟨fs, hr, hrun, hended, hW⟩ := X.leaveW hS hk (v := some (.int z)) (fun h => by rw [hret] at h; cases h) hlk
  exact ⟨_, _, Jvm.RoadKit.retI X hx hret hd hr, hrun, hended, _, _, rfl, hq, wmono hW hc hn⟩
theorem GoW.retR (X : Stand p l e R (s.setVm vm0) m args below meth c T locs cells slots) (hS : s.Since vm0 k0) (hk : k0 ≤ T.heap.size) (hx : p.tables.exec = Jvm.exec) {w : Value} {t : FieldType} (hret : meth.sig.returnType = some t) (ht : t.isReference = true) (hw : w.isRef = true) (hlk : meth.locks = false) (hd : decode c.code pc = .ok (.areturn, 1)) (hq : Q (some w) T.heap locs) (hc : cells ≤ K) (hn : slots ≤ N) : Go p e below (Fin2 s below Q K N) (T.setTop (mkF m pc Ls (w :: rest))) := by
  obtain ⟨fs, hr, hrun, hended, hW⟩ := X.leaveW hS hk (v := some w) (fun h => by rw [hret] at h; cases h) hlk
  have hnw : narrow t w = w := by rcases ref_cases hw with rfl | ⟨a, rfl⟩ <;> cases t <;> first | rfl | (cases ht)
  exact ⟨_, _, retOut X hx hret hnw (Or.inr (Or.inr (Or.inr (Or.inr ⟨rfl, ht, hw⟩)))) hd hr, hrun, hended, _, _, rfl, hq, wmono hW hc hn⟩
theorem GoW.retV (X : Stand p l e R (s.setVm vm0) m args below meth c T locs cells slots) (hS : s.Since vm0 k0) (hk : k0 ≤ T.heap.size) (hx : p.tables.exec = Jvm.exec) (hret : meth.sig.returnType = none) (hlk : meth.locks = false) (hd : decode c.code pc = .ok (.return_, 1)) (hq : Q none T.heap locs) (hc : cells ≤ K) (hn : slots ≤ N) : Go p e below (Fin2 s below Q K N) (T.setTop (mkF m pc Ls [])) := by
  obtain ⟨fs, hr, hrun, hended, hW⟩ := X.leaveW hS hk (v := none) (fun _ => rfl) hlk
  exact ⟨_, _, X.returnOut hx hret hd hr, hrun, hended, _, _, rfl, hq, wmono hW hc hn⟩
end GoRetW
theorem old_z0 {Z : State} {n0 : Nat} {h : Heap} (O : Old Z n0 h) : n0 ≤ h.size := O.1 ▸ O.2.1
theorem eq_long {args : Array Value} {s : State} {t : Term} {z : Int64} (h : (Jvm.Cond.eq t (.long z)).value args s none s [] = some true) : t.eval args s none [] s = some (.long z) := by
  simp only [Cond.value, Term.eval] at h
  cases e : t.eval args s none [] s with
  | none => simp [e] at h
  | some v => cases v <;> simp_all
theorem eq_int {args : Array Value} {s : State} {t : Term} {z : Int32} (h : (Jvm.Cond.eq t (.int z)).value args s none s [] = some true) : t.eval args s none [] s = some (.int z) := by
  simp only [Cond.value, Term.eval] at h
  cases e : t.eval args s none [] s with
  | none => simp [e] at h
  | some v => cases v <;> simp_all
def Wd (Z : State) (a_INSTALLMENTS : Addr) : Prop := (Sta Z Z.heap "com/example/overcap/overcap/model/Distribution$Form" "INSTALLMENTS" "Lcom/example/overcap/overcap/model/Distribution$Form;" (.ref a_INSTALLMENTS)) ∧ (Exa Z Z.heap a_INSTALLMENTS "com/example/overcap/overcap/model/Distribution$Form")
theorem i32_is {k : Int32} (z : Int32) (h : k.toInt = z.toInt) : k = z := Int32.toInt_inj.mp h
theorem rem_bd (x m : Int32) (hm : 0 < m.toInt) : 0 ≤ ((x &&& (2147483647 : Int32)) % m).toInt ∧ ((x &&& (2147483647 : Int32)) % m).toInt < m.toInt := by
  have e1 : (x &&& (2147483647 : Int32)).toInt = x.toInt % 2 ^ 31 := Jvm.Kit.i32_mask x 2147483647 (k := 31) (by decide) (by decide)
  have h0 : 0 ≤ (x &&& (2147483647 : Int32)).toInt := by rw [e1]; exact Int.emod_nonneg _ (by decide)
  rw [Jvm.Kit.i32_rem_nonneg h0]
  exact ⟨Int.emod_nonneg _ (by omega), Int.emod_lt_of_pos _ hm⟩

theorem d1_0 : decode jdk_29_method_69_code 0 = .ok (.iload_n 0, 1) := by decide +kernel
theorem d1_1 : decode jdk_29_method_69_code 1 = .ok (.iload_n 1, 1) := by decide +kernel
theorem d1_2 : decode jdk_29_method_69_code 2 = .ok (.if_icmp .gt 7, 3) := by decide +kernel
theorem d1_9 : decode jdk_29_method_69_code 9 = .ok (.iload_n 1, 1) := by decide +kernel
theorem d1_10 : decode jdk_29_method_69_code 10 = .ok (.ireturn, 1) := by decide +kernel
theorem d1_5 : decode jdk_29_method_69_code 5 = .ok (.iload_n 0, 1) := by decide +kernel
theorem d1_6 : decode jdk_29_method_69_code 6 = .ok (.goto 4, 3) := by decide +kernel
theorem ef_rm1 (m : MethodId) (x0 : Int32) (x1 : Int32)  : entryFrame m #[(.int x0), (.int x1)] 2 = mkF m 0 #[.val (.int x0), .val (.int x1)] [] := by first | (simp [entryFrame, mkF, argsToLocals, Value.category]; done) | rfl
def Q_rm1 (Z : State) (a_INSTALLMENTS : Addr) (u1 : Int32) (u2 : Int32) (res : Int32) (h0 : Heap) (n0 : Nat) (v : Option Value) (h : Heap) (L : List Loc) : Prop := v = some (.int res) ∧ Fr n0 L ∧ h = h0
set_option maxRecDepth 65536 in
set_option maxHeartbeats 40000000 in
theorem rm1 (l : Launch) (Z : State) (a0 : Array Value) (hw : ∀ d ∈ tables_1, d.before a0 Z = true) (ws : List Jvm.Cond) (a_INSTALLMENTS : Addr) (HW : Wd Z a_INSTALLMENTS) (u1 : Int32) (u2 : Int32) (res : Int32) (h0 : Heap) (n0 : Nat) (Ol : Old Z n0 h0)  (hres : (if u2 < u1 then u2 else u1) = res) :
    MetFree l (⟨"java/lang/Math", "min", "(II)I"⟩ : MethodName) (head1 (Jvm.Cond.code (⟨"java/lang/Math", "min", "(II)I"⟩ : MethodName) jdk_29_method_69_code 2 (some .int) :: ws) ({ frames := 0, cells := 0, slots := 0, locals := 0 } : Room)) (fun a_ U_ => a_ = #[(.int u1), (.int u2)] ∧ Z.Warmed39 U_.vm ∧ U_.heap = h0) (fun _ _ _ _ _ => True) (fun _ U_ o_ V_ => ∃ v_ L_, o_ = .returned v_ ∧ Q_rm1 Z a_INSTALLMENTS u1 u2 res h0 n0 v_ V_.heap L_ ∧ FrameEnd U_ o_ V_ L_ ({ frames := 0, cells := 0, slots := 0, locals := 0 } : Room).cells ({ frames := 0, cells := 0, slots := 0, locals := 0 } : Room).slots) := by
  refine MetFree.of_bodySF (Jvm.Free.JP.mathPlain rfl (by decide +kernel)) hisR ?_
  intro p e s m args below meth c s₁ Bd hml0 hP hK
  obtain ⟨rfl, hZ, hh⟩ := hP
  have hx := Bd.exec
  have hby := Bd.bytes
  have hml : c.maxLocals = 2 := hml0
  have hown : s.vm.findClass "java/lang/Math" = some m.cls := findClass_of_methodNamed Bd.named
  have hnm := (name_of_methodNamed Bd.named Bd.method).1
  have X0 : Stand p l e ({ frames := 0, cells := 0, slots := 0, locals := 0 } : Room) s m #[(.int u1), (.int u2)] below meth c s₁ [] 0 0 := Stand.of_body Bd
  have e0 : s₁.heap = h0 := by rw [← hh, Bd.state]; rfl
  have N0 := Fr.nil n0
  have kp0 := Keep.refl h0 []
  show Go p e below (Fin1 s below (Q_rm1 Z a_INSTALLMENTS u1 u2 res h0 n0) ({ frames := 0, cells := 0, slots := 0, locals := 0 } : Room).cells ({ frames := 0, cells := 0, slots := 0, locals := 0 } : Room).slots) _
  refine Go.step (fun t_ k_ => castTop (ef_rm1 m u1 u2) k_) ?_
  obtain ⟨S_INSTALLMENTS, E_INSTALLMENTS⟩ := id HW
  show Go p e below _ (s₁.setTop (mkF m 0 #[.val (.int u1), .val (.int u2)] []))
  refine Go.step (fun t_ k_ => XS.iloadN X0.here hx rfl (hb hby d1_0) rfl k_) ?_
  show Go p e below _ (s₁.setTop (mkF m 1 #[.val (.int u1), .val (.int u2)] [(.int u1)]))
  refine Go.step (fun t_ k_ => XS.iloadN X0.here hx rfl (hb hby d1_1) rfl k_) ?_
  show Go p e below _ (s₁.setTop (mkF m 2 #[.val (.int u1), .val (.int u2)] [(.int u2), (.int u1)]))
  by_cases hc2 : u2 < u1
  case pos =>
    refine Go.step (fun t_ k_ => XS.icmpYes X0.here hx rfl (pc0 := 2) (pc' := 9) rfl (hb hby d1_2) rfl (tlt hc2).2.2.1 (by decide) (by decide) k_) ?_
    show Go p e below _ (s₁.setTop (mkF m 9 #[.val (.int u1), .val (.int u2)] []))
    refine Go.step (fun t_ k_ => XS.iloadN X0.here hx rfl (hb hby d1_9) rfl k_) ?_
    show Go p e below _ (s₁.setTop (mkF m 10 #[.val (.int u1), .val (.int u2)] [(.int u2)]))
    refine Go.retI X0 hx Bd.returns Bd.notSynchronized (hb hby d1_10) (by rw [e0]; exact ⟨by first | (rw [← hres]; done) | (rw [← hres]; simp [if_pos hc2]; done) | (rw [← hres]; simp [hc2]; done) | (rw [← hres]; simp_all; done), N0, rfl⟩) (by decide) (by decide)
  case neg =>
    refine Go.step (fun t_ k_ => XS.icmpNo X0.here hx rfl (hb hby d1_2) rfl (flt hc2).2.2.1 k_) ?_
    show Go p e below _ (s₁.setTop (mkF m 5 #[.val (.int u1), .val (.int u2)] []))
    refine Go.step (fun t_ k_ => XS.iloadN X0.here hx rfl (hb hby d1_5) rfl k_) ?_
    show Go p e below _ (s₁.setTop (mkF m 6 #[.val (.int u1), .val (.int u2)] [(.int u1)]))
    refine Go.step (fun t_ k_ => XS.goto X0.here hx rfl (pc0 := 6) (pc' := 10) rfl (hb hby d1_6) (by decide) (by decide) k_) ?_
    show Go p e below _ (s₁.setTop (mkF m 10 #[.val (.int u1), .val (.int u2)] [(.int u1)]))
    refine Go.retI X0 hx Bd.returns Bd.notSynchronized (hb hby d1_10) (by rw [e0]; exact ⟨by first | (rw [← hres]; done) | (rw [← hres]; simp [if_neg hc2]; done) | (rw [← hres]; simp [hc2]; done) | (rw [← hres]; simp_all; done), N0, rfl⟩) (by decide) (by decide)
theorem d2_0 : decode jdk_29_method_65_code 0 = .ok (.iload_n 0, 1) := by decide +kernel
theorem d2_1 : decode jdk_29_method_65_code 1 = .ok (.iload_n 1, 1) := by decide +kernel
theorem d2_2 : decode jdk_29_method_65_code 2 = .ok (.if_icmp .lt 7, 3) := by decide +kernel
theorem d2_9 : decode jdk_29_method_65_code 9 = .ok (.iload_n 1, 1) := by decide +kernel
theorem d2_10 : decode jdk_29_method_65_code 10 = .ok (.ireturn, 1) := by decide +kernel
theorem d2_5 : decode jdk_29_method_65_code 5 = .ok (.iload_n 0, 1) := by decide +kernel
theorem d2_6 : decode jdk_29_method_65_code 6 = .ok (.goto 4, 3) := by decide +kernel
theorem ef_rm2 (m : MethodId) (x0 : Int32) (x1 : Int32)  : entryFrame m #[(.int x0), (.int x1)] 2 = mkF m 0 #[.val (.int x0), .val (.int x1)] [] := by first | (simp [entryFrame, mkF, argsToLocals, Value.category]; done) | rfl
def Q_rm2 (Z : State) (a_INSTALLMENTS : Addr) (u1 : Int32) (u2 : Int32) (res : Int32) (h0 : Heap) (n0 : Nat) (v : Option Value) (h : Heap) (L : List Loc) : Prop := v = some (.int res) ∧ Fr n0 L ∧ h = h0
set_option maxRecDepth 65536 in
set_option maxHeartbeats 40000000 in
theorem rm2 (l : Launch) (Z : State) (a0 : Array Value) (hw : ∀ d ∈ tables_1, d.before a0 Z = true) (ws : List Jvm.Cond) (a_INSTALLMENTS : Addr) (HW : Wd Z a_INSTALLMENTS) (u1 : Int32) (u2 : Int32) (res : Int32) (h0 : Heap) (n0 : Nat) (Ol : Old Z n0 h0)  (hres : (if u1 < u2 then u2 else u1) = res) :
    MetFree l (⟨"java/lang/Math", "max", "(II)I"⟩ : MethodName) (head1 (Jvm.Cond.code (⟨"java/lang/Math", "max", "(II)I"⟩ : MethodName) jdk_29_method_65_code 2 (some .int) :: ws) ({ frames := 0, cells := 0, slots := 0, locals := 0 } : Room)) (fun a_ U_ => a_ = #[(.int u1), (.int u2)] ∧ Z.Warmed39 U_.vm ∧ U_.heap = h0) (fun _ _ _ _ _ => True) (fun _ U_ o_ V_ => ∃ v_ L_, o_ = .returned v_ ∧ Q_rm2 Z a_INSTALLMENTS u1 u2 res h0 n0 v_ V_.heap L_ ∧ FrameEnd U_ o_ V_ L_ ({ frames := 0, cells := 0, slots := 0, locals := 0 } : Room).cells ({ frames := 0, cells := 0, slots := 0, locals := 0 } : Room).slots) := by
  refine MetFree.of_bodySF (Jvm.Free.JP.mathPlain rfl (by decide +kernel)) hisR ?_
  intro p e s m args below meth c s₁ Bd hml0 hP hK
  obtain ⟨rfl, hZ, hh⟩ := hP
  have hx := Bd.exec
  have hby := Bd.bytes
  have hml : c.maxLocals = 2 := hml0
  have hown : s.vm.findClass "java/lang/Math" = some m.cls := findClass_of_methodNamed Bd.named
  have hnm := (name_of_methodNamed Bd.named Bd.method).1
  have X0 : Stand p l e ({ frames := 0, cells := 0, slots := 0, locals := 0 } : Room) s m #[(.int u1), (.int u2)] below meth c s₁ [] 0 0 := Stand.of_body Bd
  have e0 : s₁.heap = h0 := by rw [← hh, Bd.state]; rfl
  have N0 := Fr.nil n0
  have kp0 := Keep.refl h0 []
  show Go p e below (Fin1 s below (Q_rm2 Z a_INSTALLMENTS u1 u2 res h0 n0) ({ frames := 0, cells := 0, slots := 0, locals := 0 } : Room).cells ({ frames := 0, cells := 0, slots := 0, locals := 0 } : Room).slots) _
  refine Go.step (fun t_ k_ => castTop (ef_rm2 m u1 u2) k_) ?_
  obtain ⟨S_INSTALLMENTS, E_INSTALLMENTS⟩ := id HW
  show Go p e below _ (s₁.setTop (mkF m 0 #[.val (.int u1), .val (.int u2)] []))
  refine Go.step (fun t_ k_ => XS.iloadN X0.here hx rfl (hb hby d2_0) rfl k_) ?_
  show Go p e below _ (s₁.setTop (mkF m 1 #[.val (.int u1), .val (.int u2)] [(.int u1)]))
  refine Go.step (fun t_ k_ => XS.iloadN X0.here hx rfl (hb hby d2_1) rfl k_) ?_
  show Go p e below _ (s₁.setTop (mkF m 2 #[.val (.int u1), .val (.int u2)] [(.int u2), (.int u1)]))
  by_cases hc2 : u1 < u2
  case pos =>
    refine Go.step (fun t_ k_ => XS.icmpYes X0.here hx rfl (pc0 := 2) (pc' := 9) rfl (hb hby d2_2) rfl (tlt hc2).1 (by decide) (by decide) k_) ?_
    show Go p e below _ (s₁.setTop (mkF m 9 #[.val (.int u1), .val (.int u2)] []))
    refine Go.step (fun t_ k_ => XS.iloadN X0.here hx rfl (hb hby d2_9) rfl k_) ?_
    show Go p e below _ (s₁.setTop (mkF m 10 #[.val (.int u1), .val (.int u2)] [(.int u2)]))
    refine Go.retI X0 hx Bd.returns Bd.notSynchronized (hb hby d2_10) (by rw [e0]; exact ⟨by first | (rw [← hres]; done) | (rw [← hres]; simp [if_pos hc2]; done) | (rw [← hres]; simp [hc2]; done) | (rw [← hres]; simp_all; done), N0, rfl⟩) (by decide) (by decide)
  case neg =>
    refine Go.step (fun t_ k_ => XS.icmpNo X0.here hx rfl (hb hby d2_2) rfl (flt hc2).1 k_) ?_
    show Go p e below _ (s₁.setTop (mkF m 5 #[.val (.int u1), .val (.int u2)] []))
    refine Go.step (fun t_ k_ => XS.iloadN X0.here hx rfl (hb hby d2_5) rfl k_) ?_
    show Go p e below _ (s₁.setTop (mkF m 6 #[.val (.int u1), .val (.int u2)] [(.int u1)]))
    refine Go.step (fun t_ k_ => XS.goto X0.here hx rfl (pc0 := 6) (pc' := 10) rfl (hb hby d2_6) (by decide) (by decide) k_) ?_
    show Go p e below _ (s₁.setTop (mkF m 10 #[.val (.int u1), .val (.int u2)] [(.int u1)]))
    refine Go.retI X0 hx Bd.returns Bd.notSynchronized (hb hby d2_10) (by rw [e0]; exact ⟨by first | (rw [← hres]; done) | (rw [← hres]; simp [if_neg hc2]; done) | (rw [← hres]; simp [hc2]; done) | (rw [← hres]; simp_all; done), N0, rfl⟩) (by decide) (by decide)
theorem d3_0 : decode prog_8_method_6_code 0 = .ok (.iload_n 0, 1) := by decide +kernel
theorem d3_1 : decode prog_8_method_6_code 1 = .ok (.iconst 2, 1) := by decide +kernel
theorem d3_2 : decode prog_8_method_6_code 2 = .ok (.if_icmp .lt 13, 3) := by decide +kernel
theorem d3_15 : decode prog_8_method_6_code 15 = .ok (.iconst 0, 1) := by decide +kernel
theorem d3_16 : decode prog_8_method_6_code 16 = .ok (.ireturn, 1) := by decide +kernel
theorem d3_5 : decode prog_8_method_6_code 5 = .ok (.iload_n 0, 1) := by decide +kernel
theorem d3_6 : decode prog_8_method_6_code 6 = .ok (.bipush 15, 2) := by decide +kernel
theorem d3_8 : decode prog_8_method_6_code 8 = .ok (.if_icmp .gt 7, 3) := by decide +kernel
theorem d3_11 : decode prog_8_method_6_code 11 = .ok (.iconst 1, 1) := by decide +kernel
theorem d3_12 : decode prog_8_method_6_code 12 = .ok (.goto 4, 3) := by decide +kernel
theorem pn_0 : plainName "com/example/overcap/overcap/model/Distribution" = true := by first | (simp [plainName, overriddenIn]; done) | decide +kernel
theorem ef_rm3 (m : MethodId) (x0 : Int32)  : entryFrame m #[(.int x0)] 1 = mkF m 0 #[.val (.int x0)] [] := by first | (simp [entryFrame, mkF, argsToLocals, Value.category]; done) | rfl
def Q_rm3 (Z : State) (a_INSTALLMENTS : Addr) (u : Int32) (res : Int32) (h0 : Heap) (n0 : Nat) (v : Option Value) (h : Heap) (L : List Loc) : Prop := v = some (.int res) ∧ Fr n0 L ∧ h = h0
set_option maxRecDepth 65536 in
set_option maxHeartbeats 40000000 in
theorem rm3 (l : Launch) (Z : State) (a0 : Array Value) (hw : ∀ d ∈ tables_1, d.before a0 Z = true) (ws : List Jvm.Cond) (a_INSTALLMENTS : Addr) (HW : Wd Z a_INSTALLMENTS) (u : Int32) (res : Int32) (h0 : Heap) (n0 : Nat) (Ol : Old Z n0 h0)  (hres : ((if u < (2 : Int32) then 0 else if (15 : Int32) < u then 0 else 1 : Int32)) = res) :
    MetFree l (⟨"com/example/overcap/overcap/model/Distribution", "paysInstallmentsOver", "(I)Z"⟩ : MethodName) (head1 (Jvm.Cond.code (⟨"com/example/overcap/overcap/model/Distribution", "paysInstallmentsOver", "(I)Z"⟩ : MethodName) prog_8_method_6_code 1 (some .boolean) :: ws) ({ frames := 0, cells := 0, slots := 0, locals := 0 } : Room)) (fun a_ U_ => a_ = #[(.int u)] ∧ Z.Warmed39 U_.vm ∧ U_.heap = h0) (fun _ _ _ _ _ => True) (fun _ U_ o_ V_ => ∃ v_ L_, o_ = .returned v_ ∧ Q_rm3 Z a_INSTALLMENTS u res h0 n0 v_ V_.heap L_ ∧ FrameEnd U_ o_ V_ L_ ({ frames := 0, cells := 0, slots := 0, locals := 0 } : Room).cells ({ frames := 0, cells := 0, slots := 0, locals := 0 } : Room).slots) := by
  refine MetFree.of_bodySF (plainFor_of_name pn_0) hisR ?_
  intro p e s m args below meth c s₁ Bd hml0 hP hK
  obtain ⟨rfl, hZ, hh⟩ := hP
  have hx := Bd.exec
  have hby := Bd.bytes
  have hml : c.maxLocals = 1 := hml0
  have hown : s.vm.findClass "com/example/overcap/overcap/model/Distribution" = some m.cls := findClass_of_methodNamed Bd.named
  have hnm := (name_of_methodNamed Bd.named Bd.method).1
  have X0 : Stand p l e ({ frames := 0, cells := 0, slots := 0, locals := 0 } : Room) s m #[(.int u)] below meth c s₁ [] 0 0 := Stand.of_body Bd
  have e0 : s₁.heap = h0 := by rw [← hh, Bd.state]; rfl
  have N0 := Fr.nil n0
  have kp0 := Keep.refl h0 []
  show Go p e below (Fin1 s below (Q_rm3 Z a_INSTALLMENTS u res h0 n0) ({ frames := 0, cells := 0, slots := 0, locals := 0 } : Room).cells ({ frames := 0, cells := 0, slots := 0, locals := 0 } : Room).slots) _
  refine Go.step (fun t_ k_ => castTop (ef_rm3 m u) k_) ?_
  obtain ⟨S_INSTALLMENTS, E_INSTALLMENTS⟩ := id HW
  show Go p e below _ (s₁.setTop (mkF m 0 #[.val (.int u)] []))
  refine Go.step (fun t_ k_ => XS.iloadN X0.here hx rfl (hb hby d3_0) rfl k_) ?_
  show Go p e below _ (s₁.setTop (mkF m 1 #[.val (.int u)] [(.int u)]))
  refine Go.step (fun t_ k_ => XS.iconst X0.here hx rfl (hb hby d3_1) k_) ?_
  show Go p e below _ (s₁.setTop (mkF m 2 #[.val (.int u)] [(.int (2 : Int32)), (.int u)]))
  by_cases hc2 : u < (2 : Int32)
  case pos =>
    refine Go.step (fun t_ k_ => XS.icmpYes X0.here hx rfl (pc0 := 2) (pc' := 15) rfl (hb hby d3_2) rfl (tlt hc2).1 (by decide) (by decide) k_) ?_
    show Go p e below _ (s₁.setTop (mkF m 15 #[.val (.int u)] []))
    refine Go.step (fun t_ k_ => XS.iconst X0.here hx rfl (hb hby d3_15) k_) ?_
    show Go p e below _ (s₁.setTop (mkF m 16 #[.val (.int u)] [(.int (0 : Int32))]))
    refine Go.retZ X0 hx (t := .boolean) Bd.returns (by simp) Bd.notSynchronized (hb hby d3_16) (by rw [e0]; exact ⟨by first | (rw [← hres]; done) | (rw [← hres]; simp [if_pos hc2, nar]; done) | (rw [← hres]; simp [hc2, nar]; done) | (rw [← hres]; simp_all; done), N0, rfl⟩) (by decide) (by decide)
  case neg =>
    refine Go.step (fun t_ k_ => XS.icmpNo X0.here hx rfl (hb hby d3_2) rfl (flt hc2).1 k_) ?_
    show Go p e below _ (s₁.setTop (mkF m 5 #[.val (.int u)] []))
    refine Go.step (fun t_ k_ => XS.iloadN X0.here hx rfl (hb hby d3_5) rfl k_) ?_
    show Go p e below _ (s₁.setTop (mkF m 6 #[.val (.int u)] [(.int u)]))
    refine Go.step (fun t_ k_ => XS.bipush X0.here hx rfl (hb hby d3_6) k_) ?_
    show Go p e below _ (s₁.setTop (mkF m 8 #[.val (.int u)] [(.int (15 : Int32)), (.int u)]))
    by_cases hc8 : (15 : Int32) < u
    case pos =>
      refine Go.step (fun t_ k_ => XS.icmpYes X0.here hx rfl (pc0 := 8) (pc' := 15) rfl (hb hby d3_8) rfl (tlt hc8).2.2.1 (by decide) (by decide) k_) ?_
      show Go p e below _ (s₁.setTop (mkF m 15 #[.val (.int u)] []))
      refine Go.step (fun t_ k_ => XS.iconst X0.here hx rfl (hb hby d3_15) k_) ?_
      show Go p e below _ (s₁.setTop (mkF m 16 #[.val (.int u)] [(.int (0 : Int32))]))
      refine Go.retZ X0 hx (t := .boolean) Bd.returns (by simp) Bd.notSynchronized (hb hby d3_16) (by rw [e0]; exact ⟨by first | (rw [← hres]; done) | (rw [← hres]; simp [if_neg hc2, if_pos hc8, nar]; done) | (rw [← hres]; simp [hc2, hc8, nar]; done) | (rw [← hres]; simp_all; done), N0, rfl⟩) (by decide) (by decide)
    case neg =>
      refine Go.step (fun t_ k_ => XS.icmpNo X0.here hx rfl (hb hby d3_8) rfl (flt hc8).2.2.1 k_) ?_
      show Go p e below _ (s₁.setTop (mkF m 11 #[.val (.int u)] []))
      refine Go.step (fun t_ k_ => XS.iconst X0.here hx rfl (hb hby d3_11) k_) ?_
      show Go p e below _ (s₁.setTop (mkF m 12 #[.val (.int u)] [(.int (1 : Int32))]))
      refine Go.step (fun t_ k_ => XS.goto X0.here hx rfl (pc0 := 12) (pc' := 16) rfl (hb hby d3_12) (by decide) (by decide) k_) ?_
      show Go p e below _ (s₁.setTop (mkF m 16 #[.val (.int u)] [(.int (1 : Int32))]))
      refine Go.retZ X0 hx (t := .boolean) Bd.returns (by simp) Bd.notSynchronized (hb hby d3_16) (by rw [e0]; exact ⟨by first | (rw [← hres]; done) | (rw [← hres]; simp [if_neg hc2, if_neg hc8, nar]; done) | (rw [← hres]; simp [hc2, hc8, nar]; done) | (rw [← hres]; simp_all; done), N0, rfl⟩) (by decide) (by decide)
theorem d5_0 : decode prog_8_method_1_code 0 = .ok (.aload_n 0, 1) := by decide +kernel
theorem d5_1 : decode prog_8_method_1_code 1 = .ok (.invokespecial 1, 3) := by decide +kernel
theorem d5_4 : decode prog_8_method_1_code 4 = .ok (.aload_n 0, 1) := by decide +kernel
theorem d5_5 : decode prog_8_method_1_code 5 = .ok (.aload_n 1, 1) := by decide +kernel
theorem d5_6 : decode prog_8_method_1_code 6 = .ok (.putfield 7, 3) := by decide +kernel
theorem d5_9 : decode prog_8_method_1_code 9 = .ok (.aload_n 0, 1) := by decide +kernel
theorem d5_10 : decode prog_8_method_1_code 10 = .ok (.iload_n 2, 1) := by decide +kernel
theorem d5_11 : decode prog_8_method_1_code 11 = .ok (.putfield 13, 3) := by decide +kernel
theorem d5_14 : decode prog_8_method_1_code 14 = .ok (.return_, 1) := by decide +kernel
theorem ef_rm5 (m : MethodId) (x0 : Addr) (x1 : Addr) (x2 : Int32)  : entryFrame m #[(.ref x0), (.ref x1), (.int x2)] 3 = mkF m 0 #[.val (.ref x0), .val (.ref x1), .val (.int x2)] [] := by first | (simp [entryFrame, mkF, argsToLocals, Value.category]; done) | rfl
def Q_rm5 (Z : State) (a_INSTALLMENTS : Addr) (o : Addr) (f : Addr) (u : Int32) (h0 : Heap) (n0 : Nat) (v : Option Value) (h : Heap) (L : List Loc) : Prop := v = none ∧ Fr n0 L ∧ Keep h0 h [o] ∧ (Exa Z h o "com/example/overcap/overcap/model/Distribution") ∧ (Fld Z h o "com/example/overcap/overcap/model/Distribution" "form" "Lcom/example/overcap/overcap/model/Distribution$Form;" (.ref f)) ∧ (Fld Z h o "com/example/overcap/overcap/model/Distribution" "payments" "I" (.int u))
set_option maxRecDepth 65536 in
set_option maxHeartbeats 40000000 in
theorem rm5 (l : Launch) (Z : State) (a0 : Array Value) (hw : ∀ d ∈ tables_1, d.before a0 Z = true) (ws : List Jvm.Cond) (a_INSTALLMENTS : Addr) (HW : Wd Z a_INSTALLMENTS) (o : Addr) (f : Addr) (u : Int32) (h0 : Heap) (n0 : Nat) (Ol : Old Z n0 h0) (HE_o : Exa Z h0 o "com/example/overcap/overcap/model/Distribution") (HF_o_Distribution_form : Fld Z h0 o "com/example/overcap/overcap/model/Distribution" "form" "Lcom/example/overcap/overcap/model/Distribution$Form;" .null) (HF_o_Distribution_payments : Fld Z h0 o "com/example/overcap/overcap/model/Distribution" "payments" "I" (.int (0 : Int32))) (nn_o : n0 ≤ o) :
    MetFree l (⟨"com/example/overcap/overcap/model/Distribution", "<init>", "(Lcom/example/overcap/overcap/model/Distribution$Form;I)V"⟩ : MethodName) (head1 (Jvm.Cond.code (⟨"com/example/overcap/overcap/model/Distribution", "<init>", "(Lcom/example/overcap/overcap/model/Distribution$Form;I)V"⟩ : MethodName) prog_8_method_1_code 3 none :: ws) ({ frames := 1, cells := 0, slots := 0, locals := 12 } : Room)) (fun a_ U_ => a_ = #[(.ref o), (.ref f), (.int u)] ∧ Z.Warmed39 U_.vm ∧ U_.heap = h0) (fun _ _ _ _ _ => True) (fun _ U_ o_ V_ => ∃ v_ L_, o_ = .returned v_ ∧ Q_rm5 Z a_INSTALLMENTS o f u h0 n0 v_ V_.heap L_ ∧ FrameEnd U_ o_ V_ L_ ({ frames := 1, cells := 0, slots := 0, locals := 12 } : Room).cells ({ frames := 1, cells := 0, slots := 0, locals := 12 } : Room).slots) := by
  refine MetFree.of_bodySF (plainFor_of_name pn_0) hisR ?_
  intro p e s m args below meth c s₁ Bd hml0 hP hK
  obtain ⟨rfl, hZ, hh⟩ := hP
  have hx := Bd.exec
  have hby := Bd.bytes
  have hml : c.maxLocals = 3 := hml0
  have hown : s.vm.findClass "com/example/overcap/overcap/model/Distribution" = some m.cls := findClass_of_methodNamed Bd.named
  have hnm := (name_of_methodNamed Bd.named Bd.method).1
  have X0 : Stand p l e ({ frames := 1, cells := 0, slots := 0, locals := 12 } : Room) s m #[(.ref o), (.ref f), (.int u)] below meth c s₁ [] 0 0 := Stand.of_body Bd
  have e0 : s₁.heap = h0 := by rw [← hh, Bd.state]; rfl
  have N0 := Fr.nil n0
  have kp0 := Keep.refl h0 [o]
  show Go p e below (Fin1 s below (Q_rm5 Z a_INSTALLMENTS o f u h0 n0) ({ frames := 1, cells := 0, slots := 0, locals := 12 } : Room).cells ({ frames := 1, cells := 0, slots := 0, locals := 12 } : Room).slots) _
  refine Go.step (fun t_ k_ => castTop (ef_rm5 m o f u) k_) ?_
  obtain ⟨S_INSTALLMENTS, E_INSTALLMENTS⟩ := id HW
  show Go p e below _ (s₁.setTop (mkF m 0 #[.val (.ref o), .val (.ref f), .val (.int u)] []))
  refine Go.step (fun t_ k_ => XS.aloadN X0.here hx rfl (hb hby d5_0) rfl rfl k_) ?_
  show Go p e below _ (s₁.setTop (mkF m 1 #[.val (.ref o), .val (.ref f), .val (.int u)] [(.ref o)]))
  obtain ⟨T1, X1, e1, st1⟩ := initO X0 hx hZ hown (hw _ (List.mem_of_getElem? (i := 23) rfl)) (hw _ (List.mem_of_getElem? (i := 24) rfl)) (hw _ (List.mem_of_getElem? (i := 25) rfl)) e0 (g := (mkF m 1 #[.val (.ref o), .val (.ref f), .val (.int u)] [(.ref o)])) rfl (by rw [hml]; rfl) rfl (hb hby d5_1) (by decide) (W := 0) (by show 2 * 0 + _ ≤ _; exact Nat.le_of_eq rfl) (by decide)
  refine Go.step st1 ?_
  show Go p e below _ (T1.setTop (mkF m 4 #[.val (.ref o), .val (.ref f), .val (.int u)] []))
  refine Go.step (fun t_ k_ => XS.aloadN X1.here hx rfl (hb hby d5_4) rfl rfl k_) ?_
  show Go p e below _ (T1.setTop (mkF m 5 #[.val (.ref o), .val (.ref f), .val (.int u)] [(.ref o)]))
  refine Go.step (fun t_ k_ => XS.aloadN X1.here hx rfl (hb hby d5_5) rfl rfl k_) ?_
  show Go p e below _ (T1.setTop (mkF m 6 #[.val (.ref o), .val (.ref f), .val (.int u)] [(.ref f), (.ref o)]))
  obtain ⟨T2, h2, X2, e2, W2, st2⟩ := putF X1 hx hZ hown (host := "") (Or.inl (hw _ (List.mem_of_getElem? (i := 26) rfl))) Via.refl e1 HF_o_Distribution_form HE_o (Or.inr ⟨(hw _ (List.mem_of_getElem? (i := 27) rfl)), rfl, hnm⟩) (hw _ (List.mem_of_getElem? (i := 16) rfl)) (ty := (.object "com/example/overcap/overcap/model/Distribution$Form")) (by decide) rfl rfl (g := (mkF m 6 #[.val (.ref o), .val (.ref f), .val (.int u)] [(.ref f), (.ref o)])) rfl rfl (hb hby d5_6)
  have N2 := Fr.snoc X2 N0 nn_o
  have old2 := Ol.wr W2 nn_o
  have kp2 := kp0.wr W2 (Or.inl (List.mem_of_getElem? (i := 0) rfl))
  have F2 := HF_o_Distribution_form.same W2
  refine Go.step st2 ?_
  show Go p e below _ (T2.setTop (mkF m 9 #[.val (.ref o), .val (.ref f), .val (.int u)] []))
  refine Go.step (fun t_ k_ => XS.aloadN X2.here hx rfl (hb hby d5_9) rfl rfl k_) ?_
  show Go p e below _ (T2.setTop (mkF m 10 #[.val (.ref o), .val (.ref f), .val (.int u)] [(.ref o)]))
  refine Go.step (fun t_ k_ => XS.iloadN X2.here hx rfl (hb hby d5_10) rfl k_) ?_
  show Go p e below _ (T2.setTop (mkF m 11 #[.val (.ref o), .val (.ref f), .val (.int u)] [(.int u), (.ref o)]))
  have f3 := (HF_o_Distribution_payments.other W2 (Or.inr (slot_ne (Or.inr (hw _ (List.mem_of_getElem? (i := 29) rfl))) (Or.inr (hw _ (List.mem_of_getElem? (i := 27) rfl))) (by decide) (t := .int) (t' := (.object "com/example/overcap/overcap/model/Distribution$Form")) (by decide) (by decide))))
  have f4 := (HE_o.wr W2)
  obtain ⟨T5, h5, X5, e5, W5, st5⟩ := putF X2 hx hZ hown (host := "") (Or.inl (hw _ (List.mem_of_getElem? (i := 28) rfl))) Via.refl e2 f3 f4 (Or.inr ⟨(hw _ (List.mem_of_getElem? (i := 29) rfl)), rfl, hnm⟩) (hw _ (List.mem_of_getElem? (i := 16) rfl)) (ty := .int) (by decide) rfl rfl (g := (mkF m 11 #[.val (.ref o), .val (.ref f), .val (.int u)] [(.int u), (.ref o)])) rfl rfl (hb hby d5_11)
  have N5 := Fr.snoc X5 N2 nn_o
  have old5 := old2.wr W5 nn_o
  have kp5 := kp2.wr W5 (Or.inl (List.mem_of_getElem? (i := 0) rfl))
  have F5 := f3.same W5
  refine Go.step st5 ?_
  show Go p e below _ (T5.setTop (mkF m 14 #[.val (.ref o), .val (.ref f), .val (.int u)] []))
  have f6 := (f4.wr W5)
  have f7 := (F2.other W5 (Or.inr (slot_ne (Or.inr (hw _ (List.mem_of_getElem? (i := 27) rfl))) (Or.inr (hw _ (List.mem_of_getElem? (i := 29) rfl))) (by decide) (t := (.object "com/example/overcap/overcap/model/Distribution$Form")) (t' := .int) (by decide) (by decide))))
  refine Go.retV X5 hx Bd.returns Bd.notSynchronized (hb hby d5_14) (by rw [e5]; exact ⟨rfl, N5, kp5, f6, f7, F5⟩) (by decide) (by decide)
theorem d4_0 : decode prog_8_method_5_code 0 = .ok (.iload_n 0, 1) := by decide +kernel
theorem d4_1 : decode prog_8_method_5_code 1 = .ok (.invokestatic 30, 3) := by decide +kernel
theorem pd_0 : parseMethodDescriptor "(I)Z" = some ⟨[.int], some .boolean⟩ := by decide +kernel
theorem d4_4 : decode prog_8_method_5_code 4 = .ok (.ifCond .ne 17, 3) := by decide +kernel
theorem d4_21 : decode prog_8_method_5_code 21 = .ok (.new 8, 3) := by decide +kernel
theorem d4_24 : decode prog_8_method_5_code 24 = .ok (.dup, 1) := by decide +kernel
theorem d4_25 : decode prog_8_method_5_code 25 = .ok (.getstatic 43, 3) := by decide +kernel
theorem d4_28 : decode prog_8_method_5_code 28 = .ok (.iload_n 0, 1) := by decide +kernel
theorem d4_29 : decode prog_8_method_5_code 29 = .ok (.invokespecial 48, 3) := by decide +kernel
theorem pd_1 : parseMethodDescriptor "(Lcom/example/overcap/overcap/model/Distribution$Form;I)V" = some ⟨[(.object "com/example/overcap/overcap/model/Distribution$Form"), .int], none⟩ := by decide +kernel
theorem d4_32 : decode prog_8_method_5_code 32 = .ok (.areturn, 1) := by decide +kernel
theorem ef_rm4 (m : MethodId) (x0 : Int32)  : entryFrame m #[(.int x0)] 1 = mkF m 0 #[.val (.int x0)] [] := by first | (simp [entryFrame, mkF, argsToLocals, Value.category]; done) | rfl
def Q_rm4 (Z : State) (a_INSTALLMENTS : Addr) (u : Int32) (h0 : Heap) (n0 : Nat) (v : Option Value) (h : Heap) (L : List Loc) : Prop := ∃ b : Addr, v = some (.ref b) ∧ h0.size ≤ b ∧ Fr n0 L ∧ Keep h0 h [] ∧ (Exa Z h b "com/example/overcap/overcap/model/Distribution") ∧ (Fld Z h b "com/example/overcap/overcap/model/Distribution" "form" "Lcom/example/overcap/overcap/model/Distribution$Form;" (.ref a_INSTALLMENTS)) ∧ (Fld Z h b "com/example/overcap/overcap/model/Distribution" "payments" "I" (.int u))
set_option maxRecDepth 65536 in
set_option maxHeartbeats 40000000 in
theorem rm4 (l : Launch) (Z : State) (a0 : Array Value) (hw : ∀ d ∈ tables_1, d.before a0 Z = true) (ws : List Jvm.Cond) (a_INSTALLMENTS : Addr) (HW : Wd Z a_INSTALLMENTS) (u : Int32) (h0 : Heap) (n0 : Nat) (Ol : Old Z n0 h0) (hlo : ¬ u < (2 : Int32)) (hhi : ¬ (15 : Int32) < u) :
    MetFree l (⟨"com/example/overcap/overcap/model/Distribution", "installments", "(I)Lcom/example/overcap/overcap/model/Distribution;"⟩ : MethodName) (head1 (Jvm.Cond.code (⟨"com/example/overcap/overcap/model/Distribution", "installments", "(I)Lcom/example/overcap/overcap/model/Distribution;"⟩ : MethodName) prog_8_method_5_code 1 (some (.object "com/example/overcap/overcap/model/Distribution")) :: ws) ({ frames := 2, cells := 1, slots := 2, locals := 27 } : Room)) (fun a_ U_ => a_ = #[(.int u)] ∧ Z.Warmed39 U_.vm ∧ U_.heap = h0) (fun _ _ _ _ _ => True) (fun _ U_ o_ V_ => ∃ v_ L_, o_ = .returned v_ ∧ Q_rm4 Z a_INSTALLMENTS u h0 n0 v_ V_.heap L_ ∧ FrameEnd U_ o_ V_ L_ ({ frames := 2, cells := 1, slots := 2, locals := 27 } : Room).cells ({ frames := 2, cells := 1, slots := 2, locals := 27 } : Room).slots) := by
  refine MetFree.of_bodySF (plainFor_of_name pn_0) hisR ?_
  intro p e s m args below meth c s₁ Bd hml0 hP hK
  obtain ⟨rfl, hZ, hh⟩ := hP
  have hx := Bd.exec
  have hby := Bd.bytes
  have hml : c.maxLocals = 1 := hml0
  have hown : s.vm.findClass "com/example/overcap/overcap/model/Distribution" = some m.cls := findClass_of_methodNamed Bd.named
  have hnm := (name_of_methodNamed Bd.named Bd.method).1
  have X0 : Stand p l e ({ frames := 2, cells := 1, slots := 2, locals := 27 } : Room) s m #[(.int u)] below meth c s₁ [] 0 0 := Stand.of_body Bd
  have e0 : s₁.heap = h0 := by rw [← hh, Bd.state]; rfl
  have N0 := Fr.nil n0
  have kp0 := Keep.refl h0 []
  show Go p e below (Fin1 s below (Q_rm4 Z a_INSTALLMENTS u h0 n0) ({ frames := 2, cells := 1, slots := 2, locals := 27 } : Room).cells ({ frames := 2, cells := 1, slots := 2, locals := 27 } : Room).slots) _
  refine Go.step (fun t_ k_ => castTop (ef_rm4 m u) k_) ?_
  obtain ⟨S_INSTALLMENTS, E_INSTALLMENTS⟩ := id HW
  show Go p e below _ (s₁.setTop (mkF m 0 #[.val (.int u)] []))
  refine Go.step (fun t_ k_ => XS.iloadN X0.here hx rfl (hb hby d4_0) rfl k_) ?_
  show Go p e below _ (s₁.setTop (mkF m 1 #[.val (.int u)] [(.int u)]))
  obtain ⟨_, _, ⟨T1, L1, k1, n1⟩, -, X1, ⟨Lc1, hQ1, l1, y1, z1⟩, st1⟩ := Jvm.LawKit.callS X0 hx (y := (⟨"com/example/overcap/overcap/model/Distribution", "paysInstallmentsOver", "(I)Z"⟩ : MethodName)) hown (mvT hZ (hw _ (List.mem_of_getElem? (i := 14) rfl))) (mvT hZ (hw _ (List.mem_of_getElem? (i := 8) rfl))) (mvT hZ (hw _ (List.mem_of_getElem? (i := 9) rfl))) (mvT hZ (hw _ (List.mem_of_getElem? (i := 10) rfl))) (by decide) (backOf (W := 0) (rm3 l Z a0 hw [] a_INSTALLMENTS HW u (1 : Int32) h0 n0 Ol (by rw [if_neg hlo, if_neg hhi])) hZ (hw _ (List.mem_of_getElem? (i := 10) rfl)) (hw _ (List.mem_of_getElem? (i := 9) rfl)) (by decide) (by decide)) (g := (mkF m 1 #[.val (.int u)] [(.int u)])) rfl (by rw [hml]; rfl) (argsL := [(.int u)]) (rest := []) (lenOf pd_0 rfl) rfl (by show 2 * 0 + _ ≤ _; exact Nat.le_of_eq rfl) (hb hby d4_1) (fun _ _ => ⟨rfl, e0, (by decide : 0 + 0 ≤ _), (by decide : 0 + 0 ≤ _)⟩)
  dsimp only [Pt.U, Pt.locs, Pt.cells, Pt.slots] at X1 l1 y1 z1 st1 hQ1
  subst l1 y1 z1
  obtain ⟨rfl, Nq1, e1⟩ := hQ1
  have N1 := Fr.app N0 Nq1
  refine Go.step st1 ?_
  show Go p e below _ (T1.setTop (mkF m 4 #[.val (.int u)] [(.int (1 : Int32))]))
  have hc4 : ¬ ((1 : Int32) = (0 : Int32)) := by decide
  refine Go.step (fun t_ k_ => XS.ifYes X1.here hx rfl (pc0 := 4) (pc' := 21) rfl (hb hby d4_4) rfl ((if0 _ _).trans (feq hc4).2) (by decide) (by decide) k_) ?_
  show Go p e below _ (T1.setTop (mkF m 21 #[.val (.int u)] []))
  obtain ⟨T2, h2, X2, e2, E2, A2, D2, Y2, st2⟩ := newO X1 hx hZ hown (hw _ (List.mem_of_getElem? (i := 15) rfl)) (hw _ (List.mem_of_getElem? (i := 16) rfl)) (hw _ (List.mem_of_getElem? (i := 9) rfl)) e1 (g := (mkF m 21 #[.val (.int u)] [])) rfl (hb hby d4_21) (by decide) (by decide)
  obtain ⟨b2, g2⟩ : ∃ z, z = h0.size := ⟨_, rfl⟩
  rw [← g2] at A2 D2 Y2 st2
  have nn_b2 : n0 ≤ b2 := Nat.le_trans (old_z0 Ol) (Nat.le_of_eq g2.symm)
  have sz_b2 : h0.size ≤ b2 := Nat.le_trans kp0.1 (Nat.le_of_eq g2.symm)
  have old2 := Ol.ext E2
  have kp2 := kp0.ext E2
  have F2_form : Fld Z h2 b2 "com/example/overcap/overcap/model/Distribution" "form" "Lcom/example/overcap/overcap/model/Distribution$Form;" .null := D2 (Or.inr (hw _ (List.mem_of_getElem? (i := 27) rfl))) (ty := (.object "com/example/overcap/overcap/model/Distribution$Form")) (by decide)
  have F2_payments : Fld Z h2 b2 "com/example/overcap/overcap/model/Distribution" "payments" "I" (.int (0 : Int32)) := D2 (Or.inr (hw _ (List.mem_of_getElem? (i := 29) rfl))) (ty := .int) (by decide)
  refine Go.step st2 ?_
  show Go p e below _ (T2.setTop (mkF m 24 #[.val (.int u)] [(.ref b2)]))
  refine Go.step (fun t_ k_ => XS.dup X2.here hx rfl (hb hby d4_24) rfl rfl k_) ?_
  show Go p e below _ (T2.setTop (mkF m 25 #[.val (.int u)] [(.ref b2), (.ref b2)]))
  obtain ⟨T3, X3, e3, st3⟩ := getS2 X2 hx hZ hown (host := "") (Or.inl (hw _ (List.mem_of_getElem? (i := 17) rfl))) Via.refl e2 (S_INSTALLMENTS.ext old2.2) (g := (mkF m 25 #[.val (.int u)] [(.ref b2), (.ref b2)])) rfl (hb hby d4_25)
  refine Go.step st3 ?_
  show Go p e below _ (T3.setTop (mkF m 28 #[.val (.int u)] [(.ref a_INSTALLMENTS), (.ref b2), (.ref b2)]))
  refine Go.step (fun t_ k_ => XS.iloadN X3.here hx rfl (hb hby d4_28) rfl k_) ?_
  show Go p e below _ (T3.setTop (mkF m 29 #[.val (.int u)] [(.int u), (.ref a_INSTALLMENTS), (.ref b2), (.ref b2)]))
  obtain ⟨_, _, ⟨T4, L4, k4, n4⟩, -, X4, ⟨Lc4, hQ4, l4, y4, z4⟩, st4⟩ := X3.specialBack hx (y := (⟨"com/example/overcap/overcap/model/Distribution", "<init>", "(Lcom/example/overcap/overcap/model/Distribution$Form;I)V"⟩ : MethodName)) rfl hown (mvT hZ (hw _ (List.mem_of_getElem? (i := 20) rfl))) (mvT hZ (hw _ (List.mem_of_getElem? (i := 21) rfl))) (mvT hZ (hw _ (List.mem_of_getElem? (i := 22) rfl))) (by decide) (backOf (W := 1) (rm5 l Z a0 hw [] a_INSTALLMENTS HW b2 a_INSTALLMENTS u h2 n0 old2 A2 F2_form F2_payments nn_b2) hZ (hw _ (List.mem_of_getElem? (i := 22) rfl)) (hw _ (List.mem_of_getElem? (i := 9) rfl)) (by decide) (by decide)) (g := (mkF m 29 #[.val (.int u)] [(.int u), (.ref a_INSTALLMENTS), (.ref b2), (.ref b2)])) rfl (by rw [hml]; rfl) (Steps.refl _) (a := b2) (argsL := [(.ref a_INSTALLMENTS), (.int u)]) (rest := [(.ref b2)]) (lenOf pd_1 rfl) rfl (by show 2 * 0 + _ ≤ _; exact Nat.le_of_eq rfl) (hb hby d4_29) (fun _ _ => ⟨rfl, e3, (by decide : 1 + 0 ≤ _), (by decide : 2 + 0 ≤ _)⟩)
  dsimp only [Pt.U, Pt.locs, Pt.cells, Pt.slots] at X4 l4 y4 z4 st4 hQ4
  subst l4 y4 z4
  obtain ⟨rfl, Nq4, K4, p4_0, p4_1, p4_2⟩ := hQ4
  have old4 := old2.keep K4 (allS nn_b2 all0)
  have kp4 := kp2.trans K4 (allS (Or.inr sz_b2) all0)
  have N4 := Fr.app N1 Nq4
  refine Go.step (fun t_ k_ => st4.trans k_) ?_
  show Go p e below _ (T4.setTop (mkF m 32 #[.val (.int u)] [(.ref b2)]))
  refine Go.retR X4 hx Bd.returns rfl rfl Bd.notSynchronized (hb hby d4_32) (by exact ⟨b2, rfl, sz_b2, N4, kp4, p4_0, p4_1, p4_2⟩) (by decide) (by decide)
theorem d7_0 : decode prog_8_method_8_code 0 = .ok (.aload_n 0, 1) := by decide +kernel
theorem d7_1 : decode prog_8_method_8_code 1 = .ok (.getfield 13, 3) := by decide +kernel
theorem d7_4 : decode prog_8_method_8_code 4 = .ok (.ireturn, 1) := by decide +kernel
theorem ef_rm7 (m : MethodId) (x0 : Addr)  : entryFrame m #[(.ref x0)] 1 = mkF m 0 #[.val (.ref x0)] [] := by first | (simp [entryFrame, mkF, argsToLocals, Value.category]; done) | rfl
def Q_rm7 (Z : State) (a_INSTALLMENTS : Addr) (o : Addr) (z : Int32) (h0 : Heap) (n0 : Nat) (v : Option Value) (h : Heap) (L : List Loc) : Prop := v = some (.int z) ∧ Fr n0 L ∧ h = h0
set_option maxRecDepth 65536 in
set_option maxHeartbeats 40000000 in
theorem rm7 (l : Launch) (Z : State) (a0 : Array Value) (hw : ∀ d ∈ tables_1, d.before a0 Z = true) (ws : List Jvm.Cond) (a_INSTALLMENTS : Addr) (HW : Wd Z a_INSTALLMENTS) (o : Addr) (z : Int32) (h0 : Heap) (n0 : Nat) (Ol : Old Z n0 h0) (HF_o_Distribution_payments : Fld Z h0 o "com/example/overcap/overcap/model/Distribution" "payments" "I" (.int z)) :
    MetFree l (⟨"com/example/overcap/overcap/model/Distribution", "payments", "()I"⟩ : MethodName) (head1 (Jvm.Cond.code (⟨"com/example/overcap/overcap/model/Distribution", "payments", "()I"⟩ : MethodName) prog_8_method_8_code 1 (some .int) :: ws) ({ frames := 0, cells := 0, slots := 0, locals := 0 } : Room)) (fun a_ U_ => a_ = #[(.ref o)] ∧ Z.Warmed39 U_.vm ∧ U_.heap = h0) (fun _ _ _ _ _ => True) (fun _ U_ o_ V_ => ∃ v_ L_, o_ = .returned v_ ∧ Q_rm7 Z a_INSTALLMENTS o z h0 n0 v_ V_.heap L_ ∧ FrameEnd U_ o_ V_ L_ ({ frames := 0, cells := 0, slots := 0, locals := 0 } : Room).cells ({ frames := 0, cells := 0, slots := 0, locals := 0 } : Room).slots) := by
  refine MetFree.of_bodySF (plainFor_of_name pn_0) hisR ?_
  intro p e s m args below meth c s₁ Bd hml0 hP hK
  obtain ⟨rfl, hZ, hh⟩ := hP
  have hx := Bd.exec
  have hby := Bd.bytes
  have hml : c.maxLocals = 1 := hml0
  have hown : s.vm.findClass "com/example/overcap/overcap/model/Distribution" = some m.cls := findClass_of_methodNamed Bd.named
  have hnm := (name_of_methodNamed Bd.named Bd.method).1
  have X0 : Stand p l e ({ frames := 0, cells := 0, slots := 0, locals := 0 } : Room) s m #[(.ref o)] below meth c s₁ [] 0 0 := Stand.of_body Bd
  have e0 : s₁.heap = h0 := by rw [← hh, Bd.state]; rfl
  have N0 := Fr.nil n0
  have kp0 := Keep.refl h0 []
  show Go p e below (Fin1 s below (Q_rm7 Z a_INSTALLMENTS o z h0 n0) ({ frames := 0, cells := 0, slots := 0, locals := 0 } : Room).cells ({ frames := 0, cells := 0, slots := 0, locals := 0 } : Room).slots) _
  refine Go.step (fun t_ k_ => castTop (ef_rm7 m o) k_) ?_
  obtain ⟨S_INSTALLMENTS, E_INSTALLMENTS⟩ := id HW
  show Go p e below _ (s₁.setTop (mkF m 0 #[.val (.ref o)] []))
  refine Go.step (fun t_ k_ => XS.aloadN X0.here hx rfl (hb hby d7_0) rfl rfl k_) ?_
  show Go p e below _ (s₁.setTop (mkF m 1 #[.val (.ref o)] [(.ref o)]))
  obtain ⟨T1, X1, e1, st1⟩ := getF X0 hx hZ hown (host := "") (Or.inl (hw _ (List.mem_of_getElem? (i := 28) rfl))) Via.refl e0 HF_o_Distribution_payments (g := (mkF m 1 #[.val (.ref o)] [(.ref o)])) rfl rfl (hb hby d7_1)
  refine Go.step st1 ?_
  show Go p e below _ (T1.setTop (mkF m 4 #[.val (.ref o)] [(.int z)]))
  refine Go.retI X1 hx Bd.returns Bd.notSynchronized (hb hby d7_4) (by rw [e1]; exact ⟨rfl, N0, rfl⟩) (by decide) (by decide)
theorem d8_0 : decode prog_8_method_7_code 0 = .ok (.aload_n 0, 1) := by decide +kernel
theorem d8_1 : decode prog_8_method_7_code 1 = .ok (.getfield 7, 3) := by decide +kernel
theorem d8_4 : decode prog_8_method_7_code 4 = .ok (.areturn, 1) := by decide +kernel
theorem ef_rm8 (m : MethodId) (x0 : Addr)  : entryFrame m #[(.ref x0)] 1 = mkF m 0 #[.val (.ref x0)] [] := by first | (simp [entryFrame, mkF, argsToLocals, Value.category]; done) | rfl
def Q_rm8 (Z : State) (a_INSTALLMENTS : Addr) (o : Addr) (z : Addr) (h0 : Heap) (n0 : Nat) (v : Option Value) (h : Heap) (L : List Loc) : Prop := v = some (.ref z) ∧ Fr n0 L ∧ h = h0
set_option maxRecDepth 65536 in
set_option maxHeartbeats 40000000 in
theorem rm8 (l : Launch) (Z : State) (a0 : Array Value) (hw : ∀ d ∈ tables_1, d.before a0 Z = true) (ws : List Jvm.Cond) (a_INSTALLMENTS : Addr) (HW : Wd Z a_INSTALLMENTS) (o : Addr) (z : Addr) (h0 : Heap) (n0 : Nat) (Ol : Old Z n0 h0) (HF_o_Distribution_form : Fld Z h0 o "com/example/overcap/overcap/model/Distribution" "form" "Lcom/example/overcap/overcap/model/Distribution$Form;" (.ref z)) :
    MetFree l (⟨"com/example/overcap/overcap/model/Distribution", "form", "()Lcom/example/overcap/overcap/model/Distribution$Form;"⟩ : MethodName) (head1 (Jvm.Cond.code (⟨"com/example/overcap/overcap/model/Distribution", "form", "()Lcom/example/overcap/overcap/model/Distribution$Form;"⟩ : MethodName) prog_8_method_7_code 1 (some (.object "com/example/overcap/overcap/model/Distribution$Form")) :: ws) ({ frames := 0, cells := 0, slots := 0, locals := 0 } : Room)) (fun a_ U_ => a_ = #[(.ref o)] ∧ Z.Warmed39 U_.vm ∧ U_.heap = h0) (fun _ _ _ _ _ => True) (fun _ U_ o_ V_ => ∃ v_ L_, o_ = .returned v_ ∧ Q_rm8 Z a_INSTALLMENTS o z h0 n0 v_ V_.heap L_ ∧ FrameEnd U_ o_ V_ L_ ({ frames := 0, cells := 0, slots := 0, locals := 0 } : Room).cells ({ frames := 0, cells := 0, slots := 0, locals := 0 } : Room).slots) := by
  refine MetFree.of_bodySF (plainFor_of_name pn_0) hisR ?_
  intro p e s m args below meth c s₁ Bd hml0 hP hK
  obtain ⟨rfl, hZ, hh⟩ := hP
  have hx := Bd.exec
  have hby := Bd.bytes
  have hml : c.maxLocals = 1 := hml0
  have hown : s.vm.findClass "com/example/overcap/overcap/model/Distribution" = some m.cls := findClass_of_methodNamed Bd.named
  have hnm := (name_of_methodNamed Bd.named Bd.method).1
  have X0 : Stand p l e ({ frames := 0, cells := 0, slots := 0, locals := 0 } : Room) s m #[(.ref o)] below meth c s₁ [] 0 0 := Stand.of_body Bd
  have e0 : s₁.heap = h0 := by rw [← hh, Bd.state]; rfl
  have N0 := Fr.nil n0
  have kp0 := Keep.refl h0 []
  show Go p e below (Fin1 s below (Q_rm8 Z a_INSTALLMENTS o z h0 n0) ({ frames := 0, cells := 0, slots := 0, locals := 0 } : Room).cells ({ frames := 0, cells := 0, slots := 0, locals := 0 } : Room).slots) _
  refine Go.step (fun t_ k_ => castTop (ef_rm8 m o) k_) ?_
  obtain ⟨S_INSTALLMENTS, E_INSTALLMENTS⟩ := id HW
  show Go p e below _ (s₁.setTop (mkF m 0 #[.val (.ref o)] []))
  refine Go.step (fun t_ k_ => XS.aloadN X0.here hx rfl (hb hby d8_0) rfl rfl k_) ?_
  show Go p e below _ (s₁.setTop (mkF m 1 #[.val (.ref o)] [(.ref o)]))
  obtain ⟨T1, X1, e1, st1⟩ := getF X0 hx hZ hown (host := "") (Or.inl (hw _ (List.mem_of_getElem? (i := 26) rfl))) Via.refl e0 HF_o_Distribution_form (g := (mkF m 1 #[.val (.ref o)] [(.ref o)])) rfl rfl (hb hby d8_1)
  refine Go.step st1 ?_
  show Go p e below _ (T1.setTop (mkF m 4 #[.val (.ref o)] [(.ref z)]))
  refine Go.retR X1 hx Bd.returns rfl rfl Bd.notSynchronized (hb hby d8_4) (by rw [e1]; exact ⟨rfl, N0, rfl⟩) (by decide) (by decide)
theorem lt_of {x y z : Int32} (h : x < y) (q : y.toInt ≤ z.toInt) : x < z := by rw [Int32.lt_iff_toInt_lt] at h ⊢; omega
theorem nlt_of {x y : Int32} (h : x < y) : ¬ y < x := by rw [Int32.lt_iff_toInt_lt] at h ⊢; omega
theorem min_is {x : Int32} (h : ¬ (15 : Int32) < x) : (if x < (15 : Int32) then x else (15 : Int32)) = x := by
  by_cases q : x < (15 : Int32)
  · rw [if_pos q]
  · rw [if_neg q]; rw [Int32.lt_iff_toInt_lt] at h q; exact Int32.toInt_inj.mp (by omega)
theorem max_is {x : Int32} (h : ¬ x < (2 : Int32)) : (if (2 : Int32) < x then x else (2 : Int32)) = x := by
  by_cases q : (2 : Int32) < x
  · rw [if_pos q]
  · rw [if_neg q]; rw [Int32.lt_iff_toInt_lt] at h q; exact Int32.toInt_inj.mp (by omega)
theorem pd_2 : parseMethodDescriptor "(II)I" = some ⟨[.int, .int], some .int⟩ := by decide +kernel
theorem pd_3 : parseMethodDescriptor "(I)Lcom/example/overcap/overcap/model/Distribution;" = some ⟨[.int], some (.object "com/example/overcap/overcap/model/Distribution")⟩ := by decide +kernel
theorem pd_4 : parseMethodDescriptor "()I" = some ⟨[], some .int⟩ := by decide +kernel
theorem pd_5 : parseMethodDescriptor "()Lcom/example/overcap/overcap/model/Distribution$Form;" = some ⟨[], some (.object "com/example/overcap/overcap/model/Distribution$Form")⟩ := by decide +kernel
theorem pn_1 : plainName "com/example/overcap/overcap/model/DistributionPaysInstallmentsOverPinLaw" = true := by first | (simp [plainName, overriddenIn]; done) | decide +kernel
theorem ef_rm0 (m : MethodId) (x0 : Int32)  : entryFrame m #[(.int x0)] maxLocals = mkF m 0 #[.val (.int x0), .unset, .unset, .unset] [] := by first | (simp [entryFrame, mkF, argsToLocals, Value.category, maxLocals]; done) | rfl
def Q_rm0 (Z : State) (a_INSTALLMENTS : Addr) (p1 : Int32) (h0 : Heap) (n0 : Nat) (v : Option Value) (h : Heap) (L : List Loc) : Prop := v = some (.int 1) ∧ Fr n0 L
set_option maxRecDepth 65536 in
set_option maxHeartbeats 40000000 in
theorem rm0 (l : Launch) (Z : State) (a0 : Array Value) (hw : ∀ d ∈ tables_1, d.before a0 Z = true) (ws : List Jvm.Cond) (a_INSTALLMENTS : Addr) (HW : Wd Z a_INSTALLMENTS) (p1 : Int32) (h0 : Heap) (n0 : Nat) (Ol : Old Z n0 h0)  :
    MetFree l x (head1 (Jvm.Cond.code x code maxLocals ret :: ws) room_1) (fun a_ U_ => a_ = #[(.int p1)] ∧ Z.Warmed39 U_.vm ∧ U_.heap = h0) (fun _ _ _ _ _ => True) (fun _ U_ o_ V_ => ∃ v_ L_, o_ = .returned v_ ∧ Q_rm0 Z a_INSTALLMENTS p1 h0 n0 v_ V_.heap L_ ∧ FrameEnd U_ o_ V_ L_ room_1.cells room_1.slots) := by
  refine MetFree.of_bodySF (plainFor_of_name pn_1) hisR ?_
  intro p e s m args below meth c s₁ Bd hml0 hP hK
  obtain ⟨rfl, hZ, hh⟩ := hP
  have hx := Bd.exec
  have hby := Bd.bytes
  have hml : c.maxLocals = 4 := hml0
  have hown : s.vm.findClass "com/example/overcap/overcap/model/DistributionPaysInstallmentsOverPinLaw" = some m.cls := findClass_of_methodNamed Bd.named
  have hnm := (name_of_methodNamed Bd.named Bd.method).1
  have X0 : Stand p l e room_1 s m #[(.int p1)] below meth c s₁ [] 0 0 := Stand.of_body Bd
  have e0 : s₁.heap = h0 := by rw [← hh, Bd.state]; rfl
  have N0 := Fr.nil n0
  have kp0 := Keep.refl h0 []
  show Go p e below (Fin1 s below (Q_rm0 Z a_INSTALLMENTS p1 h0 n0) room_1.cells room_1.slots) _
  refine Go.step (fun t_ k_ => castTop (ef_rm0 m p1) k_) ?_
  obtain ⟨S_INSTALLMENTS, E_INSTALLMENTS⟩ := id HW
  show Go p e below _ (s₁.setTop (mkF m 0 #[.val (.int p1), .unset, .unset, .unset] []))
  by_cases h_lo : p1 < (2 : Int32)
  case pos =>
    refine Go.step (fun t_ k_ => XS.iconst X0.here hx rfl (hb hby at_0) k_) ?_
    show Go p e below _ (s₁.setTop (mkF m 1 #[.val (.int p1), .unset, .unset, .unset] [(.int (2 : Int32))]))
    refine Go.step (fun t_ k_ => XS.bipush X0.here hx rfl (hb hby at_1) k_) ?_
    show Go p e below _ (s₁.setTop (mkF m 3 #[.val (.int p1), .unset, .unset, .unset] [(.int (15 : Int32)), (.int (2 : Int32))]))
    refine Go.step (fun t_ k_ => XS.iloadN X0.here hx rfl (hb hby at_3) rfl k_) ?_
    show Go p e below _ (s₁.setTop (mkF m 4 #[.val (.int p1), .unset, .unset, .unset] [(.int p1), (.int (15 : Int32)), (.int (2 : Int32))]))
    obtain ⟨_, _, ⟨T1, L1, k1, n1⟩, -, X1, ⟨Lc1, hQ1, l1, y1, z1⟩, st1⟩ := Jvm.LawKit.callS X0 hx (y := (⟨"java/lang/Math", "min", "(II)I"⟩ : MethodName)) hown (mvT hZ (hw _ (List.mem_of_getElem? (i := 0) rfl))) (mvT hZ (hw _ (List.mem_of_getElem? (i := 1) rfl))) (mvT hZ (hw _ (List.mem_of_getElem? (i := 2) rfl))) (mvT hZ (hw _ (List.mem_of_getElem? (i := 3) rfl))) (by decide) (backOf (W := 1) (rm1 l Z a0 hw [] a_INSTALLMENTS HW (15 : Int32) p1 p1 h0 n0 Ol (by rw [if_pos (lt_of h_lo (by decide))])) hZ (hw _ (List.mem_of_getElem? (i := 3) rfl)) (hw _ (List.mem_of_getElem? (i := 2) rfl)) (by decide) (by decide)) (g := (mkF m 4 #[.val (.int p1), .unset, .unset, .unset] [(.int p1), (.int (15 : Int32)), (.int (2 : Int32))])) rfl (by rw [hml]; rfl) (argsL := [(.int (15 : Int32)), (.int p1)]) (rest := [(.int (2 : Int32))]) (lenOf pd_2 rfl) rfl (by show 2 * 0 + _ ≤ _; exact Nat.le_of_eq rfl) (hb hby at_4) (fun _ _ => ⟨rfl, e0, (by decide : 0 + 0 ≤ _), (by decide : 0 + 0 ≤ _)⟩)
    dsimp only [Pt.U, Pt.locs, Pt.cells, Pt.slots] at X1 l1 y1 z1 st1 hQ1
    subst l1 y1 z1
    obtain ⟨rfl, Nq1, e1⟩ := hQ1
    have N1 := Fr.app N0 Nq1
    refine Go.step st1 ?_
    show Go p e below _ (T1.setTop (mkF m 7 #[.val (.int p1), .unset, .unset, .unset] [(.int p1), (.int (2 : Int32))]))
    obtain ⟨_, _, ⟨T2, L2, k2, n2⟩, -, X2, ⟨Lc2, hQ2, l2, y2, z2⟩, st2⟩ := Jvm.LawKit.callS X1 hx (y := (⟨"java/lang/Math", "max", "(II)I"⟩ : MethodName)) hown (mvT hZ (hw _ (List.mem_of_getElem? (i := 4) rfl))) (mvT hZ (hw _ (List.mem_of_getElem? (i := 5) rfl))) (mvT hZ (hw _ (List.mem_of_getElem? (i := 2) rfl))) (mvT hZ (hw _ (List.mem_of_getElem? (i := 6) rfl))) (by decide) (backOf (W := 0) (rm2 l Z a0 hw [] a_INSTALLMENTS HW (2 : Int32) p1 (2 : Int32) h0 n0 Ol (by rw [if_neg (nlt_of h_lo)])) hZ (hw _ (List.mem_of_getElem? (i := 6) rfl)) (hw _ (List.mem_of_getElem? (i := 2) rfl)) (by decide) (by decide)) (g := (mkF m 7 #[.val (.int p1), .unset, .unset, .unset] [(.int p1), (.int (2 : Int32))])) rfl (by rw [hml]; rfl) (argsL := [(.int (2 : Int32)), (.int p1)]) (rest := []) (lenOf pd_2 rfl) rfl (by show 2 * 0 + _ ≤ _; exact Nat.le_of_eq rfl) (hb hby at_7) (fun _ _ => ⟨rfl, e1, (by decide : 0 + 0 ≤ _), (by decide : 0 + 0 ≤ _)⟩)
    dsimp only [Pt.U, Pt.locs, Pt.cells, Pt.slots] at X2 l2 y2 z2 st2 hQ2
    subst l2 y2 z2
    obtain ⟨rfl, Nq2, e2⟩ := hQ2
    have N2 := Fr.app N1 Nq2
    refine Go.step st2 ?_
    show Go p e below _ (T2.setTop (mkF m 10 #[.val (.int p1), .unset, .unset, .unset] [(.int (2 : Int32))]))
    refine Go.step (fun t_ k_ => XS.iloadN X2.here hx rfl (hb hby at_10) rfl k_) ?_
    show Go p e below _ (T2.setTop (mkF m 11 #[.val (.int p1), .unset, .unset, .unset] [(.int p1), (.int (2 : Int32))]))
    have hc11 : ¬ ((2 : Int32) = p1) := fun q => by rw [← q] at h_lo; exact absurd h_lo (by decide)
    refine Go.step (fun t_ k_ => XS.icmpYes X2.here hx rfl (pc0 := 11) (pc' := 18) rfl (hb hby at_11) rfl (feq hc11).2 (by decide) (by decide) k_) ?_
    show Go p e below _ (T2.setTop (mkF m 18 #[.val (.int p1), .unset, .unset, .unset] []))
    refine Go.step (fun t_ k_ => XS.iconst X2.here hx rfl (hb hby at_18) k_) ?_
    show Go p e below _ (T2.setTop (mkF m 19 #[.val (.int p1), .unset, .unset, .unset] [(.int (0 : Int32))]))
    refine Go.step (fun t_ k_ => XS.istoreN X2.here hx rfl (hb hby at_19) rfl (l' := #[.val (.int p1), .val (.int (0 : Int32)), .unset, .unset]) rfl k_) ?_
    show Go p e below _ (T2.setTop (mkF m 20 #[.val (.int p1), .val (.int (0 : Int32)), .unset, .unset] []))
    refine Go.step (fun t_ k_ => XS.iloadN X2.here hx rfl (hb hby at_20) rfl k_) ?_
    show Go p e below _ (T2.setTop (mkF m 21 #[.val (.int p1), .val (.int (0 : Int32)), .unset, .unset] [(.int p1)]))
    obtain ⟨_, _, ⟨T3, L3, k3, n3⟩, -, X3, ⟨Lc3, hQ3, l3, y3, z3⟩, st3⟩ := Jvm.LawKit.callS X2 hx (y := (⟨"com/example/overcap/overcap/model/Distribution", "paysInstallmentsOver", "(I)Z"⟩ : MethodName)) hown (mvT hZ (hw _ (List.mem_of_getElem? (i := 7) rfl))) (mvT hZ (hw _ (List.mem_of_getElem? (i := 8) rfl))) (mvT hZ (hw _ (List.mem_of_getElem? (i := 9) rfl))) (mvT hZ (hw _ (List.mem_of_getElem? (i := 10) rfl))) (by decide) (backOf (W := 0) (rm3 l Z a0 hw [] a_INSTALLMENTS HW p1 (0 : Int32) h0 n0 Ol (by rw [if_pos h_lo])) hZ (hw _ (List.mem_of_getElem? (i := 10) rfl)) (hw _ (List.mem_of_getElem? (i := 9) rfl)) (by decide) (by decide)) (g := (mkF m 21 #[.val (.int p1), .val (.int (0 : Int32)), .unset, .unset] [(.int p1)])) rfl (by rw [hml]; rfl) (argsL := [(.int p1)]) (rest := []) (lenOf pd_0 rfl) rfl (by show 2 * 0 + _ ≤ _; exact Nat.le_of_eq rfl) (hb hby at_21) (fun _ _ => ⟨rfl, e2, (by decide : 0 + 0 ≤ _), (by decide : 0 + 0 ≤ _)⟩)
    dsimp only [Pt.U, Pt.locs, Pt.cells, Pt.slots] at X3 l3 y3 z3 st3 hQ3
    subst l3 y3 z3
    obtain ⟨rfl, Nq3, e3⟩ := hQ3
    have N3 := Fr.app N2 Nq3
    refine Go.step st3 ?_
    show Go p e below _ (T3.setTop (mkF m 24 #[.val (.int p1), .val (.int (0 : Int32)), .unset, .unset] [(.int (0 : Int32))]))
    refine Go.step (fun t_ k_ => XS.istoreN X3.here hx rfl (hb hby at_24) rfl (l' := #[.val (.int p1), .val (.int (0 : Int32)), .val (.int (0 : Int32)), .unset]) rfl k_) ?_
    show Go p e below _ (T3.setTop (mkF m 25 #[.val (.int p1), .val (.int (0 : Int32)), .val (.int (0 : Int32)), .unset] []))
    refine Go.step (fun t_ k_ => XS.iloadN X3.here hx rfl (hb hby at_25) rfl k_) ?_
    show Go p e below _ (T3.setTop (mkF m 26 #[.val (.int p1), .val (.int (0 : Int32)), .val (.int (0 : Int32)), .unset] [(.int (0 : Int32))]))
    refine Go.step (fun t_ k_ => XS.iloadN X3.here hx rfl (hb hby at_26) rfl k_) ?_
    show Go p e below _ (T3.setTop (mkF m 27 #[.val (.int p1), .val (.int (0 : Int32)), .val (.int (0 : Int32)), .unset] [(.int (0 : Int32)), (.int (0 : Int32))]))
    have hc27 : (0 : Int32) = (0 : Int32) := by decide
    refine Go.step (fun t_ k_ => XS.icmpYes X3.here hx rfl (pc0 := 27) (pc' := 32) rfl (hb hby at_27) rfl (teq hc27).1 (by decide) (by decide) k_) ?_
    show Go p e below _ (T3.setTop (mkF m 32 #[.val (.int p1), .val (.int (0 : Int32)), .val (.int (0 : Int32)), .unset] []))
    refine Go.step (fun t_ k_ => XS.iloadN X3.here hx rfl (hb hby at_32) rfl k_) ?_
    show Go p e below _ (T3.setTop (mkF m 33 #[.val (.int p1), .val (.int (0 : Int32)), .val (.int (0 : Int32)), .unset] [(.int (0 : Int32))]))
    have hc33 : (0 : Int32) = (0 : Int32) := by decide
    refine Go.step (fun t_ k_ => XS.ifYes X3.here hx rfl (pc0 := 33) (pc' := 65) rfl (hb hby at_33) rfl ((if0 _ _).trans (teq hc33).1) (by decide) (by decide) k_) ?_
    show Go p e below _ (T3.setTop (mkF m 65 #[.val (.int p1), .val (.int (0 : Int32)), .val (.int (0 : Int32)), .unset] []))
    refine Go.step (fun t_ k_ => XS.iconst X3.here hx rfl (hb hby at_65) k_) ?_
    show Go p e below _ (T3.setTop (mkF m 66 #[.val (.int p1), .val (.int (0 : Int32)), .val (.int (0 : Int32)), .unset] [(.int (1 : Int32))]))
    refine Go.retZ X3 hx (t := .boolean) Bd.returns (by simp) Bd.notSynchronized (hb hby at_66) (by rw [e3]; exact ⟨rfl, N3⟩) (by decide) (by decide)
  case neg =>
    by_cases h_hi : (15 : Int32) < p1
    case pos =>
      refine Go.step (fun t_ k_ => XS.iconst X0.here hx rfl (hb hby at_0) k_) ?_
      show Go p e below _ (s₁.setTop (mkF m 1 #[.val (.int p1), .unset, .unset, .unset] [(.int (2 : Int32))]))
      refine Go.step (fun t_ k_ => XS.bipush X0.here hx rfl (hb hby at_1) k_) ?_
      show Go p e below _ (s₁.setTop (mkF m 3 #[.val (.int p1), .unset, .unset, .unset] [(.int (15 : Int32)), (.int (2 : Int32))]))
      refine Go.step (fun t_ k_ => XS.iloadN X0.here hx rfl (hb hby at_3) rfl k_) ?_
      show Go p e below _ (s₁.setTop (mkF m 4 #[.val (.int p1), .unset, .unset, .unset] [(.int p1), (.int (15 : Int32)), (.int (2 : Int32))]))
      obtain ⟨_, _, ⟨T4, L4, k4, n4⟩, -, X4, ⟨Lc4, hQ4, l4, y4, z4⟩, st4⟩ := Jvm.LawKit.callS X0 hx (y := (⟨"java/lang/Math", "min", "(II)I"⟩ : MethodName)) hown (mvT hZ (hw _ (List.mem_of_getElem? (i := 0) rfl))) (mvT hZ (hw _ (List.mem_of_getElem? (i := 1) rfl))) (mvT hZ (hw _ (List.mem_of_getElem? (i := 2) rfl))) (mvT hZ (hw _ (List.mem_of_getElem? (i := 3) rfl))) (by decide) (backOf (W := 1) (rm1 l Z a0 hw [] a_INSTALLMENTS HW (15 : Int32) p1 (15 : Int32) h0 n0 Ol (by rw [if_neg (nlt_of h_hi)])) hZ (hw _ (List.mem_of_getElem? (i := 3) rfl)) (hw _ (List.mem_of_getElem? (i := 2) rfl)) (by decide) (by decide)) (g := (mkF m 4 #[.val (.int p1), .unset, .unset, .unset] [(.int p1), (.int (15 : Int32)), (.int (2 : Int32))])) rfl (by rw [hml]; rfl) (argsL := [(.int (15 : Int32)), (.int p1)]) (rest := [(.int (2 : Int32))]) (lenOf pd_2 rfl) rfl (by show 2 * 0 + _ ≤ _; exact Nat.le_of_eq rfl) (hb hby at_4) (fun _ _ => ⟨rfl, e0, (by decide : 0 + 0 ≤ _), (by decide : 0 + 0 ≤ _)⟩)
      dsimp only [Pt.U, Pt.locs, Pt.cells, Pt.slots] at X4 l4 y4 z4 st4 hQ4
      subst l4 y4 z4
      obtain ⟨rfl, Nq4, e4⟩ := hQ4
      have N4 := Fr.app N0 Nq4
      refine Go.step st4 ?_
      show Go p e below _ (T4.setTop (mkF m 7 #[.val (.int p1), .unset, .unset, .unset] [(.int (15 : Int32)), (.int (2 : Int32))]))
      obtain ⟨_, _, ⟨T5, L5, k5, n5⟩, -, X5, ⟨Lc5, hQ5, l5, y5, z5⟩, st5⟩ := Jvm.LawKit.callS X4 hx (y := (⟨"java/lang/Math", "max", "(II)I"⟩ : MethodName)) hown (mvT hZ (hw _ (List.mem_of_getElem? (i := 4) rfl))) (mvT hZ (hw _ (List.mem_of_getElem? (i := 5) rfl))) (mvT hZ (hw _ (List.mem_of_getElem? (i := 2) rfl))) (mvT hZ (hw _ (List.mem_of_getElem? (i := 6) rfl))) (by decide) (backOf (W := 0) (rm2 l Z a0 hw [] a_INSTALLMENTS HW (2 : Int32) (15 : Int32) (15 : Int32) h0 n0 Ol (by decide)) hZ (hw _ (List.mem_of_getElem? (i := 6) rfl)) (hw _ (List.mem_of_getElem? (i := 2) rfl)) (by decide) (by decide)) (g := (mkF m 7 #[.val (.int p1), .unset, .unset, .unset] [(.int (15 : Int32)), (.int (2 : Int32))])) rfl (by rw [hml]; rfl) (argsL := [(.int (2 : Int32)), (.int (15 : Int32))]) (rest := []) (lenOf pd_2 rfl) rfl (by show 2 * 0 + _ ≤ _; exact Nat.le_of_eq rfl) (hb hby at_7) (fun _ _ => ⟨rfl, e4, (by decide : 0 + 0 ≤ _), (by decide : 0 + 0 ≤ _)⟩)
      dsimp only [Pt.U, Pt.locs, Pt.cells, Pt.slots] at X5 l5 y5 z5 st5 hQ5
      subst l5 y5 z5
      obtain ⟨rfl, Nq5, e5⟩ := hQ5
      have N5 := Fr.app N4 Nq5
      refine Go.step st5 ?_
      show Go p e below _ (T5.setTop (mkF m 10 #[.val (.int p1), .unset, .unset, .unset] [(.int (15 : Int32))]))
      refine Go.step (fun t_ k_ => XS.iloadN X5.here hx rfl (hb hby at_10) rfl k_) ?_
      show Go p e below _ (T5.setTop (mkF m 11 #[.val (.int p1), .unset, .unset, .unset] [(.int p1), (.int (15 : Int32))]))
      have hc11 : ¬ ((15 : Int32) = p1) := fun q => by rw [← q] at h_hi; exact absurd h_hi (by decide)
      refine Go.step (fun t_ k_ => XS.icmpYes X5.here hx rfl (pc0 := 11) (pc' := 18) rfl (hb hby at_11) rfl (feq hc11).2 (by decide) (by decide) k_) ?_
      show Go p e below _ (T5.setTop (mkF m 18 #[.val (.int p1), .unset, .unset, .unset] []))
      refine Go.step (fun t_ k_ => XS.iconst X5.here hx rfl (hb hby at_18) k_) ?_
      show Go p e below _ (T5.setTop (mkF m 19 #[.val (.int p1), .unset, .unset, .unset] [(.int (0 : Int32))]))
      refine Go.step (fun t_ k_ => XS.istoreN X5.here hx rfl (hb hby at_19) rfl (l' := #[.val (.int p1), .val (.int (0 : Int32)), .unset, .unset]) rfl k_) ?_
      show Go p e below _ (T5.setTop (mkF m 20 #[.val (.int p1), .val (.int (0 : Int32)), .unset, .unset] []))
      refine Go.step (fun t_ k_ => XS.iloadN X5.here hx rfl (hb hby at_20) rfl k_) ?_
      show Go p e below _ (T5.setTop (mkF m 21 #[.val (.int p1), .val (.int (0 : Int32)), .unset, .unset] [(.int p1)]))
      obtain ⟨_, _, ⟨T6, L6, k6, n6⟩, -, X6, ⟨Lc6, hQ6, l6, y6, z6⟩, st6⟩ := Jvm.LawKit.callS X5 hx (y := (⟨"com/example/overcap/overcap/model/Distribution", "paysInstallmentsOver", "(I)Z"⟩ : MethodName)) hown (mvT hZ (hw _ (List.mem_of_getElem? (i := 7) rfl))) (mvT hZ (hw _ (List.mem_of_getElem? (i := 8) rfl))) (mvT hZ (hw _ (List.mem_of_getElem? (i := 9) rfl))) (mvT hZ (hw _ (List.mem_of_getElem? (i := 10) rfl))) (by decide) (backOf (W := 0) (rm3 l Z a0 hw [] a_INSTALLMENTS HW p1 (0 : Int32) h0 n0 Ol (by rw [if_neg h_lo, if_pos h_hi])) hZ (hw _ (List.mem_of_getElem? (i := 10) rfl)) (hw _ (List.mem_of_getElem? (i := 9) rfl)) (by decide) (by decide)) (g := (mkF m 21 #[.val (.int p1), .val (.int (0 : Int32)), .unset, .unset] [(.int p1)])) rfl (by rw [hml]; rfl) (argsL := [(.int p1)]) (rest := []) (lenOf pd_0 rfl) rfl (by show 2 * 0 + _ ≤ _; exact Nat.le_of_eq rfl) (hb hby at_21) (fun _ _ => ⟨rfl, e5, (by decide : 0 + 0 ≤ _), (by decide : 0 + 0 ≤ _)⟩)
      dsimp only [Pt.U, Pt.locs, Pt.cells, Pt.slots] at X6 l6 y6 z6 st6 hQ6
      subst l6 y6 z6
      obtain ⟨rfl, Nq6, e6⟩ := hQ6
      have N6 := Fr.app N5 Nq6
      refine Go.step st6 ?_
      show Go p e below _ (T6.setTop (mkF m 24 #[.val (.int p1), .val (.int (0 : Int32)), .unset, .unset] [(.int (0 : Int32))]))
      refine Go.step (fun t_ k_ => XS.istoreN X6.here hx rfl (hb hby at_24) rfl (l' := #[.val (.int p1), .val (.int (0 : Int32)), .val (.int (0 : Int32)), .unset]) rfl k_) ?_
      show Go p e below _ (T6.setTop (mkF m 25 #[.val (.int p1), .val (.int (0 : Int32)), .val (.int (0 : Int32)), .unset] []))
      refine Go.step (fun t_ k_ => XS.iloadN X6.here hx rfl (hb hby at_25) rfl k_) ?_
      show Go p e below _ (T6.setTop (mkF m 26 #[.val (.int p1), .val (.int (0 : Int32)), .val (.int (0 : Int32)), .unset] [(.int (0 : Int32))]))
      refine Go.step (fun t_ k_ => XS.iloadN X6.here hx rfl (hb hby at_26) rfl k_) ?_
      show Go p e below _ (T6.setTop (mkF m 27 #[.val (.int p1), .val (.int (0 : Int32)), .val (.int (0 : Int32)), .unset] [(.int (0 : Int32)), (.int (0 : Int32))]))
      have hc27 : (0 : Int32) = (0 : Int32) := by decide
      refine Go.step (fun t_ k_ => XS.icmpYes X6.here hx rfl (pc0 := 27) (pc' := 32) rfl (hb hby at_27) rfl (teq hc27).1 (by decide) (by decide) k_) ?_
      show Go p e below _ (T6.setTop (mkF m 32 #[.val (.int p1), .val (.int (0 : Int32)), .val (.int (0 : Int32)), .unset] []))
      refine Go.step (fun t_ k_ => XS.iloadN X6.here hx rfl (hb hby at_32) rfl k_) ?_
      show Go p e below _ (T6.setTop (mkF m 33 #[.val (.int p1), .val (.int (0 : Int32)), .val (.int (0 : Int32)), .unset] [(.int (0 : Int32))]))
      have hc33 : (0 : Int32) = (0 : Int32) := by decide
      refine Go.step (fun t_ k_ => XS.ifYes X6.here hx rfl (pc0 := 33) (pc' := 65) rfl (hb hby at_33) rfl ((if0 _ _).trans (teq hc33).1) (by decide) (by decide) k_) ?_
      show Go p e below _ (T6.setTop (mkF m 65 #[.val (.int p1), .val (.int (0 : Int32)), .val (.int (0 : Int32)), .unset] []))
      refine Go.step (fun t_ k_ => XS.iconst X6.here hx rfl (hb hby at_65) k_) ?_
      show Go p e below _ (T6.setTop (mkF m 66 #[.val (.int p1), .val (.int (0 : Int32)), .val (.int (0 : Int32)), .unset] [(.int (1 : Int32))]))
      refine Go.retZ X6 hx (t := .boolean) Bd.returns (by simp) Bd.notSynchronized (hb hby at_66) (by rw [e6]; exact ⟨rfl, N6⟩) (by decide) (by decide)
    case neg =>
      refine Go.step (fun t_ k_ => XS.iconst X0.here hx rfl (hb hby at_0) k_) ?_
      show Go p e below _ (s₁.setTop (mkF m 1 #[.val (.int p1), .unset, .unset, .unset] [(.int (2 : Int32))]))
      refine Go.step (fun t_ k_ => XS.bipush X0.here hx rfl (hb hby at_1) k_) ?_
      show Go p e below _ (s₁.setTop (mkF m 3 #[.val (.int p1), .unset, .unset, .unset] [(.int (15 : Int32)), (.int (2 : Int32))]))
      refine Go.step (fun t_ k_ => XS.iloadN X0.here hx rfl (hb hby at_3) rfl k_) ?_
      show Go p e below _ (s₁.setTop (mkF m 4 #[.val (.int p1), .unset, .unset, .unset] [(.int p1), (.int (15 : Int32)), (.int (2 : Int32))]))
      obtain ⟨_, _, ⟨T7, L7, k7, n7⟩, -, X7, ⟨Lc7, hQ7, l7, y7, z7⟩, st7⟩ := Jvm.LawKit.callS X0 hx (y := (⟨"java/lang/Math", "min", "(II)I"⟩ : MethodName)) hown (mvT hZ (hw _ (List.mem_of_getElem? (i := 0) rfl))) (mvT hZ (hw _ (List.mem_of_getElem? (i := 1) rfl))) (mvT hZ (hw _ (List.mem_of_getElem? (i := 2) rfl))) (mvT hZ (hw _ (List.mem_of_getElem? (i := 3) rfl))) (by decide) (backOf (W := 1) (rm1 l Z a0 hw [] a_INSTALLMENTS HW (15 : Int32) p1 p1 h0 n0 Ol (min_is h_hi)) hZ (hw _ (List.mem_of_getElem? (i := 3) rfl)) (hw _ (List.mem_of_getElem? (i := 2) rfl)) (by decide) (by decide)) (g := (mkF m 4 #[.val (.int p1), .unset, .unset, .unset] [(.int p1), (.int (15 : Int32)), (.int (2 : Int32))])) rfl (by rw [hml]; rfl) (argsL := [(.int (15 : Int32)), (.int p1)]) (rest := [(.int (2 : Int32))]) (lenOf pd_2 rfl) rfl (by show 2 * 0 + _ ≤ _; exact Nat.le_of_eq rfl) (hb hby at_4) (fun _ _ => ⟨rfl, e0, (by decide : 0 + 0 ≤ _), (by decide : 0 + 0 ≤ _)⟩)
      dsimp only [Pt.U, Pt.locs, Pt.cells, Pt.slots] at X7 l7 y7 z7 st7 hQ7
      subst l7 y7 z7
      obtain ⟨rfl, Nq7, e7⟩ := hQ7
      have N7 := Fr.app N0 Nq7
      refine Go.step st7 ?_
      show Go p e below _ (T7.setTop (mkF m 7 #[.val (.int p1), .unset, .unset, .unset] [(.int p1), (.int (2 : Int32))]))
      obtain ⟨_, _, ⟨T8, L8, k8, n8⟩, -, X8, ⟨Lc8, hQ8, l8, y8, z8⟩, st8⟩ := Jvm.LawKit.callS X7 hx (y := (⟨"java/lang/Math", "max", "(II)I"⟩ : MethodName)) hown (mvT hZ (hw _ (List.mem_of_getElem? (i := 4) rfl))) (mvT hZ (hw _ (List.mem_of_getElem? (i := 5) rfl))) (mvT hZ (hw _ (List.mem_of_getElem? (i := 2) rfl))) (mvT hZ (hw _ (List.mem_of_getElem? (i := 6) rfl))) (by decide) (backOf (W := 0) (rm2 l Z a0 hw [] a_INSTALLMENTS HW (2 : Int32) p1 p1 h0 n0 Ol (max_is h_lo)) hZ (hw _ (List.mem_of_getElem? (i := 6) rfl)) (hw _ (List.mem_of_getElem? (i := 2) rfl)) (by decide) (by decide)) (g := (mkF m 7 #[.val (.int p1), .unset, .unset, .unset] [(.int p1), (.int (2 : Int32))])) rfl (by rw [hml]; rfl) (argsL := [(.int (2 : Int32)), (.int p1)]) (rest := []) (lenOf pd_2 rfl) rfl (by show 2 * 0 + _ ≤ _; exact Nat.le_of_eq rfl) (hb hby at_7) (fun _ _ => ⟨rfl, e7, (by decide : 0 + 0 ≤ _), (by decide : 0 + 0 ≤ _)⟩)
      dsimp only [Pt.U, Pt.locs, Pt.cells, Pt.slots] at X8 l8 y8 z8 st8 hQ8
      subst l8 y8 z8
      obtain ⟨rfl, Nq8, e8⟩ := hQ8
      have N8 := Fr.app N7 Nq8
      refine Go.step st8 ?_
      show Go p e below _ (T8.setTop (mkF m 10 #[.val (.int p1), .unset, .unset, .unset] [(.int p1)]))
      refine Go.step (fun t_ k_ => XS.iloadN X8.here hx rfl (hb hby at_10) rfl k_) ?_
      show Go p e below _ (T8.setTop (mkF m 11 #[.val (.int p1), .unset, .unset, .unset] [(.int p1), (.int p1)]))
      have hc11 : p1 = p1 := rfl
      refine Go.step (fun t_ k_ => XS.icmpNo X8.here hx rfl (hb hby at_11) rfl (teq hc11).2 k_) ?_
      show Go p e below _ (T8.setTop (mkF m 14 #[.val (.int p1), .unset, .unset, .unset] []))
      refine Go.step (fun t_ k_ => XS.iconst X8.here hx rfl (hb hby at_14) k_) ?_
      show Go p e below _ (T8.setTop (mkF m 15 #[.val (.int p1), .unset, .unset, .unset] [(.int (1 : Int32))]))
      refine Go.step (fun t_ k_ => XS.goto X8.here hx rfl (pc0 := 15) (pc' := 19) rfl (hb hby at_15) (by decide) (by decide) k_) ?_
      show Go p e below _ (T8.setTop (mkF m 19 #[.val (.int p1), .unset, .unset, .unset] [(.int (1 : Int32))]))
      refine Go.step (fun t_ k_ => XS.istoreN X8.here hx rfl (hb hby at_19) rfl (l' := #[.val (.int p1), .val (.int (1 : Int32)), .unset, .unset]) rfl k_) ?_
      show Go p e below _ (T8.setTop (mkF m 20 #[.val (.int p1), .val (.int (1 : Int32)), .unset, .unset] []))
      refine Go.step (fun t_ k_ => XS.iloadN X8.here hx rfl (hb hby at_20) rfl k_) ?_
      show Go p e below _ (T8.setTop (mkF m 21 #[.val (.int p1), .val (.int (1 : Int32)), .unset, .unset] [(.int p1)]))
      obtain ⟨_, _, ⟨T9, L9, k9, n9⟩, -, X9, ⟨Lc9, hQ9, l9, y9, z9⟩, st9⟩ := Jvm.LawKit.callS X8 hx (y := (⟨"com/example/overcap/overcap/model/Distribution", "paysInstallmentsOver", "(I)Z"⟩ : MethodName)) hown (mvT hZ (hw _ (List.mem_of_getElem? (i := 7) rfl))) (mvT hZ (hw _ (List.mem_of_getElem? (i := 8) rfl))) (mvT hZ (hw _ (List.mem_of_getElem? (i := 9) rfl))) (mvT hZ (hw _ (List.mem_of_getElem? (i := 10) rfl))) (by decide) (backOf (W := 0) (rm3 l Z a0 hw [] a_INSTALLMENTS HW p1 (1 : Int32) h0 n0 Ol (by rw [if_neg h_lo, if_neg h_hi])) hZ (hw _ (List.mem_of_getElem? (i := 10) rfl)) (hw _ (List.mem_of_getElem? (i := 9) rfl)) (by decide) (by decide)) (g := (mkF m 21 #[.val (.int p1), .val (.int (1 : Int32)), .unset, .unset] [(.int p1)])) rfl (by rw [hml]; rfl) (argsL := [(.int p1)]) (rest := []) (lenOf pd_0 rfl) rfl (by show 2 * 0 + _ ≤ _; exact Nat.le_of_eq rfl) (hb hby at_21) (fun _ _ => ⟨rfl, e8, (by decide : 0 + 0 ≤ _), (by decide : 0 + 0 ≤ _)⟩)
      dsimp only [Pt.U, Pt.locs, Pt.cells, Pt.slots] at X9 l9 y9 z9 st9 hQ9
      subst l9 y9 z9
      obtain ⟨rfl, Nq9, e9⟩ := hQ9
      have N9 := Fr.app N8 Nq9
      refine Go.step st9 ?_
      show Go p e below _ (T9.setTop (mkF m 24 #[.val (.int p1), .val (.int (1 : Int32)), .unset, .unset] [(.int (1 : Int32))]))
      refine Go.step (fun t_ k_ => XS.istoreN X9.here hx rfl (hb hby at_24) rfl (l' := #[.val (.int p1), .val (.int (1 : Int32)), .val (.int (1 : Int32)), .unset]) rfl k_) ?_
      show Go p e below _ (T9.setTop (mkF m 25 #[.val (.int p1), .val (.int (1 : Int32)), .val (.int (1 : Int32)), .unset] []))
      refine Go.step (fun t_ k_ => XS.iloadN X9.here hx rfl (hb hby at_25) rfl k_) ?_
      show Go p e below _ (T9.setTop (mkF m 26 #[.val (.int p1), .val (.int (1 : Int32)), .val (.int (1 : Int32)), .unset] [(.int (1 : Int32))]))
      refine Go.step (fun t_ k_ => XS.iloadN X9.here hx rfl (hb hby at_26) rfl k_) ?_
      show Go p e below _ (T9.setTop (mkF m 27 #[.val (.int p1), .val (.int (1 : Int32)), .val (.int (1 : Int32)), .unset] [(.int (1 : Int32)), (.int (1 : Int32))]))
      have hc27 : (1 : Int32) = (1 : Int32) := by decide
      refine Go.step (fun t_ k_ => XS.icmpYes X9.here hx rfl (pc0 := 27) (pc' := 32) rfl (hb hby at_27) rfl (teq hc27).1 (by decide) (by decide) k_) ?_
      show Go p e below _ (T9.setTop (mkF m 32 #[.val (.int p1), .val (.int (1 : Int32)), .val (.int (1 : Int32)), .unset] []))
      refine Go.step (fun t_ k_ => XS.iloadN X9.here hx rfl (hb hby at_32) rfl k_) ?_
      show Go p e below _ (T9.setTop (mkF m 33 #[.val (.int p1), .val (.int (1 : Int32)), .val (.int (1 : Int32)), .unset] [(.int (1 : Int32))]))
      have hc33 : ¬ ((1 : Int32) = (0 : Int32)) := by decide
      refine Go.step (fun t_ k_ => XS.ifNo X9.here hx rfl (hb hby at_33) rfl ((if0 _ _).trans (feq hc33).1) k_) ?_
      show Go p e below _ (T9.setTop (mkF m 36 #[.val (.int p1), .val (.int (1 : Int32)), .val (.int (1 : Int32)), .unset] []))
      refine Go.step (fun t_ k_ => XS.iloadN X9.here hx rfl (hb hby at_36) rfl k_) ?_
      show Go p e below _ (T9.setTop (mkF m 37 #[.val (.int p1), .val (.int (1 : Int32)), .val (.int (1 : Int32)), .unset] [(.int p1)]))
      obtain ⟨_, _, ⟨T10, L10, k10, n10⟩, -, X10, ⟨Lc10, hQ10, l10, y10, z10⟩, st10⟩ := Jvm.LawKit.callS X9 hx (y := (⟨"com/example/overcap/overcap/model/Distribution", "installments", "(I)Lcom/example/overcap/overcap/model/Distribution;"⟩ : MethodName)) hown (mvT hZ (hw _ (List.mem_of_getElem? (i := 11) rfl))) (mvT hZ (hw _ (List.mem_of_getElem? (i := 12) rfl))) (mvT hZ (hw _ (List.mem_of_getElem? (i := 9) rfl))) (mvT hZ (hw _ (List.mem_of_getElem? (i := 13) rfl))) (by decide) (backOf (W := 0) (rm4 l Z a0 hw [] a_INSTALLMENTS HW p1 h0 n0 Ol h_lo h_hi) hZ (hw _ (List.mem_of_getElem? (i := 13) rfl)) (hw _ (List.mem_of_getElem? (i := 9) rfl)) (by decide) (by decide)) (g := (mkF m 37 #[.val (.int p1), .val (.int (1 : Int32)), .val (.int (1 : Int32)), .unset] [(.int p1)])) rfl (by rw [hml]; rfl) (argsL := [(.int p1)]) (rest := []) (lenOf pd_3 rfl) rfl (by show 2 * 0 + _ ≤ _; exact Nat.le_of_eq rfl) (hb hby at_37) (fun _ _ => ⟨rfl, e9, (by decide : 0 + 1 ≤ _), (by decide : 0 + 2 ≤ _)⟩)
      dsimp only [Pt.U, Pt.locs, Pt.cells, Pt.slots] at X10 l10 y10 z10 st10 hQ10
      subst l10 y10 z10
      obtain ⟨b10, rfl, gb_b10, Nq10, K10, p10_0, p10_1, p10_2⟩ := hQ10
      have nn_b10 : n0 ≤ b10 := Nat.le_trans (old_z0 Ol) gb_b10
      have sz_b10 : h0.size ≤ b10 := Nat.le_trans kp0.1 gb_b10
      have old10 := Ol.keep K10 all0
      have kp10 := kp0.trans K10 all0
      have N10 := Fr.app N9 Nq10
      refine Go.step st10 ?_
      show Go p e below _ (T10.setTop (mkF m 40 #[.val (.int p1), .val (.int (1 : Int32)), .val (.int (1 : Int32)), .unset] [(.ref b10)]))
      refine Go.step (fun t_ k_ => XS.astoreN X10.here hx rfl (hb hby at_40) rfl rfl (l' := #[.val (.int p1), .val (.int (1 : Int32)), .val (.int (1 : Int32)), .val (.ref b10)]) rfl k_) ?_
      show Go p e below _ (T10.setTop (mkF m 41 #[.val (.int p1), .val (.int (1 : Int32)), .val (.int (1 : Int32)), .val (.ref b10)] []))
      refine Go.step (fun t_ k_ => XS.aloadN X10.here hx rfl (hb hby at_41) rfl rfl k_) ?_
      show Go p e below _ (T10.setTop (mkF m 42 #[.val (.int p1), .val (.int (1 : Int32)), .val (.int (1 : Int32)), .val (.ref b10)] [(.ref b10)]))
      obtain ⟨cq11, kq11, q11a, q11b, q11c⟩ := isOf hZ rfl p10_0
      obtain ⟨_, _, ⟨T11, L11, k11, n11⟩, -, X11, ⟨Lc11, hQ11, l11, y11, z11⟩, st11⟩ := X10.virtualBack hx (y := (⟨"com/example/overcap/overcap/model/Distribution", "payments", "()I"⟩ : MethodName)) (z := (⟨"com/example/overcap/overcap/model/Distribution", "payments", "()I"⟩ : MethodName)) hown (mvT hZ (hw _ (List.mem_of_getElem? (i := 30) rfl))) (mvT hZ (hw _ (List.mem_of_getElem? (i := 31) rfl))) (notFace_of_selects (args := #[]) (mvT hZ (hw _ (List.mem_of_getElem? (i := 33) rfl)))) (mvT hZ (hw _ (List.mem_of_getElem? (i := 33) rfl))) (mvT hZ (hw _ (List.mem_of_getElem? (i := 32) rfl))) (by decide) (backOf (W := 0) (rm7 l Z a0 hw [] a_INSTALLMENTS HW b10 p1 T10.heap n0 old10 p10_2) hZ (hw _ (List.mem_of_getElem? (i := 34) rfl)) (hw _ (List.mem_of_getElem? (i := 9) rfl)) (by decide) (by decide)) q11a q11c (g := (mkF m 42 #[.val (.int p1), .val (.int (1 : Int32)), .val (.int (1 : Int32)), .val (.ref b10)] [(.ref b10)])) rfl (by rw [hml]; rfl) (Steps.refl _) (argsL := []) (rest := []) (lenOf pd_4 rfl) rfl (by show 2 * 0 + _ ≤ _; exact Nat.le_of_eq rfl) (hb hby at_42) (fun _ _ => ⟨rfl, rfl, (by decide : 1 + 0 ≤ _), (by decide : 2 + 0 ≤ _)⟩)
      dsimp only [Pt.U, Pt.locs, Pt.cells, Pt.slots] at X11 l11 y11 z11 st11 hQ11
      subst l11 y11 z11
      obtain ⟨rfl, Nq11, e11⟩ := hQ11
      have N11 := Fr.app N10 Nq11
      refine Go.step (fun t_ k_ => st11.trans k_) ?_
      show Go p e below _ (T11.setTop (mkF m 45 #[.val (.int p1), .val (.int (1 : Int32)), .val (.int (1 : Int32)), .val (.ref b10)] [(.int p1)]))
      refine Go.step (fun t_ k_ => XS.iloadN X11.here hx rfl (hb hby at_45) rfl k_) ?_
      show Go p e below _ (T11.setTop (mkF m 46 #[.val (.int p1), .val (.int (1 : Int32)), .val (.int (1 : Int32)), .val (.ref b10)] [(.int p1), (.int p1)]))
      have hc46 : p1 = p1 := rfl
      refine Go.step (fun t_ k_ => XS.icmpNo X11.here hx rfl (hb hby at_46) rfl (teq hc46).2 k_) ?_
      show Go p e below _ (T11.setTop (mkF m 49 #[.val (.int p1), .val (.int (1 : Int32)), .val (.int (1 : Int32)), .val (.ref b10)] []))
      refine Go.step (fun t_ k_ => XS.aloadN X11.here hx rfl (hb hby at_49) rfl rfl k_) ?_
      show Go p e below _ (T11.setTop (mkF m 50 #[.val (.int p1), .val (.int (1 : Int32)), .val (.int (1 : Int32)), .val (.ref b10)] [(.ref b10)]))
      obtain ⟨cq12, kq12, q12a, q12b, q12c⟩ := isOf hZ e11 p10_0
      obtain ⟨_, _, ⟨T12, L12, k12, n12⟩, -, X12, ⟨Lc12, hQ12, l12, y12, z12⟩, st12⟩ := X11.virtualBack hx (y := (⟨"com/example/overcap/overcap/model/Distribution", "form", "()Lcom/example/overcap/overcap/model/Distribution$Form;"⟩ : MethodName)) (z := (⟨"com/example/overcap/overcap/model/Distribution", "form", "()Lcom/example/overcap/overcap/model/Distribution$Form;"⟩ : MethodName)) hown (mvT hZ (hw _ (List.mem_of_getElem? (i := 35) rfl))) (mvT hZ (hw _ (List.mem_of_getElem? (i := 36) rfl))) (notFace_of_selects (args := #[]) (mvT hZ (hw _ (List.mem_of_getElem? (i := 38) rfl)))) (mvT hZ (hw _ (List.mem_of_getElem? (i := 38) rfl))) (mvT hZ (hw _ (List.mem_of_getElem? (i := 37) rfl))) (by decide) (backOf (W := 0) (rm8 l Z a0 hw [] a_INSTALLMENTS HW b10 a_INSTALLMENTS T10.heap n0 old10 p10_1) hZ (hw _ (List.mem_of_getElem? (i := 39) rfl)) (hw _ (List.mem_of_getElem? (i := 9) rfl)) (by decide) (by decide)) q12a q12c (g := (mkF m 50 #[.val (.int p1), .val (.int (1 : Int32)), .val (.int (1 : Int32)), .val (.ref b10)] [(.ref b10)])) rfl (by rw [hml]; rfl) (Steps.refl _) (argsL := []) (rest := []) (lenOf pd_5 rfl) rfl (by show 2 * 0 + _ ≤ _; exact Nat.le_of_eq rfl) (hb hby at_50) (fun _ _ => ⟨rfl, e11, (by decide : 1 + 0 ≤ _), (by decide : 2 + 0 ≤ _)⟩)
      dsimp only [Pt.U, Pt.locs, Pt.cells, Pt.slots] at X12 l12 y12 z12 st12 hQ12
      subst l12 y12 z12
      obtain ⟨rfl, Nq12, e12⟩ := hQ12
      have N12 := Fr.app N11 Nq12
      refine Go.step (fun t_ k_ => st12.trans k_) ?_
      show Go p e below _ (T12.setTop (mkF m 53 #[.val (.int p1), .val (.int (1 : Int32)), .val (.int (1 : Int32)), .val (.ref b10)] [(.ref a_INSTALLMENTS)]))
      obtain ⟨T13, X13, e13, st13⟩ := getS2 X12 hx hZ hown (host := "") (Or.inl (hw _ (List.mem_of_getElem? (i := 40) rfl))) Via.refl e12 (S_INSTALLMENTS.ext old10.2) (g := (mkF m 53 #[.val (.int p1), .val (.int (1 : Int32)), .val (.int (1 : Int32)), .val (.ref b10)] [(.ref a_INSTALLMENTS)])) rfl (hb hby at_53)
      refine Go.step st13 ?_
      show Go p e below _ (T13.setTop (mkF m 56 #[.val (.int p1), .val (.int (1 : Int32)), .val (.int (1 : Int32)), .val (.ref b10)] [(.ref a_INSTALLMENTS), (.ref a_INSTALLMENTS)]))
      refine Go.step (fun t_ k_ => Jvm.RoadKit.acmp (g := (mkF m 56 #[.val (.int p1), .val (.int (1 : Int32)), .val (.int (1 : Int32)), .val (.ref b10)] [(.ref a_INSTALLMENTS), (.ref a_INSTALLMENTS)])) X13 hx rfl rfl rfl (pc0 := 56) (pc' := 59) (same := true) rfl (hb hby at_56) rfl (decide_eq_true rfl) (by decide) (by decide) k_) ?_
      show Go p e below _ (T13.setTop (mkF m 59 #[.val (.int p1), .val (.int (1 : Int32)), .val (.int (1 : Int32)), .val (.ref b10)] []))
      refine Go.step (fun t_ k_ => XS.iconst X13.here hx rfl (hb hby at_59) k_) ?_
      show Go p e below _ (T13.setTop (mkF m 60 #[.val (.int p1), .val (.int (1 : Int32)), .val (.int (1 : Int32)), .val (.ref b10)] [(.int (1 : Int32))]))
      refine Go.step (fun t_ k_ => XS.goto X13.here hx rfl (pc0 := 60) (pc' := 64) rfl (hb hby at_60) (by decide) (by decide) k_) ?_
      show Go p e below _ (T13.setTop (mkF m 64 #[.val (.int p1), .val (.int (1 : Int32)), .val (.int (1 : Int32)), .val (.ref b10)] [(.int (1 : Int32))]))
      refine Go.retZ X13 hx (t := .boolean) Bd.returns (by simp) Bd.notSynchronized (hb hby at_64) (by rw [e13]; exact ⟨rfl, N12⟩) (by decide) (by decide)
set_option maxRecDepth 65536 in
set_option maxHeartbeats 40000000 in
theorem comes_1 {Post : Tables → Env → Array Value → State → Outcome → State → Prop} (hpost : ∀ tb e args s v u, (limb_1_1.after args s (.returned v) u = true ∧ limb_1_2.after args s (.returned v) u = true ∧ True) → FrameEnd s (.returned v) u (Jvm.fieldLocs frame_1_writes args s ++ Jvm.arrayLocs frame_1_arrays args s ++ Jvm.staticLocs frame_1_statics s) 16 128 → Post tb e args s (.returned v) u) :
    ArmFor flags0 classFile x code maxLocals ret World_1 tables_1 room_1 Calls_1 rest_1 Pre_1 Post := by
  intro l hfl _ _ p e ha hc hk s m args below hf hA hF happ hP
  obtain ⟨hcalls, hrest, hpre⟩ := hP
  obtain ⟨-, -, -, hnamed, -, -, -, hat⟩ := (Spec.applies_iff hf).mp happ
  obtain ⟨hg, hn⟩ := and_e (Cond.before_iff.mp (show (Jvm.Cond.and given_1 narrow_1).before args s = true from hpre))
  obtain ⟨hgl, hgr⟩ := and_e hg
  obtain ⟨w0, rfl⟩ : ∃ w0 : Value, args = #[w0] := by
    have hs : args.size = 1 := by simpa [Cond.value, given_1] using hgl
    obtain ⟨L⟩ := args
    match L, hs with
    | [w0], _ => exact ⟨w0, rfl⟩
  have hw := fun d (hd : d ∈ tables_1) => atoms_spec (ws := Jvm.Cond.code x code maxLocals ret :: tables_1) hat d (List.mem_cons_of_mem _ hd)
  have hfit : Fit s := fun {y c} hc i hi => by
    obtain ⟨ha, rfl⟩ := Array.getElem?_eq_some_iff.mp hc
    have q := List.all_eq_true.mp ((Array.all_eq_true_iff_forall_mem.mp hF) _ (Array.getElem_mem ha)) i (List.mem_range.mpr hi)
    simpa [Array.getElem?_eq_getElem hi] using q
  obtain ⟨i0, ei0⟩ := is_v hgr
  obtain rfl : w0 = (.int i0) := Option.some.inj ei0
  obtain ⟨a_INSTALLMENTS, ev_INSTALLMENTS⟩ := exa_v hn
  have HW : Wd s a_INSTALLMENTS := ⟨Sta.start ev_INSTALLMENTS (Or.inr ⟨(hw _ (List.mem_of_getElem? (i := 18) rfl)), (hw _ (List.mem_of_getElem? (i := 19) rfl))⟩), Exa.start ev_INSTALLMENTS hn⟩
  obtain ⟨n, o, h1, h2, h3, _, L, rfl, ⟨rfl, N⟩, hq⟩ := rm0 l s _ hw tables_1 a_INSTALLMENTS HW i0 s.heap s.heap.size (Old.start s)  p e ha hc hk s m _ below hf ((Spec.applies_iff_loose hf).mp happ).1 ⟨rfl, State.Warmed39.refl s, rfl⟩ trivial
  refine ⟨n, _, h1, h2, h3, hpost _ _ _ _ _ _ ⟨Cond.after_iff.mpr rfl, Cond.after_iff.mpr (eq_i res_at (Term.int_eval (1)) rfl), trivial⟩ ⟨hq.1, hq.2.1, (hq.2.2.sift fun y hy => Or.inr (N y hy)).mono (by decide) (by decide)⟩⟩
theorem main_1_1 : Claimed_1_1 := comes_1 fun _ _ _ _ _ _ h hF => ⟨h.1, hF⟩
theorem main_1_2 : Claimed_1_2 := comes_1 fun _ _ _ _ _ _ h hF => ⟨h.2.1, hF⟩
end Jvm.Pilot.@@N@@
namespace Jvm.Pilot.@@N@@
open Jvm Jvm.ClassFile Sem Op Lib Jvm.Free Jvm.Stand Jvm.Pilot.@@N@@.Jvm.D
/-! MADE BY PROGRAM (witnessworld.py) out of the Statement's table words and the real class files: 14 classes; the members and pool entries that the words name. The judged class is class 1, her method 1. -/
namespace start1
open Jvm.ClassFile
def u (s : String) : CpInfo := .utf8 (stringToUtf16 s)
/-- a pool by its gaps: so many unusable entries, then the entry; so many at the end -/
def gap : Nat → List CpInfo → List CpInfo
  | 0, r => r
  | n + 1, r => .unusable :: gap n r
def poolList (es : List (Nat × CpInfo)) (last : Nat) : List CpInfo := es.foldr (fun e r => gap e.1 (e.2 :: r)) (gap last [])
def pool (es : List (Nat × CpInfo)) (last : Nat) : Array CpInfo := ⟨poolList es last⟩
def fileOf (pool : Array CpInfo) (this : Nat) (attrs : Array Attribute := #[]) (ms : Array MethodInfo := #[]) (fl : Nat := 33) (sup : Nat := 0) (ifs : Array Nat := #[]) (fds : Array FieldInfo := #[]) : ClassFile where
  minorVersion := 0
  majorVersion := 65
  constantPool := pool
  accessFlags := fl
  thisClass := this
  superClass := sup
  interfaces := ifs
  fields := fds
  methods := ms
  attributes := attrs
def plain (name : String) (sup : Option ClassId) : Class where
  name := name
  kind := .ordinary
  loader := none
  accessFlags := 33
  super := sup
  interfaces := #[]
  cf := none
  fields := #[]
  methods := #[]
  instanceTypes := #[]
  staticTypes := #[]
  resolved := #[]
  callSites := []
  init := .initialized
  statics := none
  mirror := none

def pool0 : Array CpInfo := pool [(5, u "<init>"), (0, u "()V"), (1, .class_ 10), (1, u "java/lang/Object")] 113

def k0c0 : Code := { maxStack := 0, maxLocals := 1, code := object_method_1_code, exceptionTable := #[], attributes := #[] }
def k0m0 : Method := { name := "<init>", desc := "()V", sig := { parameters := [], returnType := none }, accessFlags := 1, code := some k0c0 }
/-- java/lang/Object -/
def k0 : Class := { plain "java/lang/Object" none with
  accessFlags := 33
  interfaces := #[]
  cf := some (fileOf pool0 8 #[] #[{ accessFlags := 1, nameIndex := 5, descriptorIndex := 6, attributes := #[] }] 33 0 #[] #[])
  fields := #[]
  methods := #[k0m0]
  instanceTypes := #[]
  staticTypes := #[]
  resolved := Array.replicate 124 none
  statics := none }

def pool1 : Array CpInfo := pool [(2, .class_ 4), (1, u "java/lang/Object"), (0, u "<init>"), (0, u "()V"), (0, .methodref 8 9), (0, .class_ 10), (0, .nameAndType 11 12), (0, u "java/lang/Math"), (0, u "min"), (0, u "(II)I"), (0, .methodref 8 14), (0, .nameAndType 15 12), (0, u "max"), (0, .methodref 17 18), (0, .class_ 19), (0, .nameAndType 20 21), (0, u "com/example/overcap/overcap/model/Distribution"), (0, u "paysInstallmentsOver"), (0, u "(I)Z"), (0, .methodref 17 23), (0, .nameAndType 24 25), (0, u "installments"), (0, u "(I)Lcom/example/overcap/overcap/model/Distribution;"), (0, .methodref 17 27), (0, .nameAndType 28 29), (0, u "payments"), (0, u "()I"), (0, .methodref 17 31), (0, .nameAndType 32 33), (0, u "form"), (0, u "()Lcom/example/overcap/overcap/model/Distribution$Form;"), (0, .fieldref 35 36), (0, .class_ 37), (0, .nameAndType 38 39), (0, u "com/example/overcap/overcap/model/Distribution$Form"), (0, u "INSTALLMENTS"), (0, u "Lcom/example/overcap/overcap/model/Distribution$Form;"), (0, .class_ 41), (0, u "com/example/overcap/overcap/model/DistributionPaysInstallmentsOverPinLaw"), (2, u "law")] 5

def k1m0 : Method := { name := "<init>", desc := "()V", sig := { parameters := [], returnType := none }, accessFlags := 2, code := none }
def k1c1 : Code := { maxStack := 3, maxLocals := 4, code := code, exceptionTable := #[], attributes := #[] }
def k1m1 : Method := { name := "law", desc := "(I)Z", sig := { parameters := [.int], returnType := some .boolean }, accessFlags := 9, code := some k1c1 }
/-- com/example/overcap/overcap/model/DistributionPaysInstallmentsOverPinLaw -/
def k1 : Class := { plain "com/example/overcap/overcap/model/DistributionPaysInstallmentsOverPinLaw" (some 0) with
  accessFlags := 49
  interfaces := #[]
  cf := some (fileOf pool1 40 #[] #[{ accessFlags := 2, nameIndex := 5, descriptorIndex := 6, attributes := #[] }, { accessFlags := 9, nameIndex := 44, descriptorIndex := 21, attributes := #[] }] 49 2 #[] #[])
  fields := #[]
  methods := #[k1m0, k1m1]
  instanceTypes := #[]
  staticTypes := #[]
  resolved := Array.replicate 50 none
  statics := none }

def pool2 : Array CpInfo := pool [(1, .class_ 2), (0, u "java/lang/Math"), (1, .class_ 6), (1, u "java/lang/Object"), (0, u "<init>"), (0, u "()V"), (89, .class_ 100), (1, u "java/lang/Math$RandomNumberGeneratorHolder"), (71, u "negativeZeroFloatBits"), (0, u "J"), (2, u "negativeZeroDoubleBits"), (21, u "max"), (2, u "min"), (43, u "$assertionsDisabled"), (0, u "Z"), (88, u "(II)I"), (2, u "twoToTheDoubleScaleDown"), (0, u "D"), (4, u "twoToTheDoubleScaleUp"), (9, u "E"), (3, u "PI"), (2, u "TAU"), (2, u "DEGREES_TO_RADIANS"), (0, u "RADIANS_TO_DEGREES")] 94

def k2m0 : Method := { name := "<init>", desc := "()V", sig := { parameters := [], returnType := none }, accessFlags := 2, code := none }
def k2c1 : Code := { maxStack := 2, maxLocals := 2, code := jdk_29_method_65_code, exceptionTable := #[], attributes := #[] }
def k2m1 : Method := { name := "max", desc := "(II)I", sig := { parameters := [.int, .int], returnType := some .int }, accessFlags := 9, code := some k2c1 }
def k2c2 : Code := { maxStack := 2, maxLocals := 2, code := jdk_29_method_69_code, exceptionTable := #[], attributes := #[] }
def k2m2 : Method := { name := "min", desc := "(II)I", sig := { parameters := [.int, .int], returnType := some .int }, accessFlags := 9, code := some k2c2 }
/-- java/lang/Math -/
def k2 : Class := { plain "java/lang/Math" (some 0) with
  accessFlags := 49
  interfaces := #[]
  cf := some (fileOf pool2 1 #[.nestMembers #[98]] #[{ accessFlags := 2, nameIndex := 7, descriptorIndex := 8, attributes := #[] }, { accessFlags := 9, nameIndex := 198, descriptorIndex := 335, attributes := #[] }, { accessFlags := 9, nameIndex := 201, descriptorIndex := 335, attributes := #[] }] 49 4 #[] #[{ accessFlags := 25, nameIndex := 354, descriptorIndex := 339, attributes := #[] }, { accessFlags := 25, nameIndex := 358, descriptorIndex := 339, attributes := #[] }, { accessFlags := 25, nameIndex := 361, descriptorIndex := 339, attributes := #[] }, { accessFlags := 26, nameIndex := 364, descriptorIndex := 339, attributes := #[] }, { accessFlags := 26, nameIndex := 365, descriptorIndex := 339, attributes := #[] }, { accessFlags := 26, nameIndex := 172, descriptorIndex := 173, attributes := #[] }, { accessFlags := 26, nameIndex := 176, descriptorIndex := 173, attributes := #[] }, { accessFlags := 8, nameIndex := 344, descriptorIndex := 339, attributes := #[] }, { accessFlags := 8, nameIndex := 338, descriptorIndex := 339, attributes := #[] }, { accessFlags := 4120, nameIndex := 245, descriptorIndex := 246, attributes := #[] }])
  fields := #[{ name := "E", type := .double, accessFlags := 25, slot := 0, constantValue := 0 }, { name := "PI", type := .double, accessFlags := 25, slot := 1, constantValue := 0 }, { name := "TAU", type := .double, accessFlags := 25, slot := 2, constantValue := 0 }, { name := "DEGREES_TO_RADIANS", type := .double, accessFlags := 26, slot := 3, constantValue := 0 }, { name := "RADIANS_TO_DEGREES", type := .double, accessFlags := 26, slot := 4, constantValue := 0 }, { name := "negativeZeroFloatBits", type := .long, accessFlags := 26, slot := 5, constantValue := 0 }, { name := "negativeZeroDoubleBits", type := .long, accessFlags := 26, slot := 6, constantValue := 0 }, { name := "twoToTheDoubleScaleUp", type := .double, accessFlags := 8, slot := 7, constantValue := 0 }, { name := "twoToTheDoubleScaleDown", type := .double, accessFlags := 8, slot := 8, constantValue := 0 }, { name := "$assertionsDisabled", type := .boolean, accessFlags := 4120, slot := 9, constantValue := 0 }]
  methods := #[k2m0, k2m1, k2m2]
  instanceTypes := #[]
  staticTypes := #[.double, .double, .double, .double, .double, .long, .long, .double, .double, .boolean]
  resolved := Array.replicate 460 none
  statics := none }

def pool3 : Array CpInfo := pool [(1, .methodref 2 3), (0, .class_ 4), (0, .nameAndType 5 6), (0, u "java/lang/Object"), (0, u "<init>"), (0, u "()V"), (0, .fieldref 8 9), (0, .class_ 10), (0, .nameAndType 11 12), (0, u "com/example/overcap/overcap/model/Distribution"), (0, u "form"), (0, u "Lcom/example/overcap/overcap/model/Distribution$Form;"), (0, .fieldref 8 14), (0, .nameAndType 15 16), (0, u "payments"), (0, u "I"), (11, u "LUMP_SUM"), (0, u "Lcom/example/overcap/overcap/model/Distribution;"), (0, .methodref 8 31), (0, .nameAndType 32 33), (0, u "paysInstallmentsOver"), (0, u "(I)Z"), (9, .fieldref 44 45), (0, .class_ 46), (0, .nameAndType 47 12), (0, u "com/example/overcap/overcap/model/Distribution$Form"), (0, u "INSTALLMENTS"), (0, .methodref 8 49), (0, .nameAndType 5 50), (0, u "(Lcom/example/overcap/overcap/model/Distribution$Form;I)V"), (12, u "FEWEST_INSTALLMENT_YEARS"), (2, u "MOST_INSTALLMENT_YEARS"), (8, u "installments"), (0, u "(I)Lcom/example/overcap/overcap/model/Distribution;"), (1, u "()Lcom/example/overcap/overcap/model/Distribution$Form;"), (0, u "()I")] 21

def k3c0 : Code := { maxStack := 2, maxLocals := 3, code := prog_8_method_1_code, exceptionTable := #[], attributes := #[] }
def k3m0 : Method := { name := "<init>", desc := "(Lcom/example/overcap/overcap/model/Distribution$Form;I)V", sig := { parameters := [(.object "com/example/overcap/overcap/model/Distribution$Form"), .int], returnType := none }, accessFlags := 2, code := some k3c0 }
def k3c1 : Code := { maxStack := 4, maxLocals := 1, code := prog_8_method_5_code, exceptionTable := #[], attributes := #[] }
def k3m1 : Method := { name := "installments", desc := "(I)Lcom/example/overcap/overcap/model/Distribution;", sig := { parameters := [.int], returnType := some (.object "com/example/overcap/overcap/model/Distribution") }, accessFlags := 9, code := some k3c1 }
def k3c2 : Code := { maxStack := 2, maxLocals := 1, code := prog_8_method_6_code, exceptionTable := #[], attributes := #[] }
def k3m2 : Method := { name := "paysInstallmentsOver", desc := "(I)Z", sig := { parameters := [.int], returnType := some .boolean }, accessFlags := 9, code := some k3c2 }
def k3c3 : Code := { maxStack := 1, maxLocals := 1, code := prog_8_method_7_code, exceptionTable := #[], attributes := #[] }
def k3m3 : Method := { name := "form", desc := "()Lcom/example/overcap/overcap/model/Distribution$Form;", sig := { parameters := [], returnType := some (.object "com/example/overcap/overcap/model/Distribution$Form") }, accessFlags := 1, code := some k3c3 }
def k3c4 : Code := { maxStack := 1, maxLocals := 1, code := prog_8_method_8_code, exceptionTable := #[], attributes := #[] }
def k3m4 : Method := { name := "payments", desc := "()I", sig := { parameters := [], returnType := some .int }, accessFlags := 1, code := some k3c4 }
/-- com/example/overcap/overcap/model/Distribution -/
def k3 : Class := { plain "com/example/overcap/overcap/model/Distribution" (some 0) with
  accessFlags := 49
  interfaces := #[]
  cf := some (fileOf pool3 8 #[.nestMembers #[44]] #[{ accessFlags := 2, nameIndex := 5, descriptorIndex := 50, attributes := #[] }, { accessFlags := 9, nameIndex := 75, descriptorIndex := 76, attributes := #[] }, { accessFlags := 9, nameIndex := 32, descriptorIndex := 33, attributes := #[] }, { accessFlags := 1, nameIndex := 11, descriptorIndex := 78, attributes := #[] }, { accessFlags := 1, nameIndex := 15, descriptorIndex := 79, attributes := #[] }] 49 2 #[] #[{ accessFlags := 25, nameIndex := 63, descriptorIndex := 16, attributes := #[] }, { accessFlags := 25, nameIndex := 66, descriptorIndex := 16, attributes := #[] }, { accessFlags := 26, nameIndex := 28, descriptorIndex := 29, attributes := #[] }, { accessFlags := 18, nameIndex := 11, descriptorIndex := 12, attributes := #[] }, { accessFlags := 18, nameIndex := 15, descriptorIndex := 16, attributes := #[] }])
  fields := #[{ name := "FEWEST_INSTALLMENT_YEARS", type := .int, accessFlags := 25, slot := 0, constantValue := 0 }, { name := "MOST_INSTALLMENT_YEARS", type := .int, accessFlags := 25, slot := 1, constantValue := 0 }, { name := "LUMP_SUM", type := (.object "com/example/overcap/overcap/model/Distribution"), accessFlags := 26, slot := 2, constantValue := 0 }, { name := "form", type := (.object "com/example/overcap/overcap/model/Distribution$Form"), accessFlags := 18, slot := 0, constantValue := 0 }, { name := "payments", type := .int, accessFlags := 18, slot := 1, constantValue := 0 }]
  methods := #[k3m0, k3m1, k3m2, k3m3, k3m4]
  instanceTypes := #[(.object "com/example/overcap/overcap/model/Distribution$Form"), .int]
  staticTypes := #[.int, .int, (.object "com/example/overcap/overcap/model/Distribution")]
  resolved := Array.replicate 101 none
  statics := none }

def pool4 : Array CpInfo := pool [(1, .class_ 2), (0, u "java/lang/constant/Constable"), (0, .class_ 4), (0, u "java/lang/Object")] 6

/-- java/lang/constant/Constable -/
def k4 : Class := { plain "java/lang/constant/Constable" (some 0) with
  accessFlags := 1537
  interfaces := #[]
  cf := some (fileOf pool4 1 #[] #[] 1537 3 #[] #[])
  fields := #[]
  methods := #[]
  instanceTypes := #[]
  staticTypes := #[]
  resolved := Array.replicate 11 none
  statics := none }

def pool5 : Array CpInfo := pool [(1, .class_ 2), (0, u "java/lang/Comparable"), (0, .class_ 4), (0, u "java/lang/Object")] 7

/-- java/lang/Comparable -/
def k5 : Class := { plain "java/lang/Comparable" (some 0) with
  accessFlags := 1537
  interfaces := #[]
  cf := some (fileOf pool5 1 #[] #[] 1537 3 #[] #[])
  fields := #[]
  methods := #[]
  instanceTypes := #[]
  staticTypes := #[]
  resolved := Array.replicate 12 none
  statics := none }

def pool6 : Array CpInfo := pool [(1, .class_ 2), (0, u "java/io/Serializable"), (0, .class_ 4), (0, u "java/lang/Object")] 2

/-- java/io/Serializable -/
def k6 : Class := { plain "java/io/Serializable" (some 0) with
  accessFlags := 1537
  interfaces := #[]
  cf := some (fileOf pool6 1 #[] #[] 1537 3 #[] #[])
  fields := #[]
  methods := #[]
  instanceTypes := #[]
  staticTypes := #[]
  resolved := Array.replicate 7 none
  statics := none }

def pool7 : Array CpInfo := pool [(2, .class_ 4), (1, u "java/lang/Enum"), (0, u "name"), (0, u "Ljava/lang/String;"), (2, u "ordinal"), (0, u "I"), (1, .class_ 14), (1, u "java/lang/Object"), (4, u "hash"), (86, .class_ 108), (1, u "java/lang/Enum$EnumDesc"), (2, .class_ 112), (0, u "java/lang/constant/Constable"), (0, .class_ 114), (0, u "java/lang/Comparable"), (0, .class_ 116), (0, u "java/io/Serializable")] 87

/-- java/lang/Enum -/
def k7 : Class := { plain "java/lang/Enum" (some 0) with
  accessFlags := 1057
  interfaces := #[4, 5, 6]
  cf := some (fileOf pool7 2 #[.nestMembers #[106]] #[] 1057 12 #[111, 113, 115] #[{ accessFlags := 18, nameIndex := 5, descriptorIndex := 6, attributes := #[] }, { accessFlags := 18, nameIndex := 9, descriptorIndex := 10, attributes := #[] }, { accessFlags := 2, nameIndex := 19, descriptorIndex := 10, attributes := #[] }])
  fields := #[{ name := "name", type := (.object "java/lang/String"), accessFlags := 18, slot := 0, constantValue := 0 }, { name := "ordinal", type := .int, accessFlags := 18, slot := 1, constantValue := 0 }, { name := "hash", type := .int, accessFlags := 2, slot := 2, constantValue := 0 }]
  methods := #[]
  instanceTypes := #[(.object "java/lang/String"), .int, .int]
  staticTypes := #[]
  resolved := Array.replicate 204 none
  statics := none }

def pool8 : Array CpInfo := pool [(1, .class_ 2), (0, u "com/example/overcap/overcap/model/Distribution$Form"), (2, u "LUMP_SUM"), (0, u "Lcom/example/overcap/overcap/model/Distribution$Form;"), (2, u "INSTALLMENTS"), (2, u "$VALUES"), (0, u "[Lcom/example/overcap/overcap/model/Distribution$Form;"), (6, .class_ 22), (1, u "java/lang/Enum"), (8, u "formName"), (0, u "Ljava/lang/String;"), (27, .class_ 61), (0, u "com/example/overcap/overcap/model/Distribution")] 2

/-- com/example/overcap/overcap/model/Distribution$Form -/
def k8 : Class := { plain "com/example/overcap/overcap/model/Distribution$Form" (some 7) with
  accessFlags := 16433
  interfaces := #[]
  cf := some (fileOf pool8 1 #[.nestHost 60] #[] 16433 20 #[] #[{ accessFlags := 16409, nameIndex := 5, descriptorIndex := 6, attributes := #[] }, { accessFlags := 16409, nameIndex := 9, descriptorIndex := 6, attributes := #[] }, { accessFlags := 18, nameIndex := 31, descriptorIndex := 32, attributes := #[] }, { accessFlags := 4122, nameIndex := 12, descriptorIndex := 13, attributes := #[] }])
  fields := #[{ name := "LUMP_SUM", type := (.object "com/example/overcap/overcap/model/Distribution$Form"), accessFlags := 16409, slot := 0, constantValue := 0 }, { name := "INSTALLMENTS", type := (.object "com/example/overcap/overcap/model/Distribution$Form"), accessFlags := 16409, slot := 1, constantValue := 0 }, { name := "formName", type := (.object "java/lang/String"), accessFlags := 18, slot := 3, constantValue := 0 }, { name := "$VALUES", type := (.array (.object "com/example/overcap/overcap/model/Distribution$Form")), accessFlags := 4122, slot := 2, constantValue := 0 }]
  methods := #[]
  instanceTypes := #[(.object "java/lang/String"), .int, .int, (.object "java/lang/String")]
  staticTypes := #[(.object "com/example/overcap/overcap/model/Distribution$Form"), (.object "com/example/overcap/overcap/model/Distribution$Form"), (.array (.object "com/example/overcap/overcap/model/Distribution$Form"))]
  resolved := Array.replicate 64 none
  statics := some 0 }

def pool9 : Array CpInfo := pool [(1, u "java/lang/Cloneable"), (0, .class_ 1), (0, u "java/lang/Object"), (0, .class_ 3)] 3

/-- java/lang/Cloneable -/
def k9 : Class := { plain "java/lang/Cloneable" (some 0) with
  accessFlags := 1537
  interfaces := #[]
  cf := some (fileOf pool9 2 #[] #[] 1537 4 #[] #[])
  fields := #[]
  methods := #[]
  instanceTypes := #[]
  staticTypes := #[]
  resolved := Array.replicate 8 none
  statics := none }

/-- the primitive byte -/
def k10 : Class := { plain "byte" none with kind := .primitive 'B', accessFlags := 0x411 }
/-- [B -/
def k11 : Class := { plain "[B" (some 0) with kind := .array 10 .byte, interfaces := #[9, 6], accessFlags := 1041 }

/-- the primitive int -/
def k12 : Class := { plain "int" none with kind := .primitive 'I', accessFlags := 0x411 }
/-- [I -/
def k13 : Class := { plain "[I" (some 0) with kind := .array 12 .int, interfaces := #[9, 6], accessFlags := 1041 }

def heap : Heap := #[{ cls := 8, slots := #[.null, .ref 1, .null], vm := .statics 8 },
  { cls := 8, slots := #[.null, .int 0, .int 0, .null], vm := .none }]
def classes : Array Class := #[k0, k1, k2, k3, k4, k5, k6, k7, k8, k9, k10, k11, k12, k13]
def interned : List (Array UInt16 × Addr) := []
def slotsUsed : Nat := 7
def theMethod : MethodId := ⟨1, 1⟩
def args0 : Array Value := #[.int 5]
def aboutOver (below : List Frame) : State where
  vm := { classes := classes, interned := interned.toArray }
  heap := heap
  slotsUsed := slotsUsed
  threads := #[{ frames := .invoking theMethod args0 :: below }]
def below0 : List Frame := [.native { method := ⟨0, 0⟩, args := #[] }]
def about1 : State := aboutOver below0
def p0 : Program := .bare "" "" ""
def e0 : Env := launch0.env 0 0 0
theorem w_frames : about1.frames = Frame.invoking theMethod args0 :: below0 := rfl
set_option maxRecDepth 65536 in
theorem w_args : argsFit about1.vm theMethod args0 = true := by decide +kernel
set_option maxRecDepth 65536 in
theorem w_heap : heapFits about1 = true := by decide +kernel
set_option maxRecDepth 65536 in
theorem w_runnable : about1.curStatus? = some .runnable := by decide +kernel
set_option maxRecDepth 65536 in
theorem w_alone : about1.alone = true := by decide +kernel
set_option maxRecDepth 65536 in
theorem w_named : about1.methodNamed? x = some theMethod := by decide +kernel
set_option maxRecDepth 65536 in
theorem w_hears : about1.hears theMethod below0 = true := by decide +kernel
set_option maxRecDepth 65536 in
theorem w_ripe : about1.ripe theMethod args0 below0 = true := by decide +kernel
theorem w_running : about1.status = .running := rfl
set_option maxRecDepth 65536 in
theorem w_room : about1.hasRoom e0.platform room_1 = true :=
  launch0.hasRoom_least _ room_1 (by decide +kernel) (by decide +kernel) (by decide +kernel) (by decide +kernel) (by decide +kernel) (by decide +kernel)
theorem allAtoms_all (ts : List Jvm.Cond) (a : Array Jvm.Value) (st : Jvm.State) : (allAtoms ts).before a st = ts.all (fun c => c.before a st) := by
  induction ts with
  | nil => rfl
  | cons c t ih =>
    show (Jvm.Cond.and c (allAtoms t)).before a st = _
    rw [Jvm.Cond.before_and, ih, List.all_cons]
def words1 : List Jvm.Cond := Jvm.Cond.code x code maxLocals ret :: tables_1
/-- a 'code' word, met by the world's own term for the bytes: nothing is compared byte by byte -/
theorem code_word {y : MethodName} {bytes : ByteArray} {mx : Nat} {rt : Option FieldType} {a : Array Value} {s : State} {m : MethodId} {meth : Method} {c : Code} (h1 : s.methodNamed? y = some m) (h2 : s.vm.method? m = some meth) (h3 : meth.code = some c) (h4 : c.code = bytes)
    (h5 : (c.maxLocals == mx && c.exceptionTable.isEmpty && decide (c.maxStack ≤ mostOperands) && decide (meth.sig.returnType = rt) && !meth.locks && decide (parseMethodDescriptor y.desc = some meth.sig)) = true) : (Jvm.Cond.code y bytes mx rt).before a s = true := by
  simp only [Bool.and_eq_true, beq_iff_eq, Bool.not_eq_true', decide_eq_true_eq] at h5
  obtain ⟨⟨⟨⟨⟨g1, g2⟩, g3⟩, g4⟩, g5⟩, g6⟩ := h5
  simp [Cond.before, Cond.holds, Cond.value, h1, h2, h3, h4, g1, g2, g3, g4, g5, g6]
def isCode : Jvm.Cond → Bool
  | .code _ _ _ _ => true
  | _ => false
theorem all_split {L : List Jvm.Cond} {P : Jvm.Cond → Bool} (h1 : L.all (fun c => isCode c || P c) = true) (h2 : ∀ c ∈ L.filter isCode, P c = true) : L.all P = true := by
  refine List.all_eq_true.mpr fun c hc => ?_
  have h := List.all_eq_true.mp h1 c hc
  rcases Bool.eq_false_or_eq_true (isCode c) with hi | hi
  · exact h2 c (List.mem_filter.mpr ⟨hc, hi⟩)
  · simpa [hi] using h
set_option maxRecDepth 65536 in
theorem w_c0 : (Jvm.Cond.code x code maxLocals ret).before args0 about1 = true := code_word (m := ⟨1, 1⟩) (meth := k1m1) (c := k1c1) (by decide +kernel) rfl rfl rfl (by decide +kernel)
set_option maxRecDepth 65536 in
theorem w_c1 : (Jvm.Cond.code ({ cls := "java/lang/Math", name := "min", desc := "(II)I" } : Jvm.MethodName) jdk_29_method_69_code (2 : Nat) (Option.some Jvm.ClassFile.FieldType.int)).before args0 about1 = true := code_word (m := ⟨2, 2⟩) (meth := k2m2) (c := k2c2) (by decide +kernel) rfl rfl rfl (by decide +kernel)
set_option maxRecDepth 65536 in
theorem w_c2 : (Jvm.Cond.code ({ cls := "java/lang/Math", name := "max", desc := "(II)I" } : Jvm.MethodName) jdk_29_method_65_code (2 : Nat) (Option.some Jvm.ClassFile.FieldType.int)).before args0 about1 = true := code_word (m := ⟨2, 1⟩) (meth := k2m1) (c := k2c1) (by decide +kernel) rfl rfl rfl (by decide +kernel)
set_option maxRecDepth 65536 in
theorem w_c3 : (Jvm.Cond.code ({ cls := "com/example/overcap/overcap/model/Distribution", name := "paysInstallmentsOver", desc := "(I)Z" } : Jvm.MethodName) prog_8_method_6_code (1 : Nat) (Option.some Jvm.ClassFile.FieldType.boolean)).before args0 about1 = true := code_word (m := ⟨3, 2⟩) (meth := k3m2) (c := k3c2) (by decide +kernel) rfl rfl rfl (by decide +kernel)
set_option maxRecDepth 65536 in
theorem w_c4 : (Jvm.Cond.code ({ cls := "com/example/overcap/overcap/model/Distribution", name := "installments", desc := "(I)Lcom/example/overcap/overcap/model/Distribution;" } : Jvm.MethodName) prog_8_method_5_code (1 : Nat) (Option.some (Jvm.ClassFile.FieldType.object "com/example/overcap/overcap/model/Distribution"))).before args0 about1 = true := code_word (m := ⟨3, 1⟩) (meth := k3m1) (c := k3c1) (by decide +kernel) rfl rfl rfl (by decide +kernel)
set_option maxRecDepth 65536 in
theorem w_c5 : (Jvm.Cond.code ({ cls := "com/example/overcap/overcap/model/Distribution", name := "<init>", desc := "(Lcom/example/overcap/overcap/model/Distribution$Form;I)V" } : Jvm.MethodName) prog_8_method_1_code (3 : Nat) (Option.none : Option Jvm.ClassFile.FieldType)).before args0 about1 = true := code_word (m := ⟨3, 0⟩) (meth := k3m0) (c := k3c0) (by decide +kernel) rfl rfl rfl (by decide +kernel)
set_option maxRecDepth 65536 in
theorem w_c6 : (Jvm.Cond.code ({ cls := "java/lang/Object", name := "<init>", desc := "()V" } : Jvm.MethodName) object_method_1_code (1 : Nat) (Option.none : Option Jvm.ClassFile.FieldType)).before args0 about1 = true := code_word (m := ⟨0, 0⟩) (meth := k0m0) (c := k0c0) (by decide +kernel) rfl rfl rfl (by decide +kernel)
set_option maxRecDepth 65536 in
theorem w_c7 : (Jvm.Cond.code ({ cls := "com/example/overcap/overcap/model/Distribution", name := "payments", desc := "()I" } : Jvm.MethodName) prog_8_method_8_code (1 : Nat) (Option.some Jvm.ClassFile.FieldType.int)).before args0 about1 = true := code_word (m := ⟨3, 4⟩) (meth := k3m4) (c := k3c4) (by decide +kernel) rfl rfl rfl (by decide +kernel)
set_option maxRecDepth 65536 in
theorem w_c8 : (Jvm.Cond.code ({ cls := "com/example/overcap/overcap/model/Distribution", name := "form", desc := "()Lcom/example/overcap/overcap/model/Distribution$Form;" } : Jvm.MethodName) prog_8_method_7_code (1 : Nat) (Option.some (Jvm.ClassFile.FieldType.object "com/example/overcap/overcap/model/Distribution$Form"))).before args0 about1 = true := code_word (m := ⟨3, 3⟩) (meth := k3m3) (c := k3c3) (by decide +kernel) rfl rfl rfl (by decide +kernel)
def codes1 : List Jvm.Cond := [Jvm.Cond.code x code maxLocals ret, Jvm.Cond.code ({ cls := "java/lang/Math", name := "min", desc := "(II)I" } : Jvm.MethodName) jdk_29_method_69_code (2 : Nat) (Option.some Jvm.ClassFile.FieldType.int), Jvm.Cond.code ({ cls := "java/lang/Math", name := "max", desc := "(II)I" } : Jvm.MethodName) jdk_29_method_65_code (2 : Nat) (Option.some Jvm.ClassFile.FieldType.int), Jvm.Cond.code ({ cls := "com/example/overcap/overcap/model/Distribution", name := "paysInstallmentsOver", desc := "(I)Z" } : Jvm.MethodName) prog_8_method_6_code (1 : Nat) (Option.some Jvm.ClassFile.FieldType.boolean), Jvm.Cond.code ({ cls := "com/example/overcap/overcap/model/Distribution", name := "installments", desc := "(I)Lcom/example/overcap/overcap/model/Distribution;" } : Jvm.MethodName) prog_8_method_5_code (1 : Nat) (Option.some (Jvm.ClassFile.FieldType.object "com/example/overcap/overcap/model/Distribution")), Jvm.Cond.code ({ cls := "com/example/overcap/overcap/model/Distribution", name := "<init>", desc := "(Lcom/example/overcap/overcap/model/Distribution$Form;I)V" } : Jvm.MethodName) prog_8_method_1_code (3 : Nat) (Option.none : Option Jvm.ClassFile.FieldType), Jvm.Cond.code ({ cls := "java/lang/Object", name := "<init>", desc := "()V" } : Jvm.MethodName) object_method_1_code (1 : Nat) (Option.none : Option Jvm.ClassFile.FieldType), Jvm.Cond.code ({ cls := "com/example/overcap/overcap/model/Distribution", name := "payments", desc := "()I" } : Jvm.MethodName) prog_8_method_8_code (1 : Nat) (Option.some Jvm.ClassFile.FieldType.int), Jvm.Cond.code ({ cls := "com/example/overcap/overcap/model/Distribution", name := "form", desc := "()Lcom/example/overcap/overcap/model/Distribution$Form;" } : Jvm.MethodName) prog_8_method_7_code (1 : Nat) (Option.some (Jvm.ClassFile.FieldType.object "com/example/overcap/overcap/model/Distribution$Form"))]
set_option maxRecDepth 65536 in
theorem codes_eq : words1.filter isCode = codes1 := rfl
theorem w_codes : ∀ c ∈ words1.filter isCode, c.before args0 about1 = true := by
  rw [codes_eq]
  intro c hc
  simp only [codes1, List.mem_cons, List.not_mem_nil, or_false] at hc
  rcases hc with rfl | rfl | rfl | rfl | rfl | rfl | rfl | rfl | rfl
  · exact w_c0
  · exact w_c1
  · exact w_c2
  · exact w_c3
  · exact w_c4
  · exact w_c5
  · exact w_c6
  · exact w_c7
  · exact w_c8
set_option maxRecDepth 65536 in
theorem w_t1 : (words1.take 24).all (fun c => isCode c || c.before args0 about1) = true := by decide +kernel
set_option maxRecDepth 65536 in
theorem w_t2 : (words1.drop 24).all (fun c => isCode c || c.before args0 about1) = true := by decide +kernel
theorem w_tables : (allAtoms (Jvm.Cond.code x code maxLocals ret :: tables_1)).before args0 about1 = true := by
  rw [allAtoms_all]
  show words1.all (fun c => c.before args0 about1) = true
  refine all_split ?_ w_codes
  rw [← List.take_append_drop 24 words1, List.all_append, w_t1, w_t2]
  rfl
set_option maxRecDepth 65536 in
theorem w_case : (Jvm.Cond.and given_1 narrow_1).before args0 about1 = true := by decide +kernel
theorem w_applies : (headSpec (Jvm.Cond.code x code maxLocals ret :: tables_1) room_1).applies x e0.platform about1 = true :=
  (Spec.applies_iff w_frames).mpr ⟨w_running, w_runnable, w_alone, w_named, w_hears, w_ripe, w_room, w_tables⟩
theorem atStart : AtStart classFile x code maxLocals ret World_1 tables_1 room_1 Calls_1 rest_1 Pre_1 launch0 p0 e0 about1 theMethod args0 below0 :=
  ⟨lists_1, trivial, launch0.admits_env _ _ _, launch0.least_env, fairChoices_fair.cas, fairChoices_fair.clock, w_frames, w_args, w_heap, w_applies, trivial, trivial, w_case⟩
end start1
theorem witness_1 : WitnessClaimed_1 := ⟨start1.p0, start1.e0, start1.about1, start1.theMethod, start1.args0, start1.below0, start1.atStart⟩
end Jvm.Pilot.@@N@@
