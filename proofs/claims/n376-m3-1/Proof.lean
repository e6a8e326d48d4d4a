import JvmDerived
import JvmDerived.Pilot.@@N@@Statement
import JvmDerived.Pilot.@@N@@Code
set_option linter.unusedVariables false
set_option linter.unusedSimpArgs false
@@BLOCK:NumsL.lean.txt@@
namespace Jvm.RoadKit
open Sem ClassFile Op Lib Jvm.Stand Jvm.Free Jvm.LawKit
section New
variable {p : Program} {l : Launch} {e : Env} {R : Room} {s : State} {m : MethodId} {args : Array Value} {below : List Frame} {meth : Method} {c : Code} {T : State} {locs : List Loc} {cells slots : Nat}
theorem retI (X : Stand p l e R s m args below meth c T locs cells slots) (hx : p.tables.exec = Jvm.exec) {pc : Nat} {Ls : Array Slot} {z : Int32} {rest : List Value} (hret : meth.sig.returnType = some .int) (hd : decode c.code pc = .ok (.ireturn, 1)) {fs : List Frame}
    (hl : ∀ (f : JFrame) (acts : List Action), f.method = m → f.locked = none → f.entered = [] → (doReturn e (T.setTop f) acts (some (.int z))).1 = T.setFrames fs) : Steps p.tables e below (T.setTop (mkF m pc Ls (.int z :: rest))) (T.setFrames fs) := by
  have hm' : T.vm.method? m = some meth := X.method'
  have hn : narrow .int (.int z) = .int z := rfl
  show Steps p.tables e below (T.setTop { method := m, pc := pc, locals := Ls, stack := _ :: rest, locked := none }) _
  jvm_step X.here [X.here.top, hx, hd, hm', hret, hn]
  first | (intro acts; rw [hl _ acts rfl rfl rfl]) | rw [hl _ _ rfl rfl rfl]
  exact Steps.refl _
end New
end Jvm.RoadKit
namespace Jvm.Pilot.@@N@@
open Jvm Jvm.ClassFile Sem Op Lib Jvm.Free Jvm.Stand Jvm.LawKit Jvm.RoadKit Bundle Jvm.Pilot.@@N@@.Jvm.D
/-- what a walk comes to, said forward -/
def Go (p : Program) (e : Env) (below : List Frame) (R : State → Outcome → Prop) (A : State) : Prop := ∃ t o, Steps p.tables e below A t ∧ R t o
def Fin1 (s : State) (below : List Frame) (Q : Option Value → Heap → List Loc → Prop) (K N : Nat) (t : State) (o : Outcome) : Prop := t.status = .running ∧ Ended t below o ∧ ∃ v L, o = .returned v ∧ Q v t.heap L ∧ FrameEnd s o t L K N
theorem Go.step {p : Program} {e : Env} {below : List Frame} {R : State → Outcome → Prop} {A B : State} (k : ∀ t, Steps p.tables e below A t → Steps p.tables e below B t) (h : Go p e below R A) : Go p e below R B := by
  obtain ⟨t, o, h1, h2⟩ := h
  exact ⟨t, o, k t h1, h2⟩
section GoRet
variable {p : Program} {l : Launch} {e : Env} {R : Room} {s : State} {m : MethodId} {args : Array Value} {below : List Frame} {meth : Method} {c : Code} {T : State} {locs : List Loc} {cells slots : Nat} {Q : Option Value → Heap → List Loc → Prop} {K N pc : Nat} {Ls : Array Slot} {rest : List Value}
theorem Go.retZ (X : Stand p l e R s m args below meth c T locs cells slots) (hx : p.tables.exec = Jvm.exec) {z : Int32} {t : FieldType} (hret : meth.sig.returnType = some t) (ht : t = .boolean ∨ t = .byte ∨ t = .char ∨ t = .short) (hlk : meth.locks = false) (hd : decode c.code pc = .ok (.ireturn, 1)) (hq : Q (some (.int (nar t z))) T.heap locs) (hc : cells ≤ K) (hn : slots ≤ N) : Go p e below (Fin1 s below Q K N) (T.setTop (mkF m pc Ls (.int z :: rest))) := by
  obtain ⟨fs, hr, hrun, hended, hW, hsame⟩ := X.leave (v := some (.int (nar t z))) (fun h => by rw [hret] at h; cases h) hlk
  exact ⟨_, _, retN X hx hret ht hd hr, hrun, hended, _, _, rfl, hq, ⟨_, rfl⟩, hW, hsame.mono hc hn⟩
theorem Go.retI (X : Stand p l e R s m args below meth c T locs cells slots) (hx : p.tables.exec = Jvm.exec) {z : Int32} (hret : meth.sig.returnType = some .int) (hlk : meth.locks = false) (hd : decode c.code pc = .ok (.ireturn, 1)) (hq : Q (some (.int z)) T.heap locs) (hc : cells ≤ K) (hn : slots ≤ N) : Go p e below (Fin1 s below Q K N) (T.setTop (mkF m pc Ls (.int z :: rest))) := by
  obtain ⟨fs, hr, hrun, hended, hW, hsame⟩ := X.leave (v := some (.int z)) (fun h => by rw [hret] at h; cases h) hlk
  exact ⟨_, _, Jvm.RoadKit.retI X hx hret hd hr, hrun, hended, _, _, rfl, hq, ⟨_, rfl⟩, hW, hsame.mono hc hn⟩
theorem Go.retJ (X : Stand p l e R s m args below meth c T locs cells slots) (hx : p.tables.exec = Jvm.exec) {z : Int64} (hret : meth.sig.returnType = some .long) (hlk : meth.locks = false) (hd : decode c.code pc = .ok (.lreturn, 1)) (hq : Q (some (.long z)) T.heap locs) (hc : cells ≤ K) (hn : slots ≤ N) : Go p e below (Fin1 s below Q K N) (T.setTop (mkF m pc Ls (.long z :: rest))) := by
  obtain ⟨fs, hr, hrun, hended, hW, hsame⟩ := X.leave (v := some (.long z)) (fun h => by rw [hret] at h; cases h) hlk
  exact ⟨_, _, retOut X hx hret rfl (Or.inr (Or.inl ⟨rfl, rfl, _, rfl⟩)) hd hr, hrun, hended, _, _, rfl, hq, ⟨_, rfl⟩, hW, hsame.mono hc hn⟩
theorem Go.retR (X : Stand p l e R s m args below meth c T locs cells slots) (hx : p.tables.exec = Jvm.exec) {w : Value} {t : FieldType} (hret : meth.sig.returnType = some t) (ht : t.isReference = true) (hw : w.isRef = true) (hlk : meth.locks = false) (hd : decode c.code pc = .ok (.areturn, 1)) (hq : Q (some w) T.heap locs) (hc : cells ≤ K) (hn : slots ≤ N) : Go p e below (Fin1 s below Q K N) (T.setTop (mkF m pc Ls (w :: rest))) := by
  obtain ⟨fs, hr, hrun, hended, hW, hsame⟩ := X.leave (v := some w) (fun h => by rw [hret] at h; cases h) hlk
  have hnw : narrow t w = w := by rcases ref_cases hw with rfl | ⟨a, rfl⟩ <;> cases t <;> first | rfl | (cases ht)
  exact ⟨_, _, retOut X hx hret hnw (Or.inr (Or.inr (Or.inr (Or.inr ⟨rfl, ht, hw⟩)))) hd hr, hrun, hended, _, _, rfl, hq, ⟨_, rfl⟩, hW, hsame.mono hc hn⟩
theorem Go.retV (X : Stand p l e R s m args below meth c T locs cells slots) (hx : p.tables.exec = Jvm.exec) (hret : meth.sig.returnType = none) (hlk : meth.locks = false) (hd : decode c.code pc = .ok (.return_, 1)) (hq : Q none T.heap locs) (hc : cells ≤ K) (hn : slots ≤ N) : Go p e below (Fin1 s below Q K N) (T.setTop (mkF m pc Ls [])) := by
  obtain ⟨fs, hr, hrun, hended, hW, hsame⟩ := X.leave (v := none) (fun _ => rfl) hlk
  exact ⟨_, _, X.returnOut hx hret hd hr, hrun, hended, _, _, rfl, hq, ⟨_, rfl⟩, hW, hsame.mono hc hn⟩
end GoRet
def Fin2 (s : State) (below : List Frame) (Q : Option Value → Heap → List Loc → Prop) (K N : Nat) (t : State) (o : Outcome) : Prop := t.status = .running ∧ Ended t below o ∧ ∃ v L, o = .returned v ∧ Q v t.heap L ∧ ReturnedEndW s o t L K N
theorem wmono {s t : State} {o : Outcome} {L : List Loc} {k n k' n' : Nat} (h : ReturnedEndW s o t L k n) (h1 : k ≤ k') (h2 : n ≤ n') : ReturnedEndW s o t L k' n' := ⟨h.1, h.2.1, h.2.2.1, h.2.2.2.mono h1 h2⟩
section GoRetW
variable {p : Program} {l : Launch} {e : Env} {R : Room} {s : State} {vm0 : Vm} {m : MethodId} {args : Array Value} {below : List Frame} {meth : Method} {c : Code} {T : State} {locs : List Loc} {cells slots : Nat} {Q : Option Value → Heap → List Loc → Prop} {K N pc k0 : Nat} {Ls : Array Slot} {rest : List Value}
theorem GoW.retZ (X : Stand p l e R (s.setVm vm0) m args below meth c T locs cells slots) (hS : s.Since vm0 k0) (hk : k0 ≤ T.heap.size) (hx : p.tables.exec = Jvm.exec) {z : Int32} {t : FieldType} (hret : meth.sig.returnType = some t) (ht : t = .boolean ∨ t = .byte ∨ t = .char ∨ t = .short) (hlk : meth.locks = false) (hd : decode c.code pc = .ok (.ireturn, 1)) (hq : Q (some (.int (nar t z))) T.heap locs) (hc : cells ≤ K) (hn : slots ≤ N) : Go p e below (Fin2 s below Q K N) (T.setTop (mkF m pc Ls (.int z :: rest))) := by
  obtain ⟨fs, hr, hrun, hended, hW⟩ := X.leaveW hS hk (v := some (.int (nar t z))) (fun h => by rw [hret] at h; cases h) hlk
  exact ⟨_, _, retN X hx hret ht hd hr, hrun, hended, _, _, rfl, hq, wmono hW hc hn⟩
theorem GoW.retI (X : Stand p l e R (s.setVm vm0) m args below meth c T locs cells slots) (hS : s.Since vm0 k0) (hk : k0 ≤ T.heap.size) (hx : p.tables.exec = Jvm.exec) {z : Int32} (hret : meth.sig.returnType = some .int) (hlk : meth.locks = false) (hd : decode c.code pc = .ok (.ireturn, 1)) (hq : Q (some (.int z)) T.heap locs) (hc : cells ≤ K) (hn : slots ≤ N) : Go p e below (Fin2 s below Q K N) (T.setTop (mkF m pc Ls (.int z :: rest))) := by
  obtain ⟨fs, hr, hrun, hended, hW⟩ := X.leaveW hS hk (v := some (.int z)) (fun h => by rw [hret] at h; cases h) hlk
  exact ⟨_, _, Jvm.RoadKit.retI X hx hret hd hr, hrun, hended, _, _, rfl, hq, wmono hW hc hn⟩
theorem GoW.retR (X : Stand p l e R (s.setVm vm0) m args below meth c T locs cells slots) (hS : s.Since vm0 k0) (hk : k0 ≤ T.heap.size) (hx : p.tables.exec = Jvm.exec) {w : Value} {t : FieldType} (hret : meth.sig.returnType = some t) (ht : t.isReference = true) (hw : w.isRef = true) (hlk : meth.locks = false) (hd : decode c.code pc = .ok (.areturn, 1)) (hq : Q (some w) T.heap locs) (hc : cells ≤ K) (hn : slots ≤ N) : Go p e below (Fin2 s below Q K N) (T.setTop (mkF m pc Ls (w :: rest))) := by
  obtain ⟨fs, hr, hrun, hended, hW⟩ := X.leaveW hS hk (v := some w) (fun h => by rw [hret] at h; cases h) hlk
  have hnw : narrow t w = w := by rcases ref_cases hw with rfl | ⟨a, rfl⟩ <;> cases t <;> first | rfl | (cases ht)
  exact ⟨_, _, retOut X hx hret hnw (Or.inr (Or.inr (Or.inr (Or.inr ⟨rfl, ht, hw⟩)))) hd hr, hrun, hended, _, _, rfl, hq, wmono hW hc hn⟩
theorem GoW.retV (X : Stand p l e R (s.setVm vm0) m args below meth c T locs cells slots) (hS : s.Since vm0 k0) (hk : k0 ≤ T.heap.size) (hx : p.tables.exec = Jvm.exec) (hret : meth.sig.returnType = none) (hlk : meth.locks = false) (hd : decode c.code pc = .ok (.return_, 1)) (hq : Q none T.heap locs) (hc : cells ≤ K) (hn : slots ≤ N) : Go p e below (Fin2 s below Q K N) (T.setTop (mkF m pc Ls [])) := by
  obtain ⟨fs, hr, hrun, hended, hW⟩ := X.leaveW hS hk (v := none) (fun _ => rfl) hlk
  exact ⟨_, _, X.returnOut hx hret hd hr, hrun, hended, _, _, rfl, hq, wmono hW hc hn⟩
end GoRetW
theorem old_z0 {Z : State} {n0 : Nat} {h : Heap} (O : Old Z n0 h) : n0 ≤ h.size := O.1 ▸ O.2.1
theorem eq_long {args : Array Value} {s : State} {t : Term} {z : Int64} (h : (Jvm.Cond.eq t (.long z)).value args s none s [] = some true) : t.eval args s none [] s = some (.long z) := by
  simp only [Cond.value, Term.eval] at h
  cases e : t.eval args s none [] s with
  | none => simp [e] at h
  | some v => cases v <;> simp_all
theorem eq_int {args : Array Value} {s : State} {t : Term} {z : Int32} (h : (Jvm.Cond.eq t (.int z)).value args s none s [] = some true) : t.eval args s none [] s = some (.int z) := by
  simp only [Cond.value, Term.eval] at h
  cases e : t.eval args s none [] s with
  | none => simp [e] at h
  | some v => cases v <;> simp_all
def Wd (Z : State) (a_QUEUE : Addr) (a_RESERVE : Addr) : Prop := (Sta Z Z.heap "com/example/bracketline/bracketline/OrderChain" "QUEUE" "Lcom/example/bracketline/bracketline/OrderChain;" (.ref a_QUEUE)) ∧ (Exa Z Z.heap a_QUEUE "com/example/bracketline/bracketline/OrderChain") ∧ (Sta Z Z.heap "com/example/bracketline/bracketline/OrderChain" "RESERVE" "Lcom/example/bracketline/bracketline/OrderChain;" (.ref a_RESERVE)) ∧ (Exa Z Z.heap a_RESERVE "com/example/bracketline/bracketline/OrderChain")
theorem i32_is {k : Int32} (z : Int32) (h : k.toInt = z.toInt) : k = z := Int32.toInt_inj.mp h
theorem rem_bd (x m : Int32) (hm : 0 < m.toInt) : 0 ≤ ((x &&& (2147483647 : Int32)) % m).toInt ∧ ((x &&& (2147483647 : Int32)) % m).toInt < m.toInt := by
  have e1 : (x &&& (2147483647 : Int32)).toInt = x.toInt % 2 ^ 31 := Jvm.Kit.i32_mask x 2147483647 (k := 31) (by decide) (by decide)
  have h0 : 0 ≤ (x &&& (2147483647 : Int32)).toInt := by rw [e1]; exact Int.emod_nonneg _ (by decide)
  rw [Jvm.Kit.i32_rem_nonneg h0]
  exact ⟨Int.emod_nonneg _ (by omega), Int.emod_lt_of_pos _ hm⟩

theorem lw_of_lt {x y : Int64} (h : x < y) : lcmpW x y = -1 := by
  have h1 : ¬ x > y := by show ¬ y < x; rw [Int64.lt_iff_toInt_lt] at h ⊢; omega
  have h2 : ¬ x = y := by intro q; subst q; rw [Int64.lt_iff_toInt_lt] at h; omega
  show (if x > y then (1 : Int32) else if x = y then 0 else -1) = -1
  rw [if_neg h1, if_neg h2]
theorem lw_of_gt {x y : Int64} (h : y < x) : lcmpW x y = 1 := by
  show (if x > y then (1 : Int32) else if x = y then 0 else -1) = 1
  rw [if_pos h]
theorem lw_of_eq {x y : Int64} (h : x = y) : lcmpW x y = 0 := by
  subst h
  have h1 : ¬ x > x := by show ¬ x < x; rw [Int64.lt_iff_toInt_lt]; omega
  show (if x > x then (1 : Int32) else if x = x then 0 else -1) = 0
  rw [if_neg h1, if_pos rfl]
theorem tri (x y : Int64) : x < y ∨ x = y ∨ y < x := by
  rcases Int.lt_trichotomy x.toInt y.toInt with h | h | h
  · exact Or.inl (Int64.lt_iff_toInt_lt.mpr h)
  · exact Or.inr (Or.inl (Int64.toInt_inj.mp h))
  · exact Or.inr (Or.inr (Int64.lt_iff_toInt_lt.mpr h))
theorem d1_0 : decode prog_25_method_1_code 0 = .ok (.aload_n 0, 1) := by decide +kernel
theorem d1_1 : decode prog_25_method_1_code 1 = .ok (.invokespecial 1, 3) := by decide +kernel
theorem d1_4 : decode prog_25_method_1_code 4 = .ok (.aload_n 0, 1) := by decide +kernel
theorem d1_5 : decode prog_25_method_1_code 5 = .ok (.aload_n 1, 1) := by decide +kernel
theorem d1_6 : decode prog_25_method_1_code 6 = .ok (.putfield 7, 3) := by decide +kernel
theorem d1_9 : decode prog_25_method_1_code 9 = .ok (.aload_n 0, 1) := by decide +kernel
theorem d1_10 : decode prog_25_method_1_code 10 = .ok (.aload_n 2, 1) := by decide +kernel
theorem d1_11 : decode prog_25_method_1_code 11 = .ok (.putfield 13, 3) := by decide +kernel
theorem d1_14 : decode prog_25_method_1_code 14 = .ok (.return_, 1) := by decide +kernel
theorem pn_0 : plainName "com/example/bracketline/bracketline/RestingOrders" = true := by first | (simp [plainName, overriddenIn]; done) | decide +kernel
theorem ef_am1_1 (m : MethodId) (x0 : Addr) (x1 : Addr) (x2 : Addr)  : entryFrame m #[(.ref x0), (.ref x1), (.ref x2)] 3 = mkF m 0 #[.val (.ref x0), .val (.ref x1), .val (.ref x2)] [] := by first | (simp [entryFrame, mkF, argsToLocals, Value.category]; done) | rfl
def Q_am1_1 (Z : State) (a_QUEUE : Addr) (a_RESERVE : Addr) (ad1 : Addr) (h0 : Heap) (n0 : Nat) (v : Option Value) (h : Heap) (L : List Loc) : Prop := v = none ∧ Fr n0 L ∧ Keep h0 h [ad1] ∧ (Exa Z h ad1 "com/example/bracketline/bracketline/RestingOrders") ∧ (Fld Z h ad1 "com/example/bracketline/bracketline/RestingOrders" "queue" "Lcom/example/bracketline/bracketline/OrderChain;" (.ref a_QUEUE)) ∧ (Fld Z h ad1 "com/example/bracketline/bracketline/RestingOrders" "queueFirst" "Lcom/example/bracketline/bracketline/Order;" .null) ∧ (Fld Z h ad1 "com/example/bracketline/bracketline/RestingOrders" "queued" "I" (.int (0 : Int32))) ∧ (Fld Z h ad1 "com/example/bracketline/bracketline/RestingOrders" "reserve" "Lcom/example/bracketline/bracketline/OrderChain;" (.ref a_RESERVE)) ∧ (Fld Z h ad1 "com/example/bracketline/bracketline/RestingOrders" "reserveFirst" "Lcom/example/bracketline/bracketline/Order;" .null) ∧ (Fld Z h ad1 "com/example/bracketline/bracketline/RestingOrders" "shares" "J" (.long (0 : Int64))) ∧ (Fld Z h ad1 "com/example/bracketline/bracketline/RestingOrders" "shown" "J" (.long (0 : Int64)))
set_option maxRecDepth 65536 in
set_option maxHeartbeats 40000000 in
theorem am1_1 (l : Launch) (Z : State) (a0 : Array Value) (hw : ∀ d ∈ tables_1, d.before a0 Z = true) (ws : List Jvm.Cond) (a_QUEUE : Addr) (a_RESERVE : Addr) (HW : Wd Z a_QUEUE a_RESERVE) (ad1 : Addr) (h0 : Heap) (n0 : Nat) (Ol : Old Z n0 h0) (HE_ad1 : Exa Z h0 ad1 "com/example/bracketline/bracketline/RestingOrders") (HF_ad1_RestingOrders_queue : Fld Z h0 ad1 "com/example/bracketline/bracketline/RestingOrders" "queue" "Lcom/example/bracketline/bracketline/OrderChain;" .null) (HF_ad1_RestingOrders_reserve : Fld Z h0 ad1 "com/example/bracketline/bracketline/RestingOrders" "reserve" "Lcom/example/bracketline/bracketline/OrderChain;" .null) (HF_ad1_RestingOrders_shares : Fld Z h0 ad1 "com/example/bracketline/bracketline/RestingOrders" "shares" "J" (.long (0 : Int64))) (HF_ad1_RestingOrders_shown : Fld Z h0 ad1 "com/example/bracketline/bracketline/RestingOrders" "shown" "J" (.long (0 : Int64))) (HF_ad1_RestingOrders_queueFirst : Fld Z h0 ad1 "com/example/bracketline/bracketline/RestingOrders" "queueFirst" "Lcom/example/bracketline/bracketline/Order;" .null) (HF_ad1_RestingOrders_reserveFirst : Fld Z h0 ad1 "com/example/bracketline/bracketline/RestingOrders" "reserveFirst" "Lcom/example/bracketline/bracketline/Order;" .null) (HF_ad1_RestingOrders_queued : Fld Z h0 ad1 "com/example/bracketline/bracketline/RestingOrders" "queued" "I" (.int (0 : Int32))) (nn_ad1 : n0 ≤ ad1) :
    MetFree l (⟨"com/example/bracketline/bracketline/RestingOrders", "<init>", "(Lcom/example/bracketline/bracketline/OrderChain;Lcom/example/bracketline/bracketline/OrderChain;)V"⟩ : MethodName) (head1 (Jvm.Cond.code (⟨"com/example/bracketline/bracketline/RestingOrders", "<init>", "(Lcom/example/bracketline/bracketline/OrderChain;Lcom/example/bracketline/bracketline/OrderChain;)V"⟩ : MethodName) prog_25_method_1_code 3 none :: ws) ({ frames := 1, cells := 0, slots := 0, locals := 12 } : Room)) (fun a_ U_ => a_ = #[(.ref ad1), (.ref a_QUEUE), (.ref a_RESERVE)] ∧ Z.Warmed39 U_.vm ∧ U_.heap = h0) (fun _ _ _ _ _ => True) (fun _ U_ o_ V_ => ∃ v_ L_, o_ = .returned v_ ∧ Q_am1_1 Z a_QUEUE a_RESERVE ad1 h0 n0 v_ V_.heap L_ ∧ FrameEnd U_ o_ V_ L_ ({ frames := 1, cells := 0, slots := 0, locals := 12 } : Room).cells ({ frames := 1, cells := 0, slots := 0, locals := 12 } : Room).slots) := by
  refine MetFree.of_bodySF (plainFor_of_name pn_0) hisR ?_
  intro p e s m args below meth c s₁ Bd hml0 hP hK
  obtain ⟨rfl, hZ, hh⟩ := hP
  have hx := Bd.exec
  have hby := Bd.bytes
  have hml : c.maxLocals = 3 := hml0
  have hown : s.vm.findClass "com/example/bracketline/bracketline/RestingOrders" = some m.cls := findClass_of_methodNamed Bd.named
  have hnm := (name_of_methodNamed Bd.named Bd.method).1
  have X0 : Stand p l e ({ frames := 1, cells := 0, slots := 0, locals := 12 } : Room) s m #[(.ref ad1), (.ref a_QUEUE), (.ref a_RESERVE)] below meth c s₁ [] 0 0 := Stand.of_body Bd
  have e0 : s₁.heap = h0 := by rw [← hh, Bd.state]; rfl
  have N0 := Fr.nil n0
  have kp0 := Keep.refl h0 [ad1]
  show Go p e below (Fin1 s below (Q_am1_1 Z a_QUEUE a_RESERVE ad1 h0 n0) ({ frames := 1, cells := 0, slots := 0, locals := 12 } : Room).cells ({ frames := 1, cells := 0, slots := 0, locals := 12 } : Room).slots) _
  refine Go.step (fun t_ k_ => castTop (ef_am1_1 m ad1 a_QUEUE a_RESERVE) k_) ?_
  obtain ⟨S_QUEUE, E_QUEUE, S_RESERVE, E_RESERVE⟩ := id HW
  show Go p e below _ (s₁.setTop (mkF m 0 #[.val (.ref ad1), .val (.ref a_QUEUE), .val (.ref a_RESERVE)] []))
  refine Go.step (fun t_ k_ => XS.aloadN X0.here hx rfl (hb hby d1_0) rfl rfl k_) ?_
  show Go p e below _ (s₁.setTop (mkF m 1 #[.val (.ref ad1), .val (.ref a_QUEUE), .val (.ref a_RESERVE)] [(.ref ad1)]))
  obtain ⟨T1, X1, e1, st1⟩ := initO X0 hx hZ hown (hw _ (List.mem_of_getElem? (i := 11) rfl)) (hw _ (List.mem_of_getElem? (i := 12) rfl)) (hw _ (List.mem_of_getElem? (i := 13) rfl)) e0 (g := (mkF m 1 #[.val (.ref ad1), .val (.ref a_QUEUE), .val (.ref a_RESERVE)] [(.ref ad1)])) rfl (by rw [hml]; rfl) rfl (hb hby d1_1) (by decide) (W := 0) (by show 2 * 0 + _ ≤ _; exact Nat.le_of_eq rfl) (by decide)
  refine Go.step st1 ?_
  show Go p e below _ (T1.setTop (mkF m 4 #[.val (.ref ad1), .val (.ref a_QUEUE), .val (.ref a_RESERVE)] []))
  refine Go.step (fun t_ k_ => XS.aloadN X1.here hx rfl (hb hby d1_4) rfl rfl k_) ?_
  show Go p e below _ (T1.setTop (mkF m 5 #[.val (.ref ad1), .val (.ref a_QUEUE), .val (.ref a_RESERVE)] [(.ref ad1)]))
  refine Go.step (fun t_ k_ => XS.aloadN X1.here hx rfl (hb hby d1_5) rfl rfl k_) ?_
  show Go p e below _ (T1.setTop (mkF m 6 #[.val (.ref ad1), .val (.ref a_QUEUE), .val (.ref a_RESERVE)] [(.ref a_QUEUE), (.ref ad1)]))
  obtain ⟨T2, h2, X2, e2, W2, st2⟩ := putF X1 hx hZ hown (host := "") (Or.inl (hw _ (List.mem_of_getElem? (i := 14) rfl))) Via.refl e1 HF_ad1_RestingOrders_queue HE_ad1 (Or.inr ⟨(hw _ (List.mem_of_getElem? (i := 15) rfl)), rfl, hnm⟩) (hw _ (List.mem_of_getElem? (i := 1) rfl)) (ty := (.object "com/example/bracketline/bracketline/OrderChain")) (by decide) rfl rfl (g := (mkF m 6 #[.val (.ref ad1), .val (.ref a_QUEUE), .val (.ref a_RESERVE)] [(.ref a_QUEUE), (.ref ad1)])) rfl rfl (hb hby d1_6)
  have N2 := Fr.snoc X2 N0 nn_ad1
  have old2 := Ol.wr W2 nn_ad1
  have kp2 := kp0.wr W2 (Or.inl (List.mem_of_getElem? (i := 0) rfl))
  have F2 := HF_ad1_RestingOrders_queue.same W2
  refine Go.step st2 ?_
  show Go p e below _ (T2.setTop (mkF m 9 #[.val (.ref ad1), .val (.ref a_QUEUE), .val (.ref a_RESERVE)] []))
  refine Go.step (fun t_ k_ => XS.aloadN X2.here hx rfl (hb hby d1_9) rfl rfl k_) ?_
  show Go p e below _ (T2.setTop (mkF m 10 #[.val (.ref ad1), .val (.ref a_QUEUE), .val (.ref a_RESERVE)] [(.ref ad1)]))
  refine Go.step (fun t_ k_ => XS.aloadN X2.here hx rfl (hb hby d1_10) rfl rfl k_) ?_
  show Go p e below _ (T2.setTop (mkF m 11 #[.val (.ref ad1), .val (.ref a_QUEUE), .val (.ref a_RESERVE)] [(.ref a_RESERVE), (.ref ad1)]))
  have f3 := (HF_ad1_RestingOrders_reserve.other W2 (Or.inr (slot_ne (Or.inr (hw _ (List.mem_of_getElem? (i := 17) rfl))) (Or.inr (hw _ (List.mem_of_getElem? (i := 15) rfl))) (by decide) (t := (.object "com/example/bracketline/bracketline/OrderChain")) (t' := (.object "com/example/bracketline/bracketline/OrderChain")) (by decide) (by decide))))
  have f4 := (HE_ad1.wr W2)
  obtain ⟨T5, h5, X5, e5, W5, st5⟩ := putF X2 hx hZ hown (host := "") (Or.inl (hw _ (List.mem_of_getElem? (i := 16) rfl))) Via.refl e2 f3 f4 (Or.inr ⟨(hw _ (List.mem_of_getElem? (i := 17) rfl)), rfl, hnm⟩) (hw _ (List.mem_of_getElem? (i := 1) rfl)) (ty := (.object "com/example/bracketline/bracketline/OrderChain")) (by decide) rfl rfl (g := (mkF m 11 #[.val (.ref ad1), .val (.ref a_QUEUE), .val (.ref a_RESERVE)] [(.ref a_RESERVE), (.ref ad1)])) rfl rfl (hb hby d1_11)
  have N5 := Fr.snoc X5 N2 nn_ad1
  have old5 := old2.wr W5 nn_ad1
  have kp5 := kp2.wr W5 (Or.inl (List.mem_of_getElem? (i := 0) rfl))
  have F5 := f3.same W5
  refine Go.step st5 ?_
  show Go p e below _ (T5.setTop (mkF m 14 #[.val (.ref ad1), .val (.ref a_QUEUE), .val (.ref a_RESERVE)] []))
  have f6 := (f4.wr W5)
  have f7 := (F2.other W5 (Or.inr (slot_ne (Or.inr (hw _ (List.mem_of_getElem? (i := 15) rfl))) (Or.inr (hw _ (List.mem_of_getElem? (i := 17) rfl))) (by decide) (t := (.object "com/example/bracketline/bracketline/OrderChain")) (t' := (.object "com/example/bracketline/bracketline/OrderChain")) (by decide) (by decide))))
  have f8 := ((HF_ad1_RestingOrders_queueFirst.other W2 (Or.inr (slot_ne (Or.inl (hw _ (List.mem_of_getElem? (i := 43) rfl))) (Or.inr (hw _ (List.mem_of_getElem? (i := 15) rfl))) (by decide) (t := (.object "com/example/bracketline/bracketline/Order")) (t' := (.object "com/example/bracketline/bracketline/OrderChain")) (by decide) (by decide)))).other W5 (Or.inr (slot_ne (Or.inl (hw _ (List.mem_of_getElem? (i := 43) rfl))) (Or.inr (hw _ (List.mem_of_getElem? (i := 17) rfl))) (by decide) (t := (.object "com/example/bracketline/bracketline/Order")) (t' := (.object "com/example/bracketline/bracketline/OrderChain")) (by decide) (by decide))))
  have f9 := ((HF_ad1_RestingOrders_queued.other W2 (Or.inr (slot_ne (Or.inl (hw _ (List.mem_of_getElem? (i := 52) rfl))) (Or.inr (hw _ (List.mem_of_getElem? (i := 15) rfl))) (by decide) (t := .int) (t' := (.object "com/example/bracketline/bracketline/OrderChain")) (by decide) (by decide)))).other W5 (Or.inr (slot_ne (Or.inl (hw _ (List.mem_of_getElem? (i := 52) rfl))) (Or.inr (hw _ (List.mem_of_getElem? (i := 17) rfl))) (by decide) (t := .int) (t' := (.object "com/example/bracketline/bracketline/OrderChain")) (by decide) (by decide))))
  have f10 := ((HF_ad1_RestingOrders_reserveFirst.other W2 (Or.inr (slot_ne (Or.inl (hw _ (List.mem_of_getElem? (i := 45) rfl))) (Or.inr (hw _ (List.mem_of_getElem? (i := 15) rfl))) (by decide) (t := (.object "com/example/bracketline/bracketline/Order")) (t' := (.object "com/example/bracketline/bracketline/OrderChain")) (by decide) (by decide)))).other W5 (Or.inr (slot_ne (Or.inl (hw _ (List.mem_of_getElem? (i := 45) rfl))) (Or.inr (hw _ (List.mem_of_getElem? (i := 17) rfl))) (by decide) (t := (.object "com/example/bracketline/bracketline/Order")) (t' := (.object "com/example/bracketline/bracketline/OrderChain")) (by decide) (by decide))))
  have f11 := ((HF_ad1_RestingOrders_shares.other W2 (Or.inr (slot_ne (Or.inl (hw _ (List.mem_of_getElem? (i := 24) rfl))) (Or.inr (hw _ (List.mem_of_getElem? (i := 15) rfl))) (by decide) (t := .long) (t' := (.object "com/example/bracketline/bracketline/OrderChain")) (by decide) (by decide)))).other W5 (Or.inr (slot_ne (Or.inl (hw _ (List.mem_of_getElem? (i := 24) rfl))) (Or.inr (hw _ (List.mem_of_getElem? (i := 17) rfl))) (by decide) (t := .long) (t' := (.object "com/example/bracketline/bracketline/OrderChain")) (by decide) (by decide))))
  have f12 := ((HF_ad1_RestingOrders_shown.other W2 (Or.inr (slot_ne (Or.inl (hw _ (List.mem_of_getElem? (i := 26) rfl))) (Or.inr (hw _ (List.mem_of_getElem? (i := 15) rfl))) (by decide) (t := .long) (t' := (.object "com/example/bracketline/bracketline/OrderChain")) (by decide) (by decide)))).other W5 (Or.inr (slot_ne (Or.inl (hw _ (List.mem_of_getElem? (i := 26) rfl))) (Or.inr (hw _ (List.mem_of_getElem? (i := 17) rfl))) (by decide) (t := .long) (t' := (.object "com/example/bracketline/bracketline/OrderChain")) (by decide) (by decide))))
  refine Go.retV X5 hx Bd.returns Bd.notSynchronized (hb hby d1_14) (by rw [e5]; exact ⟨rfl, N5, kp5, f6, f7, f8, f9, F5, f10, f11, f12⟩) (by decide) (by decide)
theorem pd_0 : parseMethodDescriptor "(Lcom/example/bracketline/bracketline/OrderChain;Lcom/example/bracketline/bracketline/OrderChain;)V" = some ⟨[(.object "com/example/bracketline/bracketline/OrderChain"), (.object "com/example/bracketline/bracketline/OrderChain")], none⟩ := by decide +kernel
theorem d3_0 : decode prog_25_method_13_code 0 = .ok (.aload_n 0, 1) := by decide +kernel
theorem d3_1 : decode prog_25_method_13_code 1 = .ok (.dup, 1) := by decide +kernel
theorem d3_2 : decode prog_25_method_13_code 2 = .ok (.getfield 16, 3) := by decide +kernel
theorem d3_5 : decode prog_25_method_13_code 5 = .ok (.lload_n 1, 1) := by decide +kernel
theorem d3_6 : decode prog_25_method_13_code 6 = .ok (.lsub, 1) := by decide +kernel
theorem d3_7 : decode prog_25_method_13_code 7 = .ok (.putfield 16, 3) := by decide +kernel
theorem d3_10 : decode prog_25_method_13_code 10 = .ok (.aload_n 0, 1) := by decide +kernel
theorem d3_11 : decode prog_25_method_13_code 11 = .ok (.dup, 1) := by decide +kernel
theorem d3_12 : decode prog_25_method_13_code 12 = .ok (.getfield 20, 3) := by decide +kernel
theorem d3_15 : decode prog_25_method_13_code 15 = .ok (.lload_n 3, 1) := by decide +kernel
theorem d3_16 : decode prog_25_method_13_code 16 = .ok (.lsub, 1) := by decide +kernel
theorem d3_17 : decode prog_25_method_13_code 17 = .ok (.putfield 20, 3) := by decide +kernel
theorem d3_20 : decode prog_25_method_13_code 20 = .ok (.return_, 1) := by decide +kernel
theorem ef_am3_1 (m : MethodId) (x0 : Addr) (x1 : Int64) (x2 : Int64)  : entryFrame m #[(.ref x0), (.long x1), (.long x2)] 5 = mkF m 0 #[.val (.ref x0), .val (.long x1), .second, .val (.long x2), .second] [] := by first | (simp [entryFrame, mkF, argsToLocals, Value.category]; done) | rfl
def Q_am3_1 (Z : State) (a_QUEUE : Addr) (a_RESERVE : Addr) (ad1 : Addr) (lv1 : Int64) (lv2 : Int64) (h0 : Heap) (n0 : Nat) (v : Option Value) (h : Heap) (L : List Loc) : Prop := v = none ∧ Fr n0 L ∧ Keep h0 h [ad1] ∧ (Exa Z h ad1 "com/example/bracketline/bracketline/RestingOrders") ∧ (Fld Z h ad1 "com/example/bracketline/bracketline/RestingOrders" "queue" "Lcom/example/bracketline/bracketline/OrderChain;" (.ref a_QUEUE)) ∧ (Fld Z h ad1 "com/example/bracketline/bracketline/RestingOrders" "queueFirst" "Lcom/example/bracketline/bracketline/Order;" .null) ∧ (Fld Z h ad1 "com/example/bracketline/bracketline/RestingOrders" "queued" "I" (.int (0 : Int32))) ∧ (Fld Z h ad1 "com/example/bracketline/bracketline/RestingOrders" "reserve" "Lcom/example/bracketline/bracketline/OrderChain;" (.ref a_RESERVE)) ∧ (Fld Z h ad1 "com/example/bracketline/bracketline/RestingOrders" "reserveFirst" "Lcom/example/bracketline/bracketline/Order;" .null) ∧ (Fld Z h ad1 "com/example/bracketline/bracketline/RestingOrders" "shares" "J" (.long ((0 : Int64) - lv1))) ∧ (Fld Z h ad1 "com/example/bracketline/bracketline/RestingOrders" "shown" "J" (.long ((0 : Int64) - lv2)))
set_option maxRecDepth 65536 in
set_option maxHeartbeats 40000000 in
theorem am3_1 (l : Launch) (Z : State) (a0 : Array Value) (hw : ∀ d ∈ tables_1, d.before a0 Z = true) (ws : List Jvm.Cond) (a_QUEUE : Addr) (a_RESERVE : Addr) (HW : Wd Z a_QUEUE a_RESERVE) (ad1 : Addr) (lv1 : Int64) (lv2 : Int64) (h0 : Heap) (n0 : Nat) (Ol : Old Z n0 h0) (HE_ad1 : Exa Z h0 ad1 "com/example/bracketline/bracketline/RestingOrders") (HF_ad1_RestingOrders_queue : Fld Z h0 ad1 "com/example/bracketline/bracketline/RestingOrders" "queue" "Lcom/example/bracketline/bracketline/OrderChain;" (.ref a_QUEUE)) (HF_ad1_RestingOrders_reserve : Fld Z h0 ad1 "com/example/bracketline/bracketline/RestingOrders" "reserve" "Lcom/example/bracketline/bracketline/OrderChain;" (.ref a_RESERVE)) (HF_ad1_RestingOrders_shares : Fld Z h0 ad1 "com/example/bracketline/bracketline/RestingOrders" "shares" "J" (.long (0 : Int64))) (HF_ad1_RestingOrders_shown : Fld Z h0 ad1 "com/example/bracketline/bracketline/RestingOrders" "shown" "J" (.long (0 : Int64))) (HF_ad1_RestingOrders_queueFirst : Fld Z h0 ad1 "com/example/bracketline/bracketline/RestingOrders" "queueFirst" "Lcom/example/bracketline/bracketline/Order;" .null) (HF_ad1_RestingOrders_reserveFirst : Fld Z h0 ad1 "com/example/bracketline/bracketline/RestingOrders" "reserveFirst" "Lcom/example/bracketline/bracketline/Order;" .null) (HF_ad1_RestingOrders_queued : Fld Z h0 ad1 "com/example/bracketline/bracketline/RestingOrders" "queued" "I" (.int (0 : Int32))) (nn_ad1 : n0 ≤ ad1) :
    MetFree l (⟨"com/example/bracketline/bracketline/RestingOrders", "taken", "(JJ)V"⟩ : MethodName) (head1 (Jvm.Cond.code (⟨"com/example/bracketline/bracketline/RestingOrders", "taken", "(JJ)V"⟩ : MethodName) prog_25_method_13_code 5 none :: ws) ({ frames := 0, cells := 0, slots := 0, locals := 0 } : Room)) (fun a_ U_ => a_ = #[(.ref ad1), (.long lv1), (.long lv2)] ∧ Z.Warmed39 U_.vm ∧ U_.heap = h0) (fun _ _ _ _ _ => True) (fun _ U_ o_ V_ => ∃ v_ L_, o_ = .returned v_ ∧ Q_am3_1 Z a_QUEUE a_RESERVE ad1 lv1 lv2 h0 n0 v_ V_.heap L_ ∧ FrameEnd U_ o_ V_ L_ ({ frames := 0, cells := 0, slots := 0, locals := 0 } : Room).cells ({ frames := 0, cells := 0, slots := 0, locals := 0 } : Room).slots) := by
  refine MetFree.of_bodySF (plainFor_of_name pn_0) hisR ?_
  intro p e s m args below meth c s₁ Bd hml0 hP hK
  obtain ⟨rfl, hZ, hh⟩ := hP
  have hx := Bd.exec
  have hby := Bd.bytes
  have hml : c.maxLocals = 5 := hml0
  have hown : s.vm.findClass "com/example/bracketline/bracketline/RestingOrders" = some m.cls := findClass_of_methodNamed Bd.named
  have hnm := (name_of_methodNamed Bd.named Bd.method).1
  have X0 : Stand p l e ({ frames := 0, cells := 0, slots := 0, locals := 0 } : Room) s m #[(.ref ad1), (.long lv1), (.long lv2)] below meth c s₁ [] 0 0 := Stand.of_body Bd
  have e0 : s₁.heap = h0 := by rw [← hh, Bd.state]; rfl
  have N0 := Fr.nil n0
  have kp0 := Keep.refl h0 [ad1]
  show Go p e below (Fin1 s below (Q_am3_1 Z a_QUEUE a_RESERVE ad1 lv1 lv2 h0 n0) ({ frames := 0, cells := 0, slots := 0, locals := 0 } : Room).cells ({ frames := 0, cells := 0, slots := 0, locals := 0 } : Room).slots) _
  refine Go.step (fun t_ k_ => castTop (ef_am3_1 m ad1 lv1 lv2) k_) ?_
  obtain ⟨S_QUEUE, E_QUEUE, S_RESERVE, E_RESERVE⟩ := id HW
  show Go p e below _ (s₁.setTop (mkF m 0 #[.val (.ref ad1), .val (.long lv1), .second, .val (.long lv2), .second] []))
  refine Go.step (fun t_ k_ => XS.aloadN X0.here hx rfl (hb hby d3_0) rfl rfl k_) ?_
  show Go p e below _ (s₁.setTop (mkF m 1 #[.val (.ref ad1), .val (.long lv1), .second, .val (.long lv2), .second] [(.ref ad1)]))
  refine Go.step (fun t_ k_ => XS.dup X0.here hx rfl (hb hby d3_1) rfl rfl k_) ?_
  show Go p e below _ (s₁.setTop (mkF m 2 #[.val (.ref ad1), .val (.long lv1), .second, .val (.long lv2), .second] [(.ref ad1), (.ref ad1)]))
  obtain ⟨T1, X1, e1, st1⟩ := getF X0 hx hZ hown (host := "") (Or.inl (hw _ (List.mem_of_getElem? (i := 23) rfl))) Via.refl e0 HF_ad1_RestingOrders_shares (g := (mkF m 2 #[.val (.ref ad1), .val (.long lv1), .second, .val (.long lv2), .second] [(.ref ad1), (.ref ad1)])) rfl rfl (hb hby d3_2)
  refine Go.step st1 ?_
  show Go p e below _ (T1.setTop (mkF m 5 #[.val (.ref ad1), .val (.long lv1), .second, .val (.long lv2), .second] [(.long (0 : Int64)), (.ref ad1)]))
  refine Go.step (fun t_ k_ => XS.lloadN X1.here hx rfl (hb hby d3_5) rfl k_) ?_
  show Go p e below _ (T1.setTop (mkF m 6 #[.val (.ref ad1), .val (.long lv1), .second, .val (.long lv2), .second] [(.long lv1), (.long (0 : Int64)), (.ref ad1)]))
  refine Go.step (fun t_ k_ => XS.lsub X1.here hx rfl (hb hby d3_6) rfl k_) ?_
  show Go p e below _ (T1.setTop (mkF m 7 #[.val (.ref ad1), .val (.long lv1), .second, .val (.long lv2), .second] [(.long ((0 : Int64) - lv1)), (.ref ad1)]))
  obtain ⟨T2, h2, X2, e2, W2, st2⟩ := putF X1 hx hZ hown (host := "") (Or.inl (hw _ (List.mem_of_getElem? (i := 23) rfl))) Via.refl e1 HF_ad1_RestingOrders_shares HE_ad1 (Or.inl (hw _ (List.mem_of_getElem? (i := 24) rfl))) (hw _ (List.mem_of_getElem? (i := 1) rfl)) (ty := .long) (by decide) rfl rfl (g := (mkF m 7 #[.val (.ref ad1), .val (.long lv1), .second, .val (.long lv2), .second] [(.long ((0 : Int64) - lv1)), (.ref ad1)])) rfl rfl (hb hby d3_7)
  have N2 := Fr.snoc X2 N0 nn_ad1
  have old2 := Ol.wr W2 nn_ad1
  have kp2 := kp0.wr W2 (Or.inl (List.mem_of_getElem? (i := 0) rfl))
  have F2 := HF_ad1_RestingOrders_shares.same W2
  refine Go.step st2 ?_
  show Go p e below _ (T2.setTop (mkF m 10 #[.val (.ref ad1), .val (.long lv1), .second, .val (.long lv2), .second] []))
  refine Go.step (fun t_ k_ => XS.aloadN X2.here hx rfl (hb hby d3_10) rfl rfl k_) ?_
  show Go p e below _ (T2.setTop (mkF m 11 #[.val (.ref ad1), .val (.long lv1), .second, .val (.long lv2), .second] [(.ref ad1)]))
  refine Go.step (fun t_ k_ => XS.dup X2.here hx rfl (hb hby d3_11) rfl rfl k_) ?_
  show Go p e below _ (T2.setTop (mkF m 12 #[.val (.ref ad1), .val (.long lv1), .second, .val (.long lv2), .second] [(.ref ad1), (.ref ad1)]))
  have f3 := (HF_ad1_RestingOrders_shown.other W2 (Or.inr (slot_ne (Or.inl (hw _ (List.mem_of_getElem? (i := 26) rfl))) (Or.inl (hw _ (List.mem_of_getElem? (i := 24) rfl))) (by decide) (t := .long) (t' := .long) (by decide) (by decide))))
  obtain ⟨T4, X4, e4, st4⟩ := getF X2 hx hZ hown (host := "") (Or.inl (hw _ (List.mem_of_getElem? (i := 25) rfl))) Via.refl e2 f3 (g := (mkF m 12 #[.val (.ref ad1), .val (.long lv1), .second, .val (.long lv2), .second] [(.ref ad1), (.ref ad1)])) rfl rfl (hb hby d3_12)
  refine Go.step st4 ?_
  show Go p e below _ (T4.setTop (mkF m 15 #[.val (.ref ad1), .val (.long lv1), .second, .val (.long lv2), .second] [(.long (0 : Int64)), (.ref ad1)]))
  refine Go.step (fun t_ k_ => XS.lloadN X4.here hx rfl (hb hby d3_15) rfl k_) ?_
  show Go p e below _ (T4.setTop (mkF m 16 #[.val (.ref ad1), .val (.long lv1), .second, .val (.long lv2), .second] [(.long lv2), (.long (0 : Int64)), (.ref ad1)]))
  refine Go.step (fun t_ k_ => XS.lsub X4.here hx rfl (hb hby d3_16) rfl k_) ?_
  show Go p e below _ (T4.setTop (mkF m 17 #[.val (.ref ad1), .val (.long lv1), .second, .val (.long lv2), .second] [(.long ((0 : Int64) - lv2)), (.ref ad1)]))
  have f5 := (HE_ad1.wr W2)
  obtain ⟨T6, h6, X6, e6, W6, st6⟩ := putF X4 hx hZ hown (host := "") (Or.inl (hw _ (List.mem_of_getElem? (i := 25) rfl))) Via.refl e4 f3 f5 (Or.inl (hw _ (List.mem_of_getElem? (i := 26) rfl))) (hw _ (List.mem_of_getElem? (i := 1) rfl)) (ty := .long) (by decide) rfl rfl (g := (mkF m 17 #[.val (.ref ad1), .val (.long lv1), .second, .val (.long lv2), .second] [(.long ((0 : Int64) - lv2)), (.ref ad1)])) rfl rfl (hb hby d3_17)
  have N6 := Fr.snoc X6 N2 nn_ad1
  have old6 := old2.wr W6 nn_ad1
  have kp6 := kp2.wr W6 (Or.inl (List.mem_of_getElem? (i := 0) rfl))
  have F6 := f3.same W6
  refine Go.step st6 ?_
  show Go p e below _ (T6.setTop (mkF m 20 #[.val (.ref ad1), .val (.long lv1), .second, .val (.long lv2), .second] []))
  have f7 := (f5.wr W6)
  have f8 := ((HF_ad1_RestingOrders_queue.other W2 (Or.inr (slot_ne (Or.inr (hw _ (List.mem_of_getElem? (i := 15) rfl))) (Or.inl (hw _ (List.mem_of_getElem? (i := 24) rfl))) (by decide) (t := (.object "com/example/bracketline/bracketline/OrderChain")) (t' := .long) (by decide) (by decide)))).other W6 (Or.inr (slot_ne (Or.inr (hw _ (List.mem_of_getElem? (i := 15) rfl))) (Or.inl (hw _ (List.mem_of_getElem? (i := 26) rfl))) (by decide) (t := (.object "com/example/bracketline/bracketline/OrderChain")) (t' := .long) (by decide) (by decide))))
  have f9 := ((HF_ad1_RestingOrders_queueFirst.other W2 (Or.inr (slot_ne (Or.inl (hw _ (List.mem_of_getElem? (i := 43) rfl))) (Or.inl (hw _ (List.mem_of_getElem? (i := 24) rfl))) (by decide) (t := (.object "com/example/bracketline/bracketline/Order")) (t' := .long) (by decide) (by decide)))).other W6 (Or.inr (slot_ne (Or.inl (hw _ (List.mem_of_getElem? (i := 43) rfl))) (Or.inl (hw _ (List.mem_of_getElem? (i := 26) rfl))) (by decide) (t := (.object "com/example/bracketline/bracketline/Order")) (t' := .long) (by decide) (by decide))))
  have f10 := ((HF_ad1_RestingOrders_queued.other W2 (Or.inr (slot_ne (Or.inl (hw _ (List.mem_of_getElem? (i := 52) rfl))) (Or.inl (hw _ (List.mem_of_getElem? (i := 24) rfl))) (by decide) (t := .int) (t' := .long) (by decide) (by decide)))).other W6 (Or.inr (slot_ne (Or.inl (hw _ (List.mem_of_getElem? (i := 52) rfl))) (Or.inl (hw _ (List.mem_of_getElem? (i := 26) rfl))) (by decide) (t := .int) (t' := .long) (by decide) (by decide))))
  have f11 := ((HF_ad1_RestingOrders_reserve.other W2 (Or.inr (slot_ne (Or.inr (hw _ (List.mem_of_getElem? (i := 17) rfl))) (Or.inl (hw _ (List.mem_of_getElem? (i := 24) rfl))) (by decide) (t := (.object "com/example/bracketline/bracketline/OrderChain")) (t' := .long) (by decide) (by decide)))).other W6 (Or.inr (slot_ne (Or.inr (hw _ (List.mem_of_getElem? (i := 17) rfl))) (Or.inl (hw _ (List.mem_of_getElem? (i := 26) rfl))) (by decide) (t := (.object "com/example/bracketline/bracketline/OrderChain")) (t' := .long) (by decide) (by decide))))
  have f12 := ((HF_ad1_RestingOrders_reserveFirst.other W2 (Or.inr (slot_ne (Or.inl (hw _ (List.mem_of_getElem? (i := 45) rfl))) (Or.inl (hw _ (List.mem_of_getElem? (i := 24) rfl))) (by decide) (t := (.object "com/example/bracketline/bracketline/Order")) (t' := .long) (by decide) (by decide)))).other W6 (Or.inr (slot_ne (Or.inl (hw _ (List.mem_of_getElem? (i := 45) rfl))) (Or.inl (hw _ (List.mem_of_getElem? (i := 26) rfl))) (by decide) (t := (.object "com/example/bracketline/bracketline/Order")) (t' := .long) (by decide) (by decide))))
  have f13 := (F2.other W6 (Or.inr (slot_ne (Or.inl (hw _ (List.mem_of_getElem? (i := 24) rfl))) (Or.inl (hw _ (List.mem_of_getElem? (i := 26) rfl))) (by decide) (t := .long) (t' := .long) (by decide) (by decide))))
  refine Go.retV X6 hx Bd.returns Bd.notSynchronized (hb hby d3_20) (by rw [e6]; exact ⟨rfl, N6, kp6, f7, f8, f9, f10, f11, f12, f13, F6⟩) (by decide) (by decide)
theorem pd_1 : parseMethodDescriptor "(JJ)V" = some ⟨[.long, .long], none⟩ := by decide +kernel
theorem d4_0 : decode prog_25_method_2_code 0 = .ok (.aload_n 0, 1) := by decide +kernel
theorem d4_1 : decode prog_25_method_2_code 1 = .ok (.getfield 16, 3) := by decide +kernel
theorem d4_4 : decode prog_25_method_2_code 4 = .ok (.lreturn, 1) := by decide +kernel
theorem ef_am4_1 (m : MethodId) (x0 : Addr)  : entryFrame m #[(.ref x0)] 1 = mkF m 0 #[.val (.ref x0)] [] := by first | (simp [entryFrame, mkF, argsToLocals, Value.category]; done) | rfl
def Q_am4_1 (Z : State) (a_QUEUE : Addr) (a_RESERVE : Addr) (ad1 : Addr) (lv1 : Int64) (h0 : Heap) (n0 : Nat) (v : Option Value) (h : Heap) (L : List Loc) : Prop := v = some (.long lv1) ∧ Fr n0 L ∧ h = h0
set_option maxRecDepth 65536 in
set_option maxHeartbeats 40000000 in
theorem am4_1 (l : Launch) (Z : State) (a0 : Array Value) (hw : ∀ d ∈ tables_1, d.before a0 Z = true) (ws : List Jvm.Cond) (a_QUEUE : Addr) (a_RESERVE : Addr) (HW : Wd Z a_QUEUE a_RESERVE) (ad1 : Addr) (lv1 : Int64) (h0 : Heap) (n0 : Nat) (Ol : Old Z n0 h0) (HF_ad1_RestingOrders_shares : Fld Z h0 ad1 "com/example/bracketline/bracketline/RestingOrders" "shares" "J" (.long lv1)) :
    MetFree l (⟨"com/example/bracketline/bracketline/RestingOrders", "shares", "()J"⟩ : MethodName) (head1 (Jvm.Cond.code (⟨"com/example/bracketline/bracketline/RestingOrders", "shares", "()J"⟩ : MethodName) prog_25_method_2_code 1 (some .long) :: ws) ({ frames := 0, cells := 0, slots := 0, locals := 0 } : Room)) (fun a_ U_ => a_ = #[(.ref ad1)] ∧ Z.Warmed39 U_.vm ∧ U_.heap = h0) (fun _ _ _ _ _ => True) (fun _ U_ o_ V_ => ∃ v_ L_, o_ = .returned v_ ∧ Q_am4_1 Z a_QUEUE a_RESERVE ad1 lv1 h0 n0 v_ V_.heap L_ ∧ FrameEnd U_ o_ V_ L_ ({ frames := 0, cells := 0, slots := 0, locals := 0 } : Room).cells ({ frames := 0, cells := 0, slots := 0, locals := 0 } : Room).slots) := by
  refine MetFree.of_bodySF (plainFor_of_name pn_0) hisR ?_
  intro p e s m args below meth c s₁ Bd hml0 hP hK
  obtain ⟨rfl, hZ, hh⟩ := hP
  have hx := Bd.exec
  have hby := Bd.bytes
  have hml : c.maxLocals = 1 := hml0
  have hown : s.vm.findClass "com/example/bracketline/bracketline/RestingOrders" = some m.cls := findClass_of_methodNamed Bd.named
  have hnm := (name_of_methodNamed Bd.named Bd.method).1
  have X0 : Stand p l e ({ frames := 0, cells := 0, slots := 0, locals := 0 } : Room) s m #[(.ref ad1)] below meth c s₁ [] 0 0 := Stand.of_body Bd
  have e0 : s₁.heap = h0 := by rw [← hh, Bd.state]; rfl
  have N0 := Fr.nil n0
  have kp0 := Keep.refl h0 []
  show Go p e below (Fin1 s below (Q_am4_1 Z a_QUEUE a_RESERVE ad1 lv1 h0 n0) ({ frames := 0, cells := 0, slots := 0, locals := 0 } : Room).cells ({ frames := 0, cells := 0, slots := 0, locals := 0 } : Room).slots) _
  refine Go.step (fun t_ k_ => castTop (ef_am4_1 m ad1) k_) ?_
  obtain ⟨S_QUEUE, E_QUEUE, S_RESERVE, E_RESERVE⟩ := id HW
  show Go p e below _ (s₁.setTop (mkF m 0 #[.val (.ref ad1)] []))
  refine Go.step (fun t_ k_ => XS.aloadN X0.here hx rfl (hb hby d4_0) rfl rfl k_) ?_
  show Go p e below _ (s₁.setTop (mkF m 1 #[.val (.ref ad1)] [(.ref ad1)]))
  obtain ⟨T1, X1, e1, st1⟩ := getF X0 hx hZ hown (host := "") (Or.inl (hw _ (List.mem_of_getElem? (i := 23) rfl))) Via.refl e0 HF_ad1_RestingOrders_shares (g := (mkF m 1 #[.val (.ref ad1)] [(.ref ad1)])) rfl rfl (hb hby d4_1)
  refine Go.step st1 ?_
  show Go p e below _ (T1.setTop (mkF m 4 #[.val (.ref ad1)] [(.long lv1)]))
  refine Go.retJ X1 hx Bd.returns Bd.notSynchronized (hb hby d4_4) (by rw [e1]; exact ⟨rfl, N0, rfl⟩) (by decide) (by decide)
theorem pd_2 : parseMethodDescriptor "()J" = some ⟨[], some .long⟩ := by decide +kernel
theorem d5_0 : decode prog_25_method_3_code 0 = .ok (.aload_n 0, 1) := by decide +kernel
theorem d5_1 : decode prog_25_method_3_code 1 = .ok (.getfield 20, 3) := by decide +kernel
theorem d5_4 : decode prog_25_method_3_code 4 = .ok (.lreturn, 1) := by decide +kernel
theorem ef_am5_1 (m : MethodId) (x0 : Addr)  : entryFrame m #[(.ref x0)] 1 = mkF m 0 #[.val (.ref x0)] [] := by first | (simp [entryFrame, mkF, argsToLocals, Value.category]; done) | rfl
def Q_am5_1 (Z : State) (a_QUEUE : Addr) (a_RESERVE : Addr) (ad1 : Addr) (lv2 : Int64) (h0 : Heap) (n0 : Nat) (v : Option Value) (h : Heap) (L : List Loc) : Prop := v = some (.long lv2) ∧ Fr n0 L ∧ h = h0
set_option maxRecDepth 65536 in
set_option maxHeartbeats 40000000 in
theorem am5_1 (l : Launch) (Z : State) (a0 : Array Value) (hw : ∀ d ∈ tables_1, d.before a0 Z = true) (ws : List Jvm.Cond) (a_QUEUE : Addr) (a_RESERVE : Addr) (HW : Wd Z a_QUEUE a_RESERVE) (ad1 : Addr) (lv2 : Int64) (h0 : Heap) (n0 : Nat) (Ol : Old Z n0 h0) (HF_ad1_RestingOrders_shown : Fld Z h0 ad1 "com/example/bracketline/bracketline/RestingOrders" "shown" "J" (.long lv2)) :
    MetFree l (⟨"com/example/bracketline/bracketline/RestingOrders", "shown", "()J"⟩ : MethodName) (head1 (Jvm.Cond.code (⟨"com/example/bracketline/bracketline/RestingOrders", "shown", "()J"⟩ : MethodName) prog_25_method_3_code 1 (some .long) :: ws) ({ frames := 0, cells := 0, slots := 0, locals := 0 } : Room)) (fun a_ U_ => a_ = #[(.ref ad1)] ∧ Z.Warmed39 U_.vm ∧ U_.heap = h0) (fun _ _ _ _ _ => True) (fun _ U_ o_ V_ => ∃ v_ L_, o_ = .returned v_ ∧ Q_am5_1 Z a_QUEUE a_RESERVE ad1 lv2 h0 n0 v_ V_.heap L_ ∧ FrameEnd U_ o_ V_ L_ ({ frames := 0, cells := 0, slots := 0, locals := 0 } : Room).cells ({ frames := 0, cells := 0, slots := 0, locals := 0 } : Room).slots) := by
  refine MetFree.of_bodySF (plainFor_of_name pn_0) hisR ?_
  intro p e s m args below meth c s₁ Bd hml0 hP hK
  obtain ⟨rfl, hZ, hh⟩ := hP
  have hx := Bd.exec
  have hby := Bd.bytes
  have hml : c.maxLocals = 1 := hml0
  have hown : s.vm.findClass "com/example/bracketline/bracketline/RestingOrders" = some m.cls := findClass_of_methodNamed Bd.named
  have hnm := (name_of_methodNamed Bd.named Bd.method).1
  have X0 : Stand p l e ({ frames := 0, cells := 0, slots := 0, locals := 0 } : Room) s m #[(.ref ad1)] below meth c s₁ [] 0 0 := Stand.of_body Bd
  have e0 : s₁.heap = h0 := by rw [← hh, Bd.state]; rfl
  have N0 := Fr.nil n0
  have kp0 := Keep.refl h0 []
  show Go p e below (Fin1 s below (Q_am5_1 Z a_QUEUE a_RESERVE ad1 lv2 h0 n0) ({ frames := 0, cells := 0, slots := 0, locals := 0 } : Room).cells ({ frames := 0, cells := 0, slots := 0, locals := 0 } : Room).slots) _
  refine Go.step (fun t_ k_ => castTop (ef_am5_1 m ad1) k_) ?_
  obtain ⟨S_QUEUE, E_QUEUE, S_RESERVE, E_RESERVE⟩ := id HW
  show Go p e below _ (s₁.setTop (mkF m 0 #[.val (.ref ad1)] []))
  refine Go.step (fun t_ k_ => XS.aloadN X0.here hx rfl (hb hby d5_0) rfl rfl k_) ?_
  show Go p e below _ (s₁.setTop (mkF m 1 #[.val (.ref ad1)] [(.ref ad1)]))
  obtain ⟨T1, X1, e1, st1⟩ := getF X0 hx hZ hown (host := "") (Or.inl (hw _ (List.mem_of_getElem? (i := 25) rfl))) Via.refl e0 HF_ad1_RestingOrders_shown (g := (mkF m 1 #[.val (.ref ad1)] [(.ref ad1)])) rfl rfl (hb hby d5_1)
  refine Go.step st1 ?_
  show Go p e below _ (T1.setTop (mkF m 4 #[.val (.ref ad1)] [(.long lv2)]))
  refine Go.retJ X1 hx Bd.returns Bd.notSynchronized (hb hby d5_4) (by rw [e1]; exact ⟨rfl, N0, rfl⟩) (by decide) (by decide)
theorem ef_am3_2 (m : MethodId) (x0 : Addr) (x1 : Int64) (x2 : Int64)  : entryFrame m #[(.ref x0), (.long x1), (.long x2)] 5 = mkF m 0 #[.val (.ref x0), .val (.long x1), .second, .val (.long x2), .second] [] := by first | (simp [entryFrame, mkF, argsToLocals, Value.category]; done) | rfl
def Q_am3_2 (Z : State) (a_QUEUE : Addr) (a_RESERVE : Addr) (ad1 : Addr) (lv1 : Int64) (lv2 : Int64) (lv3 : Int64) (lv4 : Int64) (h0 : Heap) (n0 : Nat) (v : Option Value) (h : Heap) (L : List Loc) : Prop := v = none ∧ Fr n0 L ∧ Keep h0 h [ad1] ∧ (Exa Z h ad1 "com/example/bracketline/bracketline/RestingOrders") ∧ (Fld Z h ad1 "com/example/bracketline/bracketline/RestingOrders" "queue" "Lcom/example/bracketline/bracketline/OrderChain;" (.ref a_QUEUE)) ∧ (Fld Z h ad1 "com/example/bracketline/bracketline/RestingOrders" "queueFirst" "Lcom/example/bracketline/bracketline/Order;" .null) ∧ (Fld Z h ad1 "com/example/bracketline/bracketline/RestingOrders" "queued" "I" (.int (0 : Int32))) ∧ (Fld Z h ad1 "com/example/bracketline/bracketline/RestingOrders" "reserve" "Lcom/example/bracketline/bracketline/OrderChain;" (.ref a_RESERVE)) ∧ (Fld Z h ad1 "com/example/bracketline/bracketline/RestingOrders" "reserveFirst" "Lcom/example/bracketline/bracketline/Order;" .null) ∧ (Fld Z h ad1 "com/example/bracketline/bracketline/RestingOrders" "shares" "J" (.long (lv3 - lv1))) ∧ (Fld Z h ad1 "com/example/bracketline/bracketline/RestingOrders" "shown" "J" (.long (lv4 - lv2)))
set_option maxRecDepth 65536 in
set_option maxHeartbeats 40000000 in
theorem am3_2 (l : Launch) (Z : State) (a0 : Array Value) (hw : ∀ d ∈ tables_1, d.before a0 Z = true) (ws : List Jvm.Cond) (a_QUEUE : Addr) (a_RESERVE : Addr) (HW : Wd Z a_QUEUE a_RESERVE) (ad1 : Addr) (lv1 : Int64) (lv2 : Int64) (lv3 : Int64) (lv4 : Int64) (h0 : Heap) (n0 : Nat) (Ol : Old Z n0 h0) (HE_ad1 : Exa Z h0 ad1 "com/example/bracketline/bracketline/RestingOrders") (HF_ad1_RestingOrders_queue : Fld Z h0 ad1 "com/example/bracketline/bracketline/RestingOrders" "queue" "Lcom/example/bracketline/bracketline/OrderChain;" (.ref a_QUEUE)) (HF_ad1_RestingOrders_reserve : Fld Z h0 ad1 "com/example/bracketline/bracketline/RestingOrders" "reserve" "Lcom/example/bracketline/bracketline/OrderChain;" (.ref a_RESERVE)) (HF_ad1_RestingOrders_shares : Fld Z h0 ad1 "com/example/bracketline/bracketline/RestingOrders" "shares" "J" (.long lv3)) (HF_ad1_RestingOrders_shown : Fld Z h0 ad1 "com/example/bracketline/bracketline/RestingOrders" "shown" "J" (.long lv4)) (HF_ad1_RestingOrders_queueFirst : Fld Z h0 ad1 "com/example/bracketline/bracketline/RestingOrders" "queueFirst" "Lcom/example/bracketline/bracketline/Order;" .null) (HF_ad1_RestingOrders_reserveFirst : Fld Z h0 ad1 "com/example/bracketline/bracketline/RestingOrders" "reserveFirst" "Lcom/example/bracketline/bracketline/Order;" .null) (HF_ad1_RestingOrders_queued : Fld Z h0 ad1 "com/example/bracketline/bracketline/RestingOrders" "queued" "I" (.int (0 : Int32))) (nn_ad1 : n0 ≤ ad1) :
    MetFree l (⟨"com/example/bracketline/bracketline/RestingOrders", "taken", "(JJ)V"⟩ : MethodName) (head1 (Jvm.Cond.code (⟨"com/example/bracketline/bracketline/RestingOrders", "taken", "(JJ)V"⟩ : MethodName) prog_25_method_13_code 5 none :: ws) ({ frames := 0, cells := 0, slots := 0, locals := 0 } : Room)) (fun a_ U_ => a_ = #[(.ref ad1), (.long lv1), (.long lv2)] ∧ Z.Warmed39 U_.vm ∧ U_.heap = h0) (fun _ _ _ _ _ => True) (fun _ U_ o_ V_ => ∃ v_ L_, o_ = .returned v_ ∧ Q_am3_2 Z a_QUEUE a_RESERVE ad1 lv1 lv2 lv3 lv4 h0 n0 v_ V_.heap L_ ∧ FrameEnd U_ o_ V_ L_ ({ frames := 0, cells := 0, slots := 0, locals := 0 } : Room).cells ({ frames := 0, cells := 0, slots := 0, locals := 0 } : Room).slots) := by
  refine MetFree.of_bodySF (plainFor_of_name pn_0) hisR ?_
  intro p e s m args below meth c s₁ Bd hml0 hP hK
  obtain ⟨rfl, hZ, hh⟩ := hP
  have hx := Bd.exec
  have hby := Bd.bytes
  have hml : c.maxLocals = 5 := hml0
  have hown : s.vm.findClass "com/example/bracketline/bracketline/RestingOrders" = some m.cls := findClass_of_methodNamed Bd.named
  have hnm := (name_of_methodNamed Bd.named Bd.method).1
  have X0 : Stand p l e ({ frames := 0, cells := 0, slots := 0, locals := 0 } : Room) s m #[(.ref ad1), (.long lv1), (.long lv2)] below meth c s₁ [] 0 0 := Stand.of_body Bd
  have e0 : s₁.heap = h0 := by rw [← hh, Bd.state]; rfl
  have N0 := Fr.nil n0
  have kp0 := Keep.refl h0 [ad1]
  show Go p e below (Fin1 s below (Q_am3_2 Z a_QUEUE a_RESERVE ad1 lv1 lv2 lv3 lv4 h0 n0) ({ frames := 0, cells := 0, slots := 0, locals := 0 } : Room).cells ({ frames := 0, cells := 0, slots := 0, locals := 0 } : Room).slots) _
  refine Go.step (fun t_ k_ => castTop (ef_am3_2 m ad1 lv1 lv2) k_) ?_
  obtain ⟨S_QUEUE, E_QUEUE, S_RESERVE, E_RESERVE⟩ := id HW
  show Go p e below _ (s₁.setTop (mkF m 0 #[.val (.ref ad1), .val (.long lv1), .second, .val (.long lv2), .second] []))
  refine Go.step (fun t_ k_ => XS.aloadN X0.here hx rfl (hb hby d3_0) rfl rfl k_) ?_
  show Go p e below _ (s₁.setTop (mkF m 1 #[.val (.ref ad1), .val (.long lv1), .second, .val (.long lv2), .second] [(.ref ad1)]))
  refine Go.step (fun t_ k_ => XS.dup X0.here hx rfl (hb hby d3_1) rfl rfl k_) ?_
  show Go p e below _ (s₁.setTop (mkF m 2 #[.val (.ref ad1), .val (.long lv1), .second, .val (.long lv2), .second] [(.ref ad1), (.ref ad1)]))
  obtain ⟨T1, X1, e1, st1⟩ := getF X0 hx hZ hown (host := "") (Or.inl (hw _ (List.mem_of_getElem? (i := 23) rfl))) Via.refl e0 HF_ad1_RestingOrders_shares (g := (mkF m 2 #[.val (.ref ad1), .val (.long lv1), .second, .val (.long lv2), .second] [(.ref ad1), (.ref ad1)])) rfl rfl (hb hby d3_2)
  refine Go.step st1 ?_
  show Go p e below _ (T1.setTop (mkF m 5 #[.val (.ref ad1), .val (.long lv1), .second, .val (.long lv2), .second] [(.long lv3), (.ref ad1)]))
  refine Go.step (fun t_ k_ => XS.lloadN X1.here hx rfl (hb hby d3_5) rfl k_) ?_
  show Go p e below _ (T1.setTop (mkF m 6 #[.val (.ref ad1), .val (.long lv1), .second, .val (.long lv2), .second] [(.long lv1), (.long lv3), (.ref ad1)]))
  refine Go.step (fun t_ k_ => XS.lsub X1.here hx rfl (hb hby d3_6) rfl k_) ?_
  show Go p e below _ (T1.setTop (mkF m 7 #[.val (.ref ad1), .val (.long lv1), .second, .val (.long lv2), .second] [(.long (lv3 - lv1)), (.ref ad1)]))
  obtain ⟨T2, h2, X2, e2, W2, st2⟩ := putF X1 hx hZ hown (host := "") (Or.inl (hw _ (List.mem_of_getElem? (i := 23) rfl))) Via.refl e1 HF_ad1_RestingOrders_shares HE_ad1 (Or.inl (hw _ (List.mem_of_getElem? (i := 24) rfl))) (hw _ (List.mem_of_getElem? (i := 1) rfl)) (ty := .long) (by decide) rfl rfl (g := (mkF m 7 #[.val (.ref ad1), .val (.long lv1), .second, .val (.long lv2), .second] [(.long (lv3 - lv1)), (.ref ad1)])) rfl rfl (hb hby d3_7)
  have N2 := Fr.snoc X2 N0 nn_ad1
  have old2 := Ol.wr W2 nn_ad1
  have kp2 := kp0.wr W2 (Or.inl (List.mem_of_getElem? (i := 0) rfl))
  have F2 := HF_ad1_RestingOrders_shares.same W2
  refine Go.step st2 ?_
  show Go p e below _ (T2.setTop (mkF m 10 #[.val (.ref ad1), .val (.long lv1), .second, .val (.long lv2), .second] []))
  refine Go.step (fun t_ k_ => XS.aloadN X2.here hx rfl (hb hby d3_10) rfl rfl k_) ?_
  show Go p e below _ (T2.setTop (mkF m 11 #[.val (.ref ad1), .val (.long lv1), .second, .val (.long lv2), .second] [(.ref ad1)]))
  refine Go.step (fun t_ k_ => XS.dup X2.here hx rfl (hb hby d3_11) rfl rfl k_) ?_
  show Go p e below _ (T2.setTop (mkF m 12 #[.val (.ref ad1), .val (.long lv1), .second, .val (.long lv2), .second] [(.ref ad1), (.ref ad1)]))
  have f3 := (HF_ad1_RestingOrders_shown.other W2 (Or.inr (slot_ne (Or.inl (hw _ (List.mem_of_getElem? (i := 26) rfl))) (Or.inl (hw _ (List.mem_of_getElem? (i := 24) rfl))) (by decide) (t := .long) (t' := .long) (by decide) (by decide))))
  obtain ⟨T4, X4, e4, st4⟩ := getF X2 hx hZ hown (host := "") (Or.inl (hw _ (List.mem_of_getElem? (i := 25) rfl))) Via.refl e2 f3 (g := (mkF m 12 #[.val (.ref ad1), .val (.long lv1), .second, .val (.long lv2), .second] [(.ref ad1), (.ref ad1)])) rfl rfl (hb hby d3_12)
  refine Go.step st4 ?_
  show Go p e below _ (T4.setTop (mkF m 15 #[.val (.ref ad1), .val (.long lv1), .second, .val (.long lv2), .second] [(.long lv4), (.ref ad1)]))
  refine Go.step (fun t_ k_ => XS.lloadN X4.here hx rfl (hb hby d3_15) rfl k_) ?_
  show Go p e below _ (T4.setTop (mkF m 16 #[.val (.ref ad1), .val (.long lv1), .second, .val (.long lv2), .second] [(.long lv2), (.long lv4), (.ref ad1)]))
  refine Go.step (fun t_ k_ => XS.lsub X4.here hx rfl (hb hby d3_16) rfl k_) ?_
  show Go p e below _ (T4.setTop (mkF m 17 #[.val (.ref ad1), .val (.long lv1), .second, .val (.long lv2), .second] [(.long (lv4 - lv2)), (.ref ad1)]))
  have f5 := (HE_ad1.wr W2)
  obtain ⟨T6, h6, X6, e6, W6, st6⟩ := putF X4 hx hZ hown (host := "") (Or.inl (hw _ (List.mem_of_getElem? (i := 25) rfl))) Via.refl e4 f3 f5 (Or.inl (hw _ (List.mem_of_getElem? (i := 26) rfl))) (hw _ (List.mem_of_getElem? (i := 1) rfl)) (ty := .long) (by decide) rfl rfl (g := (mkF m 17 #[.val (.ref ad1), .val (.long lv1), .second, .val (.long lv2), .second] [(.long (lv4 - lv2)), (.ref ad1)])) rfl rfl (hb hby d3_17)
  have N6 := Fr.snoc X6 N2 nn_ad1
  have old6 := old2.wr W6 nn_ad1
  have kp6 := kp2.wr W6 (Or.inl (List.mem_of_getElem? (i := 0) rfl))
  have F6 := f3.same W6
  refine Go.step st6 ?_
  show Go p e below _ (T6.setTop (mkF m 20 #[.val (.ref ad1), .val (.long lv1), .second, .val (.long lv2), .second] []))
  have f7 := (f5.wr W6)
  have f8 := ((HF_ad1_RestingOrders_queue.other W2 (Or.inr (slot_ne (Or.inr (hw _ (List.mem_of_getElem? (i := 15) rfl))) (Or.inl (hw _ (List.mem_of_getElem? (i := 24) rfl))) (by decide) (t := (.object "com/example/bracketline/bracketline/OrderChain")) (t' := .long) (by decide) (by decide)))).other W6 (Or.inr (slot_ne (Or.inr (hw _ (List.mem_of_getElem? (i := 15) rfl))) (Or.inl (hw _ (List.mem_of_getElem? (i := 26) rfl))) (by decide) (t := (.object "com/example/bracketline/bracketline/OrderChain")) (t' := .long) (by decide) (by decide))))
  have f9 := ((HF_ad1_RestingOrders_queueFirst.other W2 (Or.inr (slot_ne (Or.inl (hw _ (List.mem_of_getElem? (i := 43) rfl))) (Or.inl (hw _ (List.mem_of_getElem? (i := 24) rfl))) (by decide) (t := (.object "com/example/bracketline/bracketline/Order")) (t' := .long) (by decide) (by decide)))).other W6 (Or.inr (slot_ne (Or.inl (hw _ (List.mem_of_getElem? (i := 43) rfl))) (Or.inl (hw _ (List.mem_of_getElem? (i := 26) rfl))) (by decide) (t := (.object "com/example/bracketline/bracketline/Order")) (t' := .long) (by decide) (by decide))))
  have f10 := ((HF_ad1_RestingOrders_queued.other W2 (Or.inr (slot_ne (Or.inl (hw _ (List.mem_of_getElem? (i := 52) rfl))) (Or.inl (hw _ (List.mem_of_getElem? (i := 24) rfl))) (by decide) (t := .int) (t' := .long) (by decide) (by decide)))).other W6 (Or.inr (slot_ne (Or.inl (hw _ (List.mem_of_getElem? (i := 52) rfl))) (Or.inl (hw _ (List.mem_of_getElem? (i := 26) rfl))) (by decide) (t := .int) (t' := .long) (by decide) (by decide))))
  have f11 := ((HF_ad1_RestingOrders_reserve.other W2 (Or.inr (slot_ne (Or.inr (hw _ (List.mem_of_getElem? (i := 17) rfl))) (Or.inl (hw _ (List.mem_of_getElem? (i := 24) rfl))) (by decide) (t := (.object "com/example/bracketline/bracketline/OrderChain")) (t' := .long) (by decide) (by decide)))).other W6 (Or.inr (slot_ne (Or.inr (hw _ (List.mem_of_getElem? (i := 17) rfl))) (Or.inl (hw _ (List.mem_of_getElem? (i := 26) rfl))) (by decide) (t := (.object "com/example/bracketline/bracketline/OrderChain")) (t' := .long) (by decide) (by decide))))
  have f12 := ((HF_ad1_RestingOrders_reserveFirst.other W2 (Or.inr (slot_ne (Or.inl (hw _ (List.mem_of_getElem? (i := 45) rfl))) (Or.inl (hw _ (List.mem_of_getElem? (i := 24) rfl))) (by decide) (t := (.object "com/example/bracketline/bracketline/Order")) (t' := .long) (by decide) (by decide)))).other W6 (Or.inr (slot_ne (Or.inl (hw _ (List.mem_of_getElem? (i := 45) rfl))) (Or.inl (hw _ (List.mem_of_getElem? (i := 26) rfl))) (by decide) (t := (.object "com/example/bracketline/bracketline/Order")) (t' := .long) (by decide) (by decide))))
  have f13 := (F2.other W6 (Or.inr (slot_ne (Or.inl (hw _ (List.mem_of_getElem? (i := 24) rfl))) (Or.inl (hw _ (List.mem_of_getElem? (i := 26) rfl))) (by decide) (t := .long) (t' := .long) (by decide) (by decide))))
  refine Go.retV X6 hx Bd.returns Bd.notSynchronized (hb hby d3_20) (by rw [e6]; exact ⟨rfl, N6, kp6, f7, f8, f9, f10, f11, f12, f13, F6⟩) (by decide) (by decide)
theorem d6_0 : decode prog_25_method_4_code 0 = .ok (.aload_n 0, 1) := by decide +kernel
theorem d6_1 : decode prog_25_method_4_code 1 = .ok (.getfield 23, 3) := by decide +kernel
theorem d6_4 : decode prog_25_method_4_code 4 = .ok (.ifnonnull 14, 3) := by decide +kernel
theorem d6_7 : decode prog_25_method_4_code 7 = .ok (.aload_n 0, 1) := by decide +kernel
theorem d6_8 : decode prog_25_method_4_code 8 = .ok (.getfield 27, 3) := by decide +kernel
theorem d6_11 : decode prog_25_method_4_code 11 = .ok (.ifnonnull 7, 3) := by decide +kernel
theorem d6_14 : decode prog_25_method_4_code 14 = .ok (.iconst 1, 1) := by decide +kernel
theorem d6_15 : decode prog_25_method_4_code 15 = .ok (.goto 4, 3) := by decide +kernel
theorem d6_19 : decode prog_25_method_4_code 19 = .ok (.ireturn, 1) := by decide +kernel
theorem ef_am6_1 (m : MethodId) (x0 : Addr)  : entryFrame m #[(.ref x0)] 1 = mkF m 0 #[.val (.ref x0)] [] := by first | (simp [entryFrame, mkF, argsToLocals, Value.category]; done) | rfl
def Q_am6_1 (Z : State) (a_QUEUE : Addr) (a_RESERVE : Addr) (ad1 : Addr) (h0 : Heap) (n0 : Nat) (v : Option Value) (h : Heap) (L : List Loc) : Prop := v = some (.int (1 : Int32)) ∧ Fr n0 L ∧ h = h0
set_option maxRecDepth 65536 in
set_option maxHeartbeats 40000000 in
theorem am6_1 (l : Launch) (Z : State) (a0 : Array Value) (hw : ∀ d ∈ tables_1, d.before a0 Z = true) (ws : List Jvm.Cond) (a_QUEUE : Addr) (a_RESERVE : Addr) (HW : Wd Z a_QUEUE a_RESERVE) (ad1 : Addr) (h0 : Heap) (n0 : Nat) (Ol : Old Z n0 h0) (HF_ad1_RestingOrders_queueFirst : Fld Z h0 ad1 "com/example/bracketline/bracketline/RestingOrders" "queueFirst" "Lcom/example/bracketline/bracketline/Order;" .null) (HF_ad1_RestingOrders_reserveFirst : Fld Z h0 ad1 "com/example/bracketline/bracketline/RestingOrders" "reserveFirst" "Lcom/example/bracketline/bracketline/Order;" .null) :
    MetFree l (⟨"com/example/bracketline/bracketline/RestingOrders", "isEmpty", "()Z"⟩ : MethodName) (head1 (Jvm.Cond.code (⟨"com/example/bracketline/bracketline/RestingOrders", "isEmpty", "()Z"⟩ : MethodName) prog_25_method_4_code 1 (some .boolean) :: ws) ({ frames := 0, cells := 0, slots := 0, locals := 0 } : Room)) (fun a_ U_ => a_ = #[(.ref ad1)] ∧ Z.Warmed39 U_.vm ∧ U_.heap = h0) (fun _ _ _ _ _ => True) (fun _ U_ o_ V_ => ∃ v_ L_, o_ = .returned v_ ∧ Q_am6_1 Z a_QUEUE a_RESERVE ad1 h0 n0 v_ V_.heap L_ ∧ FrameEnd U_ o_ V_ L_ ({ frames := 0, cells := 0, slots := 0, locals := 0 } : Room).cells ({ frames := 0, cells := 0, slots := 0, locals := 0 } : Room).slots) := by
  refine MetFree.of_bodySF (plainFor_of_name pn_0) hisR ?_
  intro p e s m args below meth c s₁ Bd hml0 hP hK
  obtain ⟨rfl, hZ, hh⟩ := hP
  have hx := Bd.exec
  have hby := Bd.bytes
  have hml : c.maxLocals = 1 := hml0
  have hown : s.vm.findClass "com/example/bracketline/bracketline/RestingOrders" = some m.cls := findClass_of_methodNamed Bd.named
  have hnm := (name_of_methodNamed Bd.named Bd.method).1
  have X0 : Stand p l e ({ frames := 0, cells := 0, slots := 0, locals := 0 } : Room) s m #[(.ref ad1)] below meth c s₁ [] 0 0 := Stand.of_body Bd
  have e0 : s₁.heap = h0 := by rw [← hh, Bd.state]; rfl
  have N0 := Fr.nil n0
  have kp0 := Keep.refl h0 []
  show Go p e below (Fin1 s below (Q_am6_1 Z a_QUEUE a_RESERVE ad1 h0 n0) ({ frames := 0, cells := 0, slots := 0, locals := 0 } : Room).cells ({ frames := 0, cells := 0, slots := 0, locals := 0 } : Room).slots) _
  refine Go.step (fun t_ k_ => castTop (ef_am6_1 m ad1) k_) ?_
  obtain ⟨S_QUEUE, E_QUEUE, S_RESERVE, E_RESERVE⟩ := id HW
  show Go p e below _ (s₁.setTop (mkF m 0 #[.val (.ref ad1)] []))
  refine Go.step (fun t_ k_ => XS.aloadN X0.here hx rfl (hb hby d6_0) rfl rfl k_) ?_
  show Go p e below _ (s₁.setTop (mkF m 1 #[.val (.ref ad1)] [(.ref ad1)]))
  obtain ⟨T1, X1, e1, st1⟩ := getF X0 hx hZ hown (host := "") (Or.inl (hw _ (List.mem_of_getElem? (i := 42) rfl))) Via.refl e0 HF_ad1_RestingOrders_queueFirst (g := (mkF m 1 #[.val (.ref ad1)] [(.ref ad1)])) rfl rfl (hb hby d6_1)
  refine Go.step st1 ?_
  show Go p e below _ (T1.setTop (mkF m 4 #[.val (.ref ad1)] [.null]))
  refine Go.step (fun t_ k_ => XS.ifnonnullNo X1.here hx rfl (hb hby d6_4) rfl k_) ?_
  show Go p e below _ (T1.setTop (mkF m 7 #[.val (.ref ad1)] []))
  refine Go.step (fun t_ k_ => XS.aloadN X1.here hx rfl (hb hby d6_7) rfl rfl k_) ?_
  show Go p e below _ (T1.setTop (mkF m 8 #[.val (.ref ad1)] [(.ref ad1)]))
  obtain ⟨T2, X2, e2, st2⟩ := getF X1 hx hZ hown (host := "") (Or.inl (hw _ (List.mem_of_getElem? (i := 44) rfl))) Via.refl e1 HF_ad1_RestingOrders_reserveFirst (g := (mkF m 8 #[.val (.ref ad1)] [(.ref ad1)])) rfl rfl (hb hby d6_8)
  refine Go.step st2 ?_
  show Go p e below _ (T2.setTop (mkF m 11 #[.val (.ref ad1)] [.null]))
  refine Go.step (fun t_ k_ => XS.ifnonnullNo X2.here hx rfl (hb hby d6_11) rfl k_) ?_
  show Go p e below _ (T2.setTop (mkF m 14 #[.val (.ref ad1)] []))
  refine Go.step (fun t_ k_ => XS.iconst X2.here hx rfl (hb hby d6_14) k_) ?_
  show Go p e below _ (T2.setTop (mkF m 15 #[.val (.ref ad1)] [(.int (1 : Int32))]))
  refine Go.step (fun t_ k_ => XS.goto X2.here hx rfl (pc0 := 15) (pc' := 19) rfl (hb hby d6_15) (by decide) (by decide) k_) ?_
  show Go p e below _ (T2.setTop (mkF m 19 #[.val (.ref ad1)] [(.int (1 : Int32))]))
  refine Go.retZ X2 hx (t := .boolean) Bd.returns (by simp) Bd.notSynchronized (hb hby d6_19) (by rw [e2]; exact ⟨rfl, N0, rfl⟩) (by decide) (by decide)
theorem pd_3 : parseMethodDescriptor "()Z" = some ⟨[], some .boolean⟩ := by decide +kernel
theorem d7_0 : decode prog_25_method_5_code 0 = .ok (.aload_n 0, 1) := by decide +kernel
theorem d7_1 : decode prog_25_method_5_code 1 = .ok (.getfield 30, 3) := by decide +kernel
theorem d7_4 : decode prog_25_method_5_code 4 = .ok (.ireturn, 1) := by decide +kernel
theorem ef_am7_1 (m : MethodId) (x0 : Addr)  : entryFrame m #[(.ref x0)] 1 = mkF m 0 #[.val (.ref x0)] [] := by first | (simp [entryFrame, mkF, argsToLocals, Value.category]; done) | rfl
def Q_am7_1 (Z : State) (a_QUEUE : Addr) (a_RESERVE : Addr) (ad1 : Addr) (h0 : Heap) (n0 : Nat) (v : Option Value) (h : Heap) (L : List Loc) : Prop := v = some (.int (0 : Int32)) ∧ Fr n0 L ∧ h = h0
set_option maxRecDepth 65536 in
set_option maxHeartbeats 40000000 in
theorem am7_1 (l : Launch) (Z : State) (a0 : Array Value) (hw : ∀ d ∈ tables_1, d.before a0 Z = true) (ws : List Jvm.Cond) (a_QUEUE : Addr) (a_RESERVE : Addr) (HW : Wd Z a_QUEUE a_RESERVE) (ad1 : Addr) (h0 : Heap) (n0 : Nat) (Ol : Old Z n0 h0) (HF_ad1_RestingOrders_queued : Fld Z h0 ad1 "com/example/bracketline/bracketline/RestingOrders" "queued" "I" (.int (0 : Int32))) :
    MetFree l (⟨"com/example/bracketline/bracketline/RestingOrders", "displayedOrders", "()I"⟩ : MethodName) (head1 (Jvm.Cond.code (⟨"com/example/bracketline/bracketline/RestingOrders", "displayedOrders", "()I"⟩ : MethodName) prog_25_method_5_code 1 (some .int) :: ws) ({ frames := 0, cells := 0, slots := 0, locals := 0 } : Room)) (fun a_ U_ => a_ = #[(.ref ad1)] ∧ Z.Warmed39 U_.vm ∧ U_.heap = h0) (fun _ _ _ _ _ => True) (fun _ U_ o_ V_ => ∃ v_ L_, o_ = .returned v_ ∧ Q_am7_1 Z a_QUEUE a_RESERVE ad1 h0 n0 v_ V_.heap L_ ∧ FrameEnd U_ o_ V_ L_ ({ frames := 0, cells := 0, slots := 0, locals := 0 } : Room).cells ({ frames := 0, cells := 0, slots := 0, locals := 0 } : Room).slots) := by
  refine MetFree.of_bodySF (plainFor_of_name pn_0) hisR ?_
  intro p e s m args below meth c s₁ Bd hml0 hP hK
  obtain ⟨rfl, hZ, hh⟩ := hP
  have hx := Bd.exec
  have hby := Bd.bytes
  have hml : c.maxLocals = 1 := hml0
  have hown : s.vm.findClass "com/example/bracketline/bracketline/RestingOrders" = some m.cls := findClass_of_methodNamed Bd.named
  have hnm := (name_of_methodNamed Bd.named Bd.method).1
  have X0 : Stand p l e ({ frames := 0, cells := 0, slots := 0, locals := 0 } : Room) s m #[(.ref ad1)] below meth c s₁ [] 0 0 := Stand.of_body Bd
  have e0 : s₁.heap = h0 := by rw [← hh, Bd.state]; rfl
  have N0 := Fr.nil n0
  have kp0 := Keep.refl h0 []
  show Go p e below (Fin1 s below (Q_am7_1 Z a_QUEUE a_RESERVE ad1 h0 n0) ({ frames := 0, cells := 0, slots := 0, locals := 0 } : Room).cells ({ frames := 0, cells := 0, slots := 0, locals := 0 } : Room).slots) _
  refine Go.step (fun t_ k_ => castTop (ef_am7_1 m ad1) k_) ?_
  obtain ⟨S_QUEUE, E_QUEUE, S_RESERVE, E_RESERVE⟩ := id HW
  show Go p e below _ (s₁.setTop (mkF m 0 #[.val (.ref ad1)] []))
  refine Go.step (fun t_ k_ => XS.aloadN X0.here hx rfl (hb hby d7_0) rfl rfl k_) ?_
  show Go p e below _ (s₁.setTop (mkF m 1 #[.val (.ref ad1)] [(.ref ad1)]))
  obtain ⟨T1, X1, e1, st1⟩ := getF X0 hx hZ hown (host := "") (Or.inl (hw _ (List.mem_of_getElem? (i := 51) rfl))) Via.refl e0 HF_ad1_RestingOrders_queued (g := (mkF m 1 #[.val (.ref ad1)] [(.ref ad1)])) rfl rfl (hb hby d7_1)
  refine Go.step st1 ?_
  show Go p e below _ (T1.setTop (mkF m 4 #[.val (.ref ad1)] [(.int (0 : Int32))]))
  refine Go.retI X1 hx Bd.returns Bd.notSynchronized (hb hby d7_4) (by rw [e1]; exact ⟨rfl, N0, rfl⟩) (by decide) (by decide)
theorem pd_4 : parseMethodDescriptor "()I" = some ⟨[], some .int⟩ := by decide +kernel
theorem d8_0 : decode prog_25_method_6_code 0 = .ok (.aload_n 0, 1) := by decide +kernel
theorem d8_1 : decode prog_25_method_6_code 1 = .ok (.getfield 23, 3) := by decide +kernel
theorem d8_4 : decode prog_25_method_6_code 4 = .ok (.areturn, 1) := by decide +kernel
theorem ef_am8_1 (m : MethodId) (x0 : Addr)  : entryFrame m #[(.ref x0)] 1 = mkF m 0 #[.val (.ref x0)] [] := by first | (simp [entryFrame, mkF, argsToLocals, Value.category]; done) | rfl
def Q_am8_1 (Z : State) (a_QUEUE : Addr) (a_RESERVE : Addr) (ad1 : Addr) (h0 : Heap) (n0 : Nat) (v : Option Value) (h : Heap) (L : List Loc) : Prop := v = some .null ∧ Fr n0 L ∧ h = h0
set_option maxRecDepth 65536 in
set_option maxHeartbeats 40000000 in
theorem am8_1 (l : Launch) (Z : State) (a0 : Array Value) (hw : ∀ d ∈ tables_1, d.before a0 Z = true) (ws : List Jvm.Cond) (a_QUEUE : Addr) (a_RESERVE : Addr) (HW : Wd Z a_QUEUE a_RESERVE) (ad1 : Addr) (h0 : Heap) (n0 : Nat) (Ol : Old Z n0 h0) (HF_ad1_RestingOrders_queueFirst : Fld Z h0 ad1 "com/example/bracketline/bracketline/RestingOrders" "queueFirst" "Lcom/example/bracketline/bracketline/Order;" .null) :
    MetFree l (⟨"com/example/bracketline/bracketline/RestingOrders", "firstDisplayed", "()Lcom/example/bracketline/bracketline/Order;"⟩ : MethodName) (head1 (Jvm.Cond.code (⟨"com/example/bracketline/bracketline/RestingOrders", "firstDisplayed", "()Lcom/example/bracketline/bracketline/Order;"⟩ : MethodName) prog_25_method_6_code 1 (some (.object "com/example/bracketline/bracketline/Order")) :: ws) ({ frames := 0, cells := 0, slots := 0, locals := 0 } : Room)) (fun a_ U_ => a_ = #[(.ref ad1)] ∧ Z.Warmed39 U_.vm ∧ U_.heap = h0) (fun _ _ _ _ _ => True) (fun _ U_ o_ V_ => ∃ v_ L_, o_ = .returned v_ ∧ Q_am8_1 Z a_QUEUE a_RESERVE ad1 h0 n0 v_ V_.heap L_ ∧ FrameEnd U_ o_ V_ L_ ({ frames := 0, cells := 0, slots := 0, locals := 0 } : Room).cells ({ frames := 0, cells := 0, slots := 0, locals := 0 } : Room).slots) := by
  refine MetFree.of_bodySF (plainFor_of_name pn_0) hisR ?_
  intro p e s m args below meth c s₁ Bd hml0 hP hK
  obtain ⟨rfl, hZ, hh⟩ := hP
  have hx := Bd.exec
  have hby := Bd.bytes
  have hml : c.maxLocals = 1 := hml0
  have hown : s.vm.findClass "com/example/bracketline/bracketline/RestingOrders" = some m.cls := findClass_of_methodNamed Bd.named
  have hnm := (name_of_methodNamed Bd.named Bd.method).1
  have X0 : Stand p l e ({ frames := 0, cells := 0, slots := 0, locals := 0 } : Room) s m #[(.ref ad1)] below meth c s₁ [] 0 0 := Stand.of_body Bd
  have e0 : s₁.heap = h0 := by rw [← hh, Bd.state]; rfl
  have N0 := Fr.nil n0
  have kp0 := Keep.refl h0 []
  show Go p e below (Fin1 s below (Q_am8_1 Z a_QUEUE a_RESERVE ad1 h0 n0) ({ frames := 0, cells := 0, slots := 0, locals := 0 } : Room).cells ({ frames := 0, cells := 0, slots := 0, locals := 0 } : Room).slots) _
  refine Go.step (fun t_ k_ => castTop (ef_am8_1 m ad1) k_) ?_
  obtain ⟨S_QUEUE, E_QUEUE, S_RESERVE, E_RESERVE⟩ := id HW
  show Go p e below _ (s₁.setTop (mkF m 0 #[.val (.ref ad1)] []))
  refine Go.step (fun t_ k_ => XS.aloadN X0.here hx rfl (hb hby d8_0) rfl rfl k_) ?_
  show Go p e below _ (s₁.setTop (mkF m 1 #[.val (.ref ad1)] [(.ref ad1)]))
  obtain ⟨T1, X1, e1, st1⟩ := getF X0 hx hZ hown (host := "") (Or.inl (hw _ (List.mem_of_getElem? (i := 42) rfl))) Via.refl e0 HF_ad1_RestingOrders_queueFirst (g := (mkF m 1 #[.val (.ref ad1)] [(.ref ad1)])) rfl rfl (hb hby d8_1)
  refine Go.step st1 ?_
  show Go p e below _ (T1.setTop (mkF m 4 #[.val (.ref ad1)] [.null]))
  refine Go.retR X1 hx Bd.returns rfl rfl Bd.notSynchronized (hb hby d8_4) (by rw [e1]; exact ⟨rfl, N0, rfl⟩) (by decide) (by decide)
theorem pd_5 : parseMethodDescriptor "()Lcom/example/bracketline/bracketline/Order;" = some ⟨[], some (.object "com/example/bracketline/bracketline/Order")⟩ := by decide +kernel
theorem pn_1 : plainName "com/example/bracketline/bracketline/RestingOrdersTakenPinLaw" = true := by first | (simp [plainName, overriddenIn]; done) | decide +kernel
theorem ef_rm0 (m : MethodId) (x0 : Int64) (x1 : Int64) (x2 : Int64) (x3 : Int64)  : entryFrame m #[(.long x0), (.long x1), (.long x2), (.long x3)] maxLocals = mkF m 0 #[.val (.long x0), .second, .val (.long x1), .second, .val (.long x2), .second, .val (.long x3), .second, .unset, .unset, .unset, .unset] [] := by first | (simp [entryFrame, mkF, argsToLocals, Value.category, maxLocals]; done) | rfl
def Q_rm0 (Z : State) (a_QUEUE : Addr) (a_RESERVE : Addr) (p1 p2 p3 p4 : Int64) (h0 : Heap) (n0 : Nat) (v : Option Value) (h : Heap) (L : List Loc) : Prop := v = some (.int 1) ∧ Fr n0 L
set_option maxRecDepth 65536 in
set_option maxHeartbeats 40000000 in
theorem rm0 (l : Launch) (Z : State) (a0 : Array Value) (hw : ∀ d ∈ tables_1, d.before a0 Z = true) (ws : List Jvm.Cond) (a_QUEUE : Addr) (a_RESERVE : Addr) (HW : Wd Z a_QUEUE a_RESERVE) (p1 p2 p3 p4 : Int64) (h0 : Heap) (n0 : Nat) (Ol : Old Z n0 h0)  :
    MetFree l x (head1 (Jvm.Cond.code x code maxLocals ret :: ws) room_1) (fun a_ U_ => a_ = #[(.long p1), (.long p2), (.long p3), (.long p4)] ∧ Z.Warmed39 U_.vm ∧ U_.heap = h0) (fun _ _ _ _ _ => True) (fun _ U_ o_ V_ => ∃ v_ L_, o_ = .returned v_ ∧ Q_rm0 Z a_QUEUE a_RESERVE p1 p2 p3 p4 h0 n0 v_ V_.heap L_ ∧ FrameEnd U_ o_ V_ L_ room_1.cells room_1.slots) := by
  refine MetFree.of_bodySF (plainFor_of_name pn_1) hisR ?_
  intro p e s m args below meth c s₁ Bd hml0 hP hK
  obtain ⟨rfl, hZ, hh⟩ := hP
  have hx := Bd.exec
  have hby := Bd.bytes
  have hml : c.maxLocals = 12 := hml0
  have hown : s.vm.findClass "com/example/bracketline/bracketline/RestingOrdersTakenPinLaw" = some m.cls := findClass_of_methodNamed Bd.named
  have hnm := (name_of_methodNamed Bd.named Bd.method).1
  have X0 : Stand p l e room_1 s m #[(.long p1), (.long p2), (.long p3), (.long p4)] below meth c s₁ [] 0 0 := Stand.of_body Bd
  have e0 : s₁.heap = h0 := by rw [← hh, Bd.state]; rfl
  have N0 := Fr.nil n0
  have kp0 := Keep.refl h0 []
  show Go p e below (Fin1 s below (Q_rm0 Z a_QUEUE a_RESERVE p1 p2 p3 p4 h0 n0) room_1.cells room_1.slots) _
  refine Go.step (fun t_ k_ => castTop (ef_rm0 m p1 p2 p3 p4) k_) ?_
  obtain ⟨S_QUEUE, E_QUEUE, S_RESERVE, E_RESERVE⟩ := id HW
  show Go p e below _ (s₁.setTop (mkF m 0 #[.val (.long p1), .second, .val (.long p2), .second, .val (.long p3), .second, .val (.long p4), .second, .unset, .unset, .unset, .unset] []))
  obtain ⟨T1, h1, X1, e1, E1, A1, D1, Y1, st1⟩ := newO X0 hx hZ hown (hw _ (List.mem_of_getElem? (i := 0) rfl)) (hw _ (List.mem_of_getElem? (i := 1) rfl)) (hw _ (List.mem_of_getElem? (i := 2) rfl)) e0 (g := (mkF m 0 #[.val (.long p1), .second, .val (.long p2), .second, .val (.long p3), .second, .val (.long p4), .second, .unset, .unset, .unset, .unset] [])) rfl (hb hby at_0) (by decide) (by decide)
  obtain ⟨b1, g1⟩ : ∃ z, z = h0.size := ⟨_, rfl⟩
  rw [← g1] at A1 D1 Y1 st1
  have nn_b1 : n0 ≤ b1 := Nat.le_trans (old_z0 Ol) (Nat.le_of_eq g1.symm)
  have sz_b1 : h0.size ≤ b1 := Nat.le_trans kp0.1 (Nat.le_of_eq g1.symm)
  have old1 := Ol.ext E1
  have kp1 := kp0.ext E1
  have F1_queue : Fld Z h1 b1 "com/example/bracketline/bracketline/RestingOrders" "queue" "Lcom/example/bracketline/bracketline/OrderChain;" .null := D1 (Or.inr (hw _ (List.mem_of_getElem? (i := 15) rfl))) (ty := (.object "com/example/bracketline/bracketline/OrderChain")) (by decide)
  have F1_reserve : Fld Z h1 b1 "com/example/bracketline/bracketline/RestingOrders" "reserve" "Lcom/example/bracketline/bracketline/OrderChain;" .null := D1 (Or.inr (hw _ (List.mem_of_getElem? (i := 17) rfl))) (ty := (.object "com/example/bracketline/bracketline/OrderChain")) (by decide)
  have F1_shares : Fld Z h1 b1 "com/example/bracketline/bracketline/RestingOrders" "shares" "J" (.long (0 : Int64)) := D1 (Or.inl (hw _ (List.mem_of_getElem? (i := 24) rfl))) (ty := .long) (by decide)
  have F1_shown : Fld Z h1 b1 "com/example/bracketline/bracketline/RestingOrders" "shown" "J" (.long (0 : Int64)) := D1 (Or.inl (hw _ (List.mem_of_getElem? (i := 26) rfl))) (ty := .long) (by decide)
  have F1_queueFirst : Fld Z h1 b1 "com/example/bracketline/bracketline/RestingOrders" "queueFirst" "Lcom/example/bracketline/bracketline/Order;" .null := D1 (Or.inl (hw _ (List.mem_of_getElem? (i := 43) rfl))) (ty := (.object "com/example/bracketline/bracketline/Order")) (by decide)
  have F1_reserveFirst : Fld Z h1 b1 "com/example/bracketline/bracketline/RestingOrders" "reserveFirst" "Lcom/example/bracketline/bracketline/Order;" .null := D1 (Or.inl (hw _ (List.mem_of_getElem? (i := 45) rfl))) (ty := (.object "com/example/bracketline/bracketline/Order")) (by decide)
  have F1_queued : Fld Z h1 b1 "com/example/bracketline/bracketline/RestingOrders" "queued" "I" (.int (0 : Int32)) := D1 (Or.inl (hw _ (List.mem_of_getElem? (i := 52) rfl))) (ty := .int) (by decide)
  refine Go.step st1 ?_
  show Go p e below _ (T1.setTop (mkF m 3 #[.val (.long p1), .second, .val (.long p2), .second, .val (.long p3), .second, .val (.long p4), .second, .unset, .unset, .unset, .unset] [(.ref b1)]))
  refine Go.step (fun t_ k_ => XS.dup X1.here hx rfl (hb hby at_3) rfl rfl k_) ?_
  show Go p e below _ (T1.setTop (mkF m 4 #[.val (.long p1), .second, .val (.long p2), .second, .val (.long p3), .second, .val (.long p4), .second, .unset, .unset, .unset, .unset] [(.ref b1), (.ref b1)]))
  obtain ⟨T2, X2, e2, st2⟩ := getS2 X1 hx hZ hown (host := "") (Or.inl (hw _ (List.mem_of_getElem? (i := 3) rfl))) Via.refl e1 (S_QUEUE.ext old1.2) (g := (mkF m 4 #[.val (.long p1), .second, .val (.long p2), .second, .val (.long p3), .second, .val (.long p4), .second, .unset, .unset, .unset, .unset] [(.ref b1), (.ref b1)])) rfl (hb hby at_4)
  refine Go.step st2 ?_
  show Go p e below _ (T2.setTop (mkF m 7 #[.val (.long p1), .second, .val (.long p2), .second, .val (.long p3), .second, .val (.long p4), .second, .unset, .unset, .unset, .unset] [(.ref a_QUEUE), (.ref b1), (.ref b1)]))
  obtain ⟨T3, X3, e3, st3⟩ := getS2 X2 hx hZ hown (host := "") (Or.inl (hw _ (List.mem_of_getElem? (i := 6) rfl))) Via.refl e2 (S_RESERVE.ext old1.2) (g := (mkF m 7 #[.val (.long p1), .second, .val (.long p2), .second, .val (.long p3), .second, .val (.long p4), .second, .unset, .unset, .unset, .unset] [(.ref a_QUEUE), (.ref b1), (.ref b1)])) rfl (hb hby at_7)
  refine Go.step st3 ?_
  show Go p e below _ (T3.setTop (mkF m 10 #[.val (.long p1), .second, .val (.long p2), .second, .val (.long p3), .second, .val (.long p4), .second, .unset, .unset, .unset, .unset] [(.ref a_RESERVE), (.ref a_QUEUE), (.ref b1), (.ref b1)]))
  obtain ⟨_, _, ⟨T4, L4, k4, n4⟩, -, X4, ⟨Lc4, hQ4, l4, y4, z4⟩, st4⟩ := X3.specialBack hx (y := (⟨"com/example/bracketline/bracketline/RestingOrders", "<init>", "(Lcom/example/bracketline/bracketline/OrderChain;Lcom/example/bracketline/bracketline/OrderChain;)V"⟩ : MethodName)) rfl hown (mvT hZ (hw _ (List.mem_of_getElem? (i := 8) rfl))) (mvT hZ (hw _ (List.mem_of_getElem? (i := 9) rfl))) (mvT hZ (hw _ (List.mem_of_getElem? (i := 10) rfl))) (by decide) (backOf (W := 1) (am1_1 l Z a0 hw [] a_QUEUE a_RESERVE HW (b1) h1 n0 old1 A1 F1_queue F1_reserve F1_shares F1_shown F1_queueFirst F1_reserveFirst F1_queued nn_b1) hZ (hw _ (List.mem_of_getElem? (i := 10) rfl)) (hw _ (List.mem_of_getElem? (i := 2) rfl)) (by decide) (by decide)) (g := (mkF m 10 #[.val (.long p1), .second, .val (.long p2), .second, .val (.long p3), .second, .val (.long p4), .second, .unset, .unset, .unset, .unset] [(.ref a_RESERVE), (.ref a_QUEUE), (.ref b1), (.ref b1)])) rfl (by rw [hml]; rfl) (Steps.refl _) (a := b1) (argsL := [(.ref a_QUEUE), (.ref a_RESERVE)]) (rest := [(.ref b1)]) (lenOf pd_0 rfl) rfl (by show 2 * 0 + _ ≤ _; exact Nat.le_of_eq rfl) (hb hby at_10) (fun _ _ => ⟨rfl, e3, (by decide : 1 + 0 ≤ _), (by decide : 9 + 0 ≤ _)⟩)
  dsimp only [Pt.U, Pt.locs, Pt.cells, Pt.slots] at X4 l4 y4 z4 st4 hQ4
  subst l4 y4 z4
  obtain ⟨rfl, Nq4, K4, p4_0, p4_1, p4_2, p4_3, p4_4, p4_5, p4_6, p4_7⟩ := hQ4
  have old4 := old1.keep K4 (allS nn_b1 all0)
  have kp4 := kp1.trans K4 (allS (Or.inr sz_b1) all0)
  have N4 := Fr.app N0 Nq4
  refine Go.step (fun t_ k_ => st4.trans k_) ?_
  show Go p e below _ (T4.setTop (mkF m 13 #[.val (.long p1), .second, .val (.long p2), .second, .val (.long p3), .second, .val (.long p4), .second, .unset, .unset, .unset, .unset] [(.ref b1)]))
  refine Go.step (fun t_ k_ => XS.astore X4.here hx rfl (hb hby at_13) rfl rfl (l' := #[.val (.long p1), .second, .val (.long p2), .second, .val (.long p3), .second, .val (.long p4), .second, .val (.ref b1), .unset, .unset, .unset]) rfl k_) ?_
  show Go p e below _ (T4.setTop (mkF m 15 #[.val (.long p1), .second, .val (.long p2), .second, .val (.long p3), .second, .val (.long p4), .second, .val (.ref b1), .unset, .unset, .unset] []))
  refine Go.step (fun t_ k_ => XS.aload X4.here hx rfl (hb hby at_15) rfl rfl k_) ?_
  show Go p e below _ (T4.setTop (mkF m 17 #[.val (.long p1), .second, .val (.long p2), .second, .val (.long p3), .second, .val (.long p4), .second, .val (.ref b1), .unset, .unset, .unset] [(.ref b1)]))
  refine Go.step (fun t_ k_ => XS.lloadN X4.here hx rfl (hb hby at_17) rfl k_) ?_
  show Go p e below _ (T4.setTop (mkF m 18 #[.val (.long p1), .second, .val (.long p2), .second, .val (.long p3), .second, .val (.long p4), .second, .val (.ref b1), .unset, .unset, .unset] [(.long p1), (.ref b1)]))
  refine Go.step (fun t_ k_ => XS.lloadN X4.here hx rfl (hb hby at_18) rfl k_) ?_
  show Go p e below _ (T4.setTop (mkF m 19 #[.val (.long p1), .second, .val (.long p2), .second, .val (.long p3), .second, .val (.long p4), .second, .val (.ref b1), .unset, .unset, .unset] [(.long p2), (.long p1), (.ref b1)]))
  obtain ⟨cq5, kq5, q5a, q5b, q5c⟩ := isOf hZ rfl p4_0
  obtain ⟨_, _, ⟨T5, L5, k5, n5⟩, -, X5, ⟨Lc5, hQ5, l5, y5, z5⟩, st5⟩ := X4.virtualBack hx (y := (⟨"com/example/bracketline/bracketline/RestingOrders", "taken", "(JJ)V"⟩ : MethodName)) (z := (⟨"com/example/bracketline/bracketline/RestingOrders", "taken", "(JJ)V"⟩ : MethodName)) hown (mvT hZ (hw _ (List.mem_of_getElem? (i := 18) rfl))) (mvT hZ (hw _ (List.mem_of_getElem? (i := 19) rfl))) (notFace_of_selects (args := #[]) (mvT hZ (hw _ (List.mem_of_getElem? (i := 21) rfl)))) (mvT hZ (hw _ (List.mem_of_getElem? (i := 21) rfl))) (mvT hZ (hw _ (List.mem_of_getElem? (i := 20) rfl))) (by decide) (backOf (W := 0) (am3_1 l Z a0 hw [] a_QUEUE a_RESERVE HW (b1) (p1) (p2) T4.heap n0 old4 p4_0 p4_1 p4_4 p4_6 p4_7 p4_2 p4_5 p4_3 nn_b1) hZ (hw _ (List.mem_of_getElem? (i := 22) rfl)) (hw _ (List.mem_of_getElem? (i := 2) rfl)) (by decide) (by decide)) q5a q5c (g := (mkF m 19 #[.val (.long p1), .second, .val (.long p2), .second, .val (.long p3), .second, .val (.long p4), .second, .val (.ref b1), .unset, .unset, .unset] [(.long p2), (.long p1), (.ref b1)])) rfl (by rw [hml]; rfl) (Steps.refl _) (argsL := [(.long p1), (.long p2)]) (rest := []) (lenOf pd_1 rfl) rfl (by show 2 * 0 + _ ≤ _; exact Nat.le_of_eq rfl) (hb hby at_19) (fun _ _ => ⟨rfl, rfl, (by decide : 1 + 0 ≤ _), (by decide : 9 + 0 ≤ _)⟩)
  dsimp only [Pt.U, Pt.locs, Pt.cells, Pt.slots] at X5 l5 y5 z5 st5 hQ5
  subst l5 y5 z5
  obtain ⟨rfl, Nq5, K5, p5_0, p5_1, p5_2, p5_3, p5_4, p5_5, p5_6, p5_7⟩ := hQ5
  have old5 := old4.keep K5 (allS nn_b1 all0)
  have kp5 := kp4.trans K5 (allS (Or.inr sz_b1) all0)
  have N5 := Fr.app N4 Nq5
  refine Go.step (fun t_ k_ => st5.trans k_) ?_
  show Go p e below _ (T5.setTop (mkF m 22 #[.val (.long p1), .second, .val (.long p2), .second, .val (.long p3), .second, .val (.long p4), .second, .val (.ref b1), .unset, .unset, .unset] []))
  refine Go.step (fun t_ k_ => XS.aload X5.here hx rfl (hb hby at_22) rfl rfl k_) ?_
  show Go p e below _ (T5.setTop (mkF m 24 #[.val (.long p1), .second, .val (.long p2), .second, .val (.long p3), .second, .val (.long p4), .second, .val (.ref b1), .unset, .unset, .unset] [(.ref b1)]))
  obtain ⟨cq6, kq6, q6a, q6b, q6c⟩ := isOf hZ rfl p5_0
  obtain ⟨_, _, ⟨T6, L6, k6, n6⟩, -, X6, ⟨Lc6, hQ6, l6, y6, z6⟩, st6⟩ := X5.virtualBack hx (y := (⟨"com/example/bracketline/bracketline/RestingOrders", "shares", "()J"⟩ : MethodName)) (z := (⟨"com/example/bracketline/bracketline/RestingOrders", "shares", "()J"⟩ : MethodName)) hown (mvT hZ (hw _ (List.mem_of_getElem? (i := 27) rfl))) (mvT hZ (hw _ (List.mem_of_getElem? (i := 28) rfl))) (notFace_of_selects (args := #[]) (mvT hZ (hw _ (List.mem_of_getElem? (i := 30) rfl)))) (mvT hZ (hw _ (List.mem_of_getElem? (i := 30) rfl))) (mvT hZ (hw _ (List.mem_of_getElem? (i := 29) rfl))) (by decide) (backOf (W := 0) (am4_1 l Z a0 hw [] a_QUEUE a_RESERVE HW (b1) (((0 : Int64) - p1)) T5.heap n0 old5 p5_6) hZ (hw _ (List.mem_of_getElem? (i := 31) rfl)) (hw _ (List.mem_of_getElem? (i := 2) rfl)) (by decide) (by decide)) q6a q6c (g := (mkF m 24 #[.val (.long p1), .second, .val (.long p2), .second, .val (.long p3), .second, .val (.long p4), .second, .val (.ref b1), .unset, .unset, .unset] [(.ref b1)])) rfl (by rw [hml]; rfl) (Steps.refl _) (argsL := []) (rest := []) (lenOf pd_2 rfl) rfl (by show 2 * 0 + _ ≤ _; exact Nat.le_of_eq rfl) (hb hby at_24) (fun _ _ => ⟨rfl, rfl, (by decide : 1 + 0 ≤ _), (by decide : 9 + 0 ≤ _)⟩)
  dsimp only [Pt.U, Pt.locs, Pt.cells, Pt.slots] at X6 l6 y6 z6 st6 hQ6
  subst l6 y6 z6
  obtain ⟨rfl, Nq6, e6⟩ := hQ6
  have N6 := Fr.app N5 Nq6
  refine Go.step (fun t_ k_ => st6.trans k_) ?_
  show Go p e below _ (T6.setTop (mkF m 27 #[.val (.long p1), .second, .val (.long p2), .second, .val (.long p3), .second, .val (.long p4), .second, .val (.ref b1), .unset, .unset, .unset] [(.long ((0 : Int64) - p1))]))
  refine Go.step (fun t_ k_ => XS.lconst X6.here hx rfl (hb hby at_27) k_) ?_
  show Go p e below _ (T6.setTop (mkF m 28 #[.val (.long p1), .second, .val (.long p2), .second, .val (.long p3), .second, .val (.long p4), .second, .val (.ref b1), .unset, .unset, .unset] [(.long (0 : Int64)), (.long ((0 : Int64) - p1))]))
  refine Go.step (fun t_ k_ => XS.lloadN X6.here hx rfl (hb hby at_28) rfl k_) ?_
  show Go p e below _ (T6.setTop (mkF m 29 #[.val (.long p1), .second, .val (.long p2), .second, .val (.long p3), .second, .val (.long p4), .second, .val (.ref b1), .unset, .unset, .unset] [(.long p1), (.long (0 : Int64)), (.long ((0 : Int64) - p1))]))
  refine Go.step (fun t_ k_ => XS.lsub X6.here hx rfl (hb hby at_29) rfl k_) ?_
  show Go p e below _ (T6.setTop (mkF m 30 #[.val (.long p1), .second, .val (.long p2), .second, .val (.long p3), .second, .val (.long p4), .second, .val (.ref b1), .unset, .unset, .unset] [(.long ((0 : Int64) - p1)), (.long ((0 : Int64) - p1))]))
  refine Go.step (fun t_ k_ => XS.lcmp X6.here hx rfl (hb hby at_30) rfl k_) ?_
  show Go p e below _ (T6.setTop (mkF m 31 #[.val (.long p1), .second, .val (.long p2), .second, .val (.long p3), .second, .val (.long p4), .second, .val (.ref b1), .unset, .unset, .unset] [(.int (lcmpW ((0 : Int64) - p1) ((0 : Int64) - p1)))]))
  have hc31 : (lcmpW ((0 : Int64) - p1) ((0 : Int64) - p1)) = (0 : Int32) := by first | (rw [lw_of_eq (rfl : ((0 : Int64) - p1) = ((0 : Int64) - p1))]; decide) | rw [lw_of_eq (rfl : ((0 : Int64) - p1) = ((0 : Int64) - p1))]
  refine Go.step (fun t_ k_ => XS.ifNo X6.here hx rfl (hb hby at_31) rfl ((if0 _ _).trans (teq hc31).2) k_) ?_
  show Go p e below _ (T6.setTop (mkF m 34 #[.val (.long p1), .second, .val (.long p2), .second, .val (.long p3), .second, .val (.long p4), .second, .val (.ref b1), .unset, .unset, .unset] []))
  refine Go.step (fun t_ k_ => XS.aload X6.here hx rfl (hb hby at_34) rfl rfl k_) ?_
  show Go p e below _ (T6.setTop (mkF m 36 #[.val (.long p1), .second, .val (.long p2), .second, .val (.long p3), .second, .val (.long p4), .second, .val (.ref b1), .unset, .unset, .unset] [(.ref b1)]))
  obtain ⟨cq7, kq7, q7a, q7b, q7c⟩ := isOf hZ e6 p5_0
  obtain ⟨_, _, ⟨T7, L7, k7, n7⟩, -, X7, ⟨Lc7, hQ7, l7, y7, z7⟩, st7⟩ := X6.virtualBack hx (y := (⟨"com/example/bracketline/bracketline/RestingOrders", "shown", "()J"⟩ : MethodName)) (z := (⟨"com/example/bracketline/bracketline/RestingOrders", "shown", "()J"⟩ : MethodName)) hown (mvT hZ (hw _ (List.mem_of_getElem? (i := 32) rfl))) (mvT hZ (hw _ (List.mem_of_getElem? (i := 33) rfl))) (notFace_of_selects (args := #[]) (mvT hZ (hw _ (List.mem_of_getElem? (i := 35) rfl)))) (mvT hZ (hw _ (List.mem_of_getElem? (i := 35) rfl))) (mvT hZ (hw _ (List.mem_of_getElem? (i := 34) rfl))) (by decide) (backOf (W := 0) (am5_1 l Z a0 hw [] a_QUEUE a_RESERVE HW (b1) (((0 : Int64) - p2)) T5.heap n0 old5 p5_7) hZ (hw _ (List.mem_of_getElem? (i := 36) rfl)) (hw _ (List.mem_of_getElem? (i := 2) rfl)) (by decide) (by decide)) q7a q7c (g := (mkF m 36 #[.val (.long p1), .second, .val (.long p2), .second, .val (.long p3), .second, .val (.long p4), .second, .val (.ref b1), .unset, .unset, .unset] [(.ref b1)])) rfl (by rw [hml]; rfl) (Steps.refl _) (argsL := []) (rest := []) (lenOf pd_2 rfl) rfl (by show 2 * 0 + _ ≤ _; exact Nat.le_of_eq rfl) (hb hby at_36) (fun _ _ => ⟨rfl, e6, (by decide : 1 + 0 ≤ _), (by decide : 9 + 0 ≤ _)⟩)
  dsimp only [Pt.U, Pt.locs, Pt.cells, Pt.slots] at X7 l7 y7 z7 st7 hQ7
  subst l7 y7 z7
  obtain ⟨rfl, Nq7, e7⟩ := hQ7
  have N7 := Fr.app N6 Nq7
  refine Go.step (fun t_ k_ => st7.trans k_) ?_
  show Go p e below _ (T7.setTop (mkF m 39 #[.val (.long p1), .second, .val (.long p2), .second, .val (.long p3), .second, .val (.long p4), .second, .val (.ref b1), .unset, .unset, .unset] [(.long ((0 : Int64) - p2))]))
  refine Go.step (fun t_ k_ => XS.lconst X7.here hx rfl (hb hby at_39) k_) ?_
  show Go p e below _ (T7.setTop (mkF m 40 #[.val (.long p1), .second, .val (.long p2), .second, .val (.long p3), .second, .val (.long p4), .second, .val (.ref b1), .unset, .unset, .unset] [(.long (0 : Int64)), (.long ((0 : Int64) - p2))]))
  refine Go.step (fun t_ k_ => XS.lloadN X7.here hx rfl (hb hby at_40) rfl k_) ?_
  show Go p e below _ (T7.setTop (mkF m 41 #[.val (.long p1), .second, .val (.long p2), .second, .val (.long p3), .second, .val (.long p4), .second, .val (.ref b1), .unset, .unset, .unset] [(.long p2), (.long (0 : Int64)), (.long ((0 : Int64) - p2))]))
  refine Go.step (fun t_ k_ => XS.lsub X7.here hx rfl (hb hby at_41) rfl k_) ?_
  show Go p e below _ (T7.setTop (mkF m 42 #[.val (.long p1), .second, .val (.long p2), .second, .val (.long p3), .second, .val (.long p4), .second, .val (.ref b1), .unset, .unset, .unset] [(.long ((0 : Int64) - p2)), (.long ((0 : Int64) - p2))]))
  refine Go.step (fun t_ k_ => XS.lcmp X7.here hx rfl (hb hby at_42) rfl k_) ?_
  show Go p e below _ (T7.setTop (mkF m 43 #[.val (.long p1), .second, .val (.long p2), .second, .val (.long p3), .second, .val (.long p4), .second, .val (.ref b1), .unset, .unset, .unset] [(.int (lcmpW ((0 : Int64) - p2) ((0 : Int64) - p2)))]))
  have hc43 : (lcmpW ((0 : Int64) - p2) ((0 : Int64) - p2)) = (0 : Int32) := by first | (rw [lw_of_eq (rfl : ((0 : Int64) - p2) = ((0 : Int64) - p2))]; decide) | rw [lw_of_eq (rfl : ((0 : Int64) - p2) = ((0 : Int64) - p2))]
  refine Go.step (fun t_ k_ => XS.ifNo X7.here hx rfl (hb hby at_43) rfl ((if0 _ _).trans (teq hc43).2) k_) ?_
  show Go p e below _ (T7.setTop (mkF m 46 #[.val (.long p1), .second, .val (.long p2), .second, .val (.long p3), .second, .val (.long p4), .second, .val (.ref b1), .unset, .unset, .unset] []))
  refine Go.step (fun t_ k_ => XS.iconst X7.here hx rfl (hb hby at_46) k_) ?_
  show Go p e below _ (T7.setTop (mkF m 47 #[.val (.long p1), .second, .val (.long p2), .second, .val (.long p3), .second, .val (.long p4), .second, .val (.ref b1), .unset, .unset, .unset] [(.int (1 : Int32))]))
  refine Go.step (fun t_ k_ => XS.goto X7.here hx rfl (pc0 := 47) (pc' := 51) rfl (hb hby at_47) (by decide) (by decide) k_) ?_
  show Go p e below _ (T7.setTop (mkF m 51 #[.val (.long p1), .second, .val (.long p2), .second, .val (.long p3), .second, .val (.long p4), .second, .val (.ref b1), .unset, .unset, .unset] [(.int (1 : Int32))]))
  refine Go.step (fun t_ k_ => XS.istore X7.here hx rfl (hb hby at_51) rfl (l' := #[.val (.long p1), .second, .val (.long p2), .second, .val (.long p3), .second, .val (.long p4), .second, .val (.ref b1), .val (.int (1 : Int32)), .unset, .unset]) rfl k_) ?_
  show Go p e below _ (T7.setTop (mkF m 53 #[.val (.long p1), .second, .val (.long p2), .second, .val (.long p3), .second, .val (.long p4), .second, .val (.ref b1), .val (.int (1 : Int32)), .unset, .unset] []))
  refine Go.step (fun t_ k_ => XS.aload X7.here hx rfl (hb hby at_53) rfl rfl k_) ?_
  show Go p e below _ (T7.setTop (mkF m 55 #[.val (.long p1), .second, .val (.long p2), .second, .val (.long p3), .second, .val (.long p4), .second, .val (.ref b1), .val (.int (1 : Int32)), .unset, .unset] [(.ref b1)]))
  refine Go.step (fun t_ k_ => XS.lload X7.here hx rfl (hb hby at_55) rfl k_) ?_
  show Go p e below _ (T7.setTop (mkF m 57 #[.val (.long p1), .second, .val (.long p2), .second, .val (.long p3), .second, .val (.long p4), .second, .val (.ref b1), .val (.int (1 : Int32)), .unset, .unset] [(.long p3), (.ref b1)]))
  refine Go.step (fun t_ k_ => XS.lload X7.here hx rfl (hb hby at_57) rfl k_) ?_
  show Go p e below _ (T7.setTop (mkF m 59 #[.val (.long p1), .second, .val (.long p2), .second, .val (.long p3), .second, .val (.long p4), .second, .val (.ref b1), .val (.int (1 : Int32)), .unset, .unset] [(.long p4), (.long p3), (.ref b1)]))
  obtain ⟨cq8, kq8, q8a, q8b, q8c⟩ := isOf hZ e7 p5_0
  obtain ⟨_, _, ⟨T8, L8, k8, n8⟩, -, X8, ⟨Lc8, hQ8, l8, y8, z8⟩, st8⟩ := X7.virtualBack hx (y := (⟨"com/example/bracketline/bracketline/RestingOrders", "taken", "(JJ)V"⟩ : MethodName)) (z := (⟨"com/example/bracketline/bracketline/RestingOrders", "taken", "(JJ)V"⟩ : MethodName)) hown (mvT hZ (hw _ (List.mem_of_getElem? (i := 18) rfl))) (mvT hZ (hw _ (List.mem_of_getElem? (i := 19) rfl))) (notFace_of_selects (args := #[]) (mvT hZ (hw _ (List.mem_of_getElem? (i := 21) rfl)))) (mvT hZ (hw _ (List.mem_of_getElem? (i := 21) rfl))) (mvT hZ (hw _ (List.mem_of_getElem? (i := 20) rfl))) (by decide) (backOf (W := 0) (am3_2 l Z a0 hw [] a_QUEUE a_RESERVE HW (b1) (p3) (p4) (((0 : Int64) - p1)) (((0 : Int64) - p2)) T5.heap n0 old5 p5_0 p5_1 p5_4 p5_6 p5_7 p5_2 p5_5 p5_3 nn_b1) hZ (hw _ (List.mem_of_getElem? (i := 22) rfl)) (hw _ (List.mem_of_getElem? (i := 2) rfl)) (by decide) (by decide)) q8a q8c (g := (mkF m 59 #[.val (.long p1), .second, .val (.long p2), .second, .val (.long p3), .second, .val (.long p4), .second, .val (.ref b1), .val (.int (1 : Int32)), .unset, .unset] [(.long p4), (.long p3), (.ref b1)])) rfl (by rw [hml]; rfl) (Steps.refl _) (argsL := [(.long p3), (.long p4)]) (rest := []) (lenOf pd_1 rfl) rfl (by show 2 * 0 + _ ≤ _; exact Nat.le_of_eq rfl) (hb hby at_59) (fun _ _ => ⟨rfl, e7, (by decide : 1 + 0 ≤ _), (by decide : 9 + 0 ≤ _)⟩)
  dsimp only [Pt.U, Pt.locs, Pt.cells, Pt.slots] at X8 l8 y8 z8 st8 hQ8
  subst l8 y8 z8
  obtain ⟨rfl, Nq8, K8, p8_0, p8_1, p8_2, p8_3, p8_4, p8_5, p8_6, p8_7⟩ := hQ8
  have old8 := old5.keep K8 (allS nn_b1 all0)
  have kp8 := kp5.trans K8 (allS (Or.inr sz_b1) all0)
  have N8 := Fr.app N7 Nq8
  refine Go.step (fun t_ k_ => st8.trans k_) ?_
  show Go p e below _ (T8.setTop (mkF m 62 #[.val (.long p1), .second, .val (.long p2), .second, .val (.long p3), .second, .val (.long p4), .second, .val (.ref b1), .val (.int (1 : Int32)), .unset, .unset] []))
  refine Go.step (fun t_ k_ => XS.aload X8.here hx rfl (hb hby at_62) rfl rfl k_) ?_
  show Go p e below _ (T8.setTop (mkF m 64 #[.val (.long p1), .second, .val (.long p2), .second, .val (.long p3), .second, .val (.long p4), .second, .val (.ref b1), .val (.int (1 : Int32)), .unset, .unset] [(.ref b1)]))
  obtain ⟨cq9, kq9, q9a, q9b, q9c⟩ := isOf hZ rfl p8_0
  obtain ⟨_, _, ⟨T9, L9, k9, n9⟩, -, X9, ⟨Lc9, hQ9, l9, y9, z9⟩, st9⟩ := X8.virtualBack hx (y := (⟨"com/example/bracketline/bracketline/RestingOrders", "shares", "()J"⟩ : MethodName)) (z := (⟨"com/example/bracketline/bracketline/RestingOrders", "shares", "()J"⟩ : MethodName)) hown (mvT hZ (hw _ (List.mem_of_getElem? (i := 27) rfl))) (mvT hZ (hw _ (List.mem_of_getElem? (i := 28) rfl))) (notFace_of_selects (args := #[]) (mvT hZ (hw _ (List.mem_of_getElem? (i := 30) rfl)))) (mvT hZ (hw _ (List.mem_of_getElem? (i := 30) rfl))) (mvT hZ (hw _ (List.mem_of_getElem? (i := 29) rfl))) (by decide) (backOf (W := 0) (am4_1 l Z a0 hw [] a_QUEUE a_RESERVE HW (b1) ((((0 : Int64) - p1) - p3)) T8.heap n0 old8 p8_6) hZ (hw _ (List.mem_of_getElem? (i := 31) rfl)) (hw _ (List.mem_of_getElem? (i := 2) rfl)) (by decide) (by decide)) q9a q9c (g := (mkF m 64 #[.val (.long p1), .second, .val (.long p2), .second, .val (.long p3), .second, .val (.long p4), .second, .val (.ref b1), .val (.int (1 : Int32)), .unset, .unset] [(.ref b1)])) rfl (by rw [hml]; rfl) (Steps.refl _) (argsL := []) (rest := []) (lenOf pd_2 rfl) rfl (by show 2 * 0 + _ ≤ _; exact Nat.le_of_eq rfl) (hb hby at_64) (fun _ _ => ⟨rfl, rfl, (by decide : 1 + 0 ≤ _), (by decide : 9 + 0 ≤ _)⟩)
  dsimp only [Pt.U, Pt.locs, Pt.cells, Pt.slots] at X9 l9 y9 z9 st9 hQ9
  subst l9 y9 z9
  obtain ⟨rfl, Nq9, e9⟩ := hQ9
  have N9 := Fr.app N8 Nq9
  refine Go.step (fun t_ k_ => st9.trans k_) ?_
  show Go p e below _ (T9.setTop (mkF m 67 #[.val (.long p1), .second, .val (.long p2), .second, .val (.long p3), .second, .val (.long p4), .second, .val (.ref b1), .val (.int (1 : Int32)), .unset, .unset] [(.long (((0 : Int64) - p1) - p3))]))
  refine Go.step (fun t_ k_ => XS.lconst X9.here hx rfl (hb hby at_67) k_) ?_
  show Go p e below _ (T9.setTop (mkF m 68 #[.val (.long p1), .second, .val (.long p2), .second, .val (.long p3), .second, .val (.long p4), .second, .val (.ref b1), .val (.int (1 : Int32)), .unset, .unset] [(.long (0 : Int64)), (.long (((0 : Int64) - p1) - p3))]))
  refine Go.step (fun t_ k_ => XS.lloadN X9.here hx rfl (hb hby at_68) rfl k_) ?_
  show Go p e below _ (T9.setTop (mkF m 69 #[.val (.long p1), .second, .val (.long p2), .second, .val (.long p3), .second, .val (.long p4), .second, .val (.ref b1), .val (.int (1 : Int32)), .unset, .unset] [(.long p1), (.long (0 : Int64)), (.long (((0 : Int64) - p1) - p3))]))
  refine Go.step (fun t_ k_ => XS.lsub X9.here hx rfl (hb hby at_69) rfl k_) ?_
  show Go p e below _ (T9.setTop (mkF m 70 #[.val (.long p1), .second, .val (.long p2), .second, .val (.long p3), .second, .val (.long p4), .second, .val (.ref b1), .val (.int (1 : Int32)), .unset, .unset] [(.long ((0 : Int64) - p1)), (.long (((0 : Int64) - p1) - p3))]))
  refine Go.step (fun t_ k_ => XS.lload X9.here hx rfl (hb hby at_70) rfl k_) ?_
  show Go p e below _ (T9.setTop (mkF m 72 #[.val (.long p1), .second, .val (.long p2), .second, .val (.long p3), .second, .val (.long p4), .second, .val (.ref b1), .val (.int (1 : Int32)), .unset, .unset] [(.long p3), (.long ((0 : Int64) - p1)), (.long (((0 : Int64) - p1) - p3))]))
  refine Go.step (fun t_ k_ => XS.lsub X9.here hx rfl (hb hby at_72) rfl k_) ?_
  show Go p e below _ (T9.setTop (mkF m 73 #[.val (.long p1), .second, .val (.long p2), .second, .val (.long p3), .second, .val (.long p4), .second, .val (.ref b1), .val (.int (1 : Int32)), .unset, .unset] [(.long (((0 : Int64) - p1) - p3)), (.long (((0 : Int64) - p1) - p3))]))
  refine Go.step (fun t_ k_ => XS.lcmp X9.here hx rfl (hb hby at_73) rfl k_) ?_
  show Go p e below _ (T9.setTop (mkF m 74 #[.val (.long p1), .second, .val (.long p2), .second, .val (.long p3), .second, .val (.long p4), .second, .val (.ref b1), .val (.int (1 : Int32)), .unset, .unset] [(.int (lcmpW (((0 : Int64) - p1) - p3) (((0 : Int64) - p1) - p3)))]))
  have hc74 : (lcmpW (((0 : Int64) - p1) - p3) (((0 : Int64) - p1) - p3)) = (0 : Int32) := by first | (rw [lw_of_eq (rfl : (((0 : Int64) - p1) - p3) = (((0 : Int64) - p1) - p3))]; decide) | rw [lw_of_eq (rfl : (((0 : Int64) - p1) - p3) = (((0 : Int64) - p1) - p3))]
  refine Go.step (fun t_ k_ => XS.ifNo X9.here hx rfl (hb hby at_74) rfl ((if0 _ _).trans (teq hc74).2) k_) ?_
  show Go p e below _ (T9.setTop (mkF m 77 #[.val (.long p1), .second, .val (.long p2), .second, .val (.long p3), .second, .val (.long p4), .second, .val (.ref b1), .val (.int (1 : Int32)), .unset, .unset] []))
  refine Go.step (fun t_ k_ => XS.aload X9.here hx rfl (hb hby at_77) rfl rfl k_) ?_
  show Go p e below _ (T9.setTop (mkF m 79 #[.val (.long p1), .second, .val (.long p2), .second, .val (.long p3), .second, .val (.long p4), .second, .val (.ref b1), .val (.int (1 : Int32)), .unset, .unset] [(.ref b1)]))
  obtain ⟨cq10, kq10, q10a, q10b, q10c⟩ := isOf hZ e9 p8_0
  obtain ⟨_, _, ⟨T10, L10, k10, n10⟩, -, X10, ⟨Lc10, hQ10, l10, y10, z10⟩, st10⟩ := X9.virtualBack hx (y := (⟨"com/example/bracketline/bracketline/RestingOrders", "shown", "()J"⟩ : MethodName)) (z := (⟨"com/example/bracketline/bracketline/RestingOrders", "shown", "()J"⟩ : MethodName)) hown (mvT hZ (hw _ (List.mem_of_getElem? (i := 32) rfl))) (mvT hZ (hw _ (List.mem_of_getElem? (i := 33) rfl))) (notFace_of_selects (args := #[]) (mvT hZ (hw _ (List.mem_of_getElem? (i := 35) rfl)))) (mvT hZ (hw _ (List.mem_of_getElem? (i := 35) rfl))) (mvT hZ (hw _ (List.mem_of_getElem? (i := 34) rfl))) (by decide) (backOf (W := 0) (am5_1 l Z a0 hw [] a_QUEUE a_RESERVE HW (b1) ((((0 : Int64) - p2) - p4)) T8.heap n0 old8 p8_7) hZ (hw _ (List.mem_of_getElem? (i := 36) rfl)) (hw _ (List.mem_of_getElem? (i := 2) rfl)) (by decide) (by decide)) q10a q10c (g := (mkF m 79 #[.val (.long p1), .second, .val (.long p2), .second, .val (.long p3), .second, .val (.long p4), .second, .val (.ref b1), .val (.int (1 : Int32)), .unset, .unset] [(.ref b1)])) rfl (by rw [hml]; rfl) (Steps.refl _) (argsL := []) (rest := []) (lenOf pd_2 rfl) rfl (by show 2 * 0 + _ ≤ _; exact Nat.le_of_eq rfl) (hb hby at_79) (fun _ _ => ⟨rfl, e9, (by decide : 1 + 0 ≤ _), (by decide : 9 + 0 ≤ _)⟩)
  dsimp only [Pt.U, Pt.locs, Pt.cells, Pt.slots] at X10 l10 y10 z10 st10 hQ10
  subst l10 y10 z10
  obtain ⟨rfl, Nq10, e10⟩ := hQ10
  have N10 := Fr.app N9 Nq10
  refine Go.step (fun t_ k_ => st10.trans k_) ?_
  show Go p e below _ (T10.setTop (mkF m 82 #[.val (.long p1), .second, .val (.long p2), .second, .val (.long p3), .second, .val (.long p4), .second, .val (.ref b1), .val (.int (1 : Int32)), .unset, .unset] [(.long (((0 : Int64) - p2) - p4))]))
  refine Go.step (fun t_ k_ => XS.lconst X10.here hx rfl (hb hby at_82) k_) ?_
  show Go p e below _ (T10.setTop (mkF m 83 #[.val (.long p1), .second, .val (.long p2), .second, .val (.long p3), .second, .val (.long p4), .second, .val (.ref b1), .val (.int (1 : Int32)), .unset, .unset] [(.long (0 : Int64)), (.long (((0 : Int64) - p2) - p4))]))
  refine Go.step (fun t_ k_ => XS.lloadN X10.here hx rfl (hb hby at_83) rfl k_) ?_
  show Go p e below _ (T10.setTop (mkF m 84 #[.val (.long p1), .second, .val (.long p2), .second, .val (.long p3), .second, .val (.long p4), .second, .val (.ref b1), .val (.int (1 : Int32)), .unset, .unset] [(.long p2), (.long (0 : Int64)), (.long (((0 : Int64) - p2) - p4))]))
  refine Go.step (fun t_ k_ => XS.lsub X10.here hx rfl (hb hby at_84) rfl k_) ?_
  show Go p e below _ (T10.setTop (mkF m 85 #[.val (.long p1), .second, .val (.long p2), .second, .val (.long p3), .second, .val (.long p4), .second, .val (.ref b1), .val (.int (1 : Int32)), .unset, .unset] [(.long ((0 : Int64) - p2)), (.long (((0 : Int64) - p2) - p4))]))
  refine Go.step (fun t_ k_ => XS.lload X10.here hx rfl (hb hby at_85) rfl k_) ?_
  show Go p e below _ (T10.setTop (mkF m 87 #[.val (.long p1), .second, .val (.long p2), .second, .val (.long p3), .second, .val (.long p4), .second, .val (.ref b1), .val (.int (1 : Int32)), .unset, .unset] [(.long p4), (.long ((0 : Int64) - p2)), (.long (((0 : Int64) - p2) - p4))]))
  refine Go.step (fun t_ k_ => XS.lsub X10.here hx rfl (hb hby at_87) rfl k_) ?_
  show Go p e below _ (T10.setTop (mkF m 88 #[.val (.long p1), .second, .val (.long p2), .second, .val (.long p3), .second, .val (.long p4), .second, .val (.ref b1), .val (.int (1 : Int32)), .unset, .unset] [(.long (((0 : Int64) - p2) - p4)), (.long (((0 : Int64) - p2) - p4))]))
  refine Go.step (fun t_ k_ => XS.lcmp X10.here hx rfl (hb hby at_88) rfl k_) ?_
  show Go p e below _ (T10.setTop (mkF m 89 #[.val (.long p1), .second, .val (.long p2), .second, .val (.long p3), .second, .val (.long p4), .second, .val (.ref b1), .val (.int (1 : Int32)), .unset, .unset] [(.int (lcmpW (((0 : Int64) - p2) - p4) (((0 : Int64) - p2) - p4)))]))
  have hc89 : (lcmpW (((0 : Int64) - p2) - p4) (((0 : Int64) - p2) - p4)) = (0 : Int32) := by first | (rw [lw_of_eq (rfl : (((0 : Int64) - p2) - p4) = (((0 : Int64) - p2) - p4))]; decide) | rw [lw_of_eq (rfl : (((0 : Int64) - p2) - p4) = (((0 : Int64) - p2) - p4))]
  refine Go.step (fun t_ k_ => XS.ifNo X10.here hx rfl (hb hby at_89) rfl ((if0 _ _).trans (teq hc89).2) k_) ?_
  show Go p e below _ (T10.setTop (mkF m 92 #[.val (.long p1), .second, .val (.long p2), .second, .val (.long p3), .second, .val (.long p4), .second, .val (.ref b1), .val (.int (1 : Int32)), .unset, .unset] []))
  refine Go.step (fun t_ k_ => XS.iconst X10.here hx rfl (hb hby at_92) k_) ?_
  show Go p e below _ (T10.setTop (mkF m 93 #[.val (.long p1), .second, .val (.long p2), .second, .val (.long p3), .second, .val (.long p4), .second, .val (.ref b1), .val (.int (1 : Int32)), .unset, .unset] [(.int (1 : Int32))]))
  refine Go.step (fun t_ k_ => XS.goto X10.here hx rfl (pc0 := 93) (pc' := 97) rfl (hb hby at_93) (by decide) (by decide) k_) ?_
  show Go p e below _ (T10.setTop (mkF m 97 #[.val (.long p1), .second, .val (.long p2), .second, .val (.long p3), .second, .val (.long p4), .second, .val (.ref b1), .val (.int (1 : Int32)), .unset, .unset] [(.int (1 : Int32))]))
  refine Go.step (fun t_ k_ => XS.istore X10.here hx rfl (hb hby at_97) rfl (l' := #[.val (.long p1), .second, .val (.long p2), .second, .val (.long p3), .second, .val (.long p4), .second, .val (.ref b1), .val (.int (1 : Int32)), .val (.int (1 : Int32)), .unset]) rfl k_) ?_
  show Go p e below _ (T10.setTop (mkF m 99 #[.val (.long p1), .second, .val (.long p2), .second, .val (.long p3), .second, .val (.long p4), .second, .val (.ref b1), .val (.int (1 : Int32)), .val (.int (1 : Int32)), .unset] []))
  refine Go.step (fun t_ k_ => XS.aload X10.here hx rfl (hb hby at_99) rfl rfl k_) ?_
  show Go p e below _ (T10.setTop (mkF m 101 #[.val (.long p1), .second, .val (.long p2), .second, .val (.long p3), .second, .val (.long p4), .second, .val (.ref b1), .val (.int (1 : Int32)), .val (.int (1 : Int32)), .unset] [(.ref b1)]))
  obtain ⟨cq11, kq11, q11a, q11b, q11c⟩ := isOf hZ e10 p8_0
  obtain ⟨_, _, ⟨T11, L11, k11, n11⟩, -, X11, ⟨Lc11, hQ11, l11, y11, z11⟩, st11⟩ := X10.virtualBack hx (y := (⟨"com/example/bracketline/bracketline/RestingOrders", "isEmpty", "()Z"⟩ : MethodName)) (z := (⟨"com/example/bracketline/bracketline/RestingOrders", "isEmpty", "()Z"⟩ : MethodName)) hown (mvT hZ (hw _ (List.mem_of_getElem? (i := 37) rfl))) (mvT hZ (hw _ (List.mem_of_getElem? (i := 38) rfl))) (notFace_of_selects (args := #[]) (mvT hZ (hw _ (List.mem_of_getElem? (i := 40) rfl)))) (mvT hZ (hw _ (List.mem_of_getElem? (i := 40) rfl))) (mvT hZ (hw _ (List.mem_of_getElem? (i := 39) rfl))) (by decide) (backOf (W := 0) (am6_1 l Z a0 hw [] a_QUEUE a_RESERVE HW (b1) T8.heap n0 old8 p8_2 p8_5) hZ (hw _ (List.mem_of_getElem? (i := 41) rfl)) (hw _ (List.mem_of_getElem? (i := 2) rfl)) (by decide) (by decide)) q11a q11c (g := (mkF m 101 #[.val (.long p1), .second, .val (.long p2), .second, .val (.long p3), .second, .val (.long p4), .second, .val (.ref b1), .val (.int (1 : Int32)), .val (.int (1 : Int32)), .unset] [(.ref b1)])) rfl (by rw [hml]; rfl) (Steps.refl _) (argsL := []) (rest := []) (lenOf pd_3 rfl) rfl (by show 2 * 0 + _ ≤ _; exact Nat.le_of_eq rfl) (hb hby at_101) (fun _ _ => ⟨rfl, e10, (by decide : 1 + 0 ≤ _), (by decide : 9 + 0 ≤ _)⟩)
  dsimp only [Pt.U, Pt.locs, Pt.cells, Pt.slots] at X11 l11 y11 z11 st11 hQ11
  subst l11 y11 z11
  obtain ⟨rfl, Nq11, e11⟩ := hQ11
  have N11 := Fr.app N10 Nq11
  refine Go.step (fun t_ k_ => st11.trans k_) ?_
  show Go p e below _ (T11.setTop (mkF m 104 #[.val (.long p1), .second, .val (.long p2), .second, .val (.long p3), .second, .val (.long p4), .second, .val (.ref b1), .val (.int (1 : Int32)), .val (.int (1 : Int32)), .unset] [(.int (1 : Int32))]))
  have hc104 : ¬ ((1 : Int32) = (0 : Int32)) := by decide
  refine Go.step (fun t_ k_ => XS.ifNo X11.here hx rfl (hb hby at_104) rfl ((if0 _ _).trans (feq hc104).1) k_) ?_
  show Go p e below _ (T11.setTop (mkF m 107 #[.val (.long p1), .second, .val (.long p2), .second, .val (.long p3), .second, .val (.long p4), .second, .val (.ref b1), .val (.int (1 : Int32)), .val (.int (1 : Int32)), .unset] []))
  refine Go.step (fun t_ k_ => XS.aload X11.here hx rfl (hb hby at_107) rfl rfl k_) ?_
  show Go p e below _ (T11.setTop (mkF m 109 #[.val (.long p1), .second, .val (.long p2), .second, .val (.long p3), .second, .val (.long p4), .second, .val (.ref b1), .val (.int (1 : Int32)), .val (.int (1 : Int32)), .unset] [(.ref b1)]))
  obtain ⟨cq12, kq12, q12a, q12b, q12c⟩ := isOf hZ e11 p8_0
  obtain ⟨_, _, ⟨T12, L12, k12, n12⟩, -, X12, ⟨Lc12, hQ12, l12, y12, z12⟩, st12⟩ := X11.virtualBack hx (y := (⟨"com/example/bracketline/bracketline/RestingOrders", "displayedOrders", "()I"⟩ : MethodName)) (z := (⟨"com/example/bracketline/bracketline/RestingOrders", "displayedOrders", "()I"⟩ : MethodName)) hown (mvT hZ (hw _ (List.mem_of_getElem? (i := 46) rfl))) (mvT hZ (hw _ (List.mem_of_getElem? (i := 47) rfl))) (notFace_of_selects (args := #[]) (mvT hZ (hw _ (List.mem_of_getElem? (i := 49) rfl)))) (mvT hZ (hw _ (List.mem_of_getElem? (i := 49) rfl))) (mvT hZ (hw _ (List.mem_of_getElem? (i := 48) rfl))) (by decide) (backOf (W := 0) (am7_1 l Z a0 hw [] a_QUEUE a_RESERVE HW (b1) T8.heap n0 old8 p8_3) hZ (hw _ (List.mem_of_getElem? (i := 50) rfl)) (hw _ (List.mem_of_getElem? (i := 2) rfl)) (by decide) (by decide)) q12a q12c (g := (mkF m 109 #[.val (.long p1), .second, .val (.long p2), .second, .val (.long p3), .second, .val (.long p4), .second, .val (.ref b1), .val (.int (1 : Int32)), .val (.int (1 : Int32)), .unset] [(.ref b1)])) rfl (by rw [hml]; rfl) (Steps.refl _) (argsL := []) (rest := []) (lenOf pd_4 rfl) rfl (by show 2 * 0 + _ ≤ _; exact Nat.le_of_eq rfl) (hb hby at_109) (fun _ _ => ⟨rfl, e11, (by decide : 1 + 0 ≤ _), (by decide : 9 + 0 ≤ _)⟩)
  dsimp only [Pt.U, Pt.locs, Pt.cells, Pt.slots] at X12 l12 y12 z12 st12 hQ12
  subst l12 y12 z12
  obtain ⟨rfl, Nq12, e12⟩ := hQ12
  have N12 := Fr.app N11 Nq12
  refine Go.step (fun t_ k_ => st12.trans k_) ?_
  show Go p e below _ (T12.setTop (mkF m 112 #[.val (.long p1), .second, .val (.long p2), .second, .val (.long p3), .second, .val (.long p4), .second, .val (.ref b1), .val (.int (1 : Int32)), .val (.int (1 : Int32)), .unset] [(.int (0 : Int32))]))
  have hc112 : (0 : Int32) = (0 : Int32) := by decide
  refine Go.step (fun t_ k_ => XS.ifNo X12.here hx rfl (hb hby at_112) rfl ((if0 _ _).trans (teq hc112).2) k_) ?_
  show Go p e below _ (T12.setTop (mkF m 115 #[.val (.long p1), .second, .val (.long p2), .second, .val (.long p3), .second, .val (.long p4), .second, .val (.ref b1), .val (.int (1 : Int32)), .val (.int (1 : Int32)), .unset] []))
  refine Go.step (fun t_ k_ => XS.aload X12.here hx rfl (hb hby at_115) rfl rfl k_) ?_
  show Go p e below _ (T12.setTop (mkF m 117 #[.val (.long p1), .second, .val (.long p2), .second, .val (.long p3), .second, .val (.long p4), .second, .val (.ref b1), .val (.int (1 : Int32)), .val (.int (1 : Int32)), .unset] [(.ref b1)]))
  obtain ⟨cq13, kq13, q13a, q13b, q13c⟩ := isOf hZ e12 p8_0
  obtain ⟨_, _, ⟨T13, L13, k13, n13⟩, -, X13, ⟨Lc13, hQ13, l13, y13, z13⟩, st13⟩ := X12.virtualBack hx (y := (⟨"com/example/bracketline/bracketline/RestingOrders", "firstDisplayed", "()Lcom/example/bracketline/bracketline/Order;"⟩ : MethodName)) (z := (⟨"com/example/bracketline/bracketline/RestingOrders", "firstDisplayed", "()Lcom/example/bracketline/bracketline/Order;"⟩ : MethodName)) hown (mvT hZ (hw _ (List.mem_of_getElem? (i := 53) rfl))) (mvT hZ (hw _ (List.mem_of_getElem? (i := 54) rfl))) (notFace_of_selects (args := #[]) (mvT hZ (hw _ (List.mem_of_getElem? (i := 56) rfl)))) (mvT hZ (hw _ (List.mem_of_getElem? (i := 56) rfl))) (mvT hZ (hw _ (List.mem_of_getElem? (i := 55) rfl))) (by decide) (backOf (W := 0) (am8_1 l Z a0 hw [] a_QUEUE a_RESERVE HW (b1) T8.heap n0 old8 p8_2) hZ (hw _ (List.mem_of_getElem? (i := 57) rfl)) (hw _ (List.mem_of_getElem? (i := 2) rfl)) (by decide) (by decide)) q13a q13c (g := (mkF m 117 #[.val (.long p1), .second, .val (.long p2), .second, .val (.long p3), .second, .val (.long p4), .second, .val (.ref b1), .val (.int (1 : Int32)), .val (.int (1 : Int32)), .unset] [(.ref b1)])) rfl (by rw [hml]; rfl) (Steps.refl _) (argsL := []) (rest := []) (lenOf pd_5 rfl) rfl (by show 2 * 0 + _ ≤ _; exact Nat.le_of_eq rfl) (hb hby at_117) (fun _ _ => ⟨rfl, e12, (by decide : 1 + 0 ≤ _), (by decide : 9 + 0 ≤ _)⟩)
  dsimp only [Pt.U, Pt.locs, Pt.cells, Pt.slots] at X13 l13 y13 z13 st13 hQ13
  subst l13 y13 z13
  obtain ⟨rfl, Nq13, e13⟩ := hQ13
  have N13 := Fr.app N12 Nq13
  refine Go.step (fun t_ k_ => st13.trans k_) ?_
  show Go p e below _ (T13.setTop (mkF m 120 #[.val (.long p1), .second, .val (.long p2), .second, .val (.long p3), .second, .val (.long p4), .second, .val (.ref b1), .val (.int (1 : Int32)), .val (.int (1 : Int32)), .unset] [.null]))
  refine Go.step (fun t_ k_ => XS.ifnonnullNo X13.here hx rfl (hb hby at_120) rfl k_) ?_
  show Go p e below _ (T13.setTop (mkF m 123 #[.val (.long p1), .second, .val (.long p2), .second, .val (.long p3), .second, .val (.long p4), .second, .val (.ref b1), .val (.int (1 : Int32)), .val (.int (1 : Int32)), .unset] []))
  refine Go.step (fun t_ k_ => XS.iconst X13.here hx rfl (hb hby at_123) k_) ?_
  show Go p e below _ (T13.setTop (mkF m 124 #[.val (.long p1), .second, .val (.long p2), .second, .val (.long p3), .second, .val (.long p4), .second, .val (.ref b1), .val (.int (1 : Int32)), .val (.int (1 : Int32)), .unset] [(.int (1 : Int32))]))
  refine Go.step (fun t_ k_ => XS.goto X13.here hx rfl (pc0 := 124) (pc' := 128) rfl (hb hby at_124) (by decide) (by decide) k_) ?_
  show Go p e below _ (T13.setTop (mkF m 128 #[.val (.long p1), .second, .val (.long p2), .second, .val (.long p3), .second, .val (.long p4), .second, .val (.ref b1), .val (.int (1 : Int32)), .val (.int (1 : Int32)), .unset] [(.int (1 : Int32))]))
  refine Go.step (fun t_ k_ => XS.istore X13.here hx rfl (hb hby at_128) rfl (l' := #[.val (.long p1), .second, .val (.long p2), .second, .val (.long p3), .second, .val (.long p4), .second, .val (.ref b1), .val (.int (1 : Int32)), .val (.int (1 : Int32)), .val (.int (1 : Int32))]) rfl k_) ?_
  show Go p e below _ (T13.setTop (mkF m 130 #[.val (.long p1), .second, .val (.long p2), .second, .val (.long p3), .second, .val (.long p4), .second, .val (.ref b1), .val (.int (1 : Int32)), .val (.int (1 : Int32)), .val (.int (1 : Int32))] []))
  refine Go.step (fun t_ k_ => XS.iload X13.here hx rfl (hb hby at_130) rfl k_) ?_
  show Go p e below _ (T13.setTop (mkF m 132 #[.val (.long p1), .second, .val (.long p2), .second, .val (.long p3), .second, .val (.long p4), .second, .val (.ref b1), .val (.int (1 : Int32)), .val (.int (1 : Int32)), .val (.int (1 : Int32))] [(.int (1 : Int32))]))
  have hc132 : ¬ ((1 : Int32) = (0 : Int32)) := by decide
  refine Go.step (fun t_ k_ => XS.ifNo X13.here hx rfl (hb hby at_132) rfl ((if0 _ _).trans (feq hc132).1) k_) ?_
  show Go p e below _ (T13.setTop (mkF m 135 #[.val (.long p1), .second, .val (.long p2), .second, .val (.long p3), .second, .val (.long p4), .second, .val (.ref b1), .val (.int (1 : Int32)), .val (.int (1 : Int32)), .val (.int (1 : Int32))] []))
  refine Go.step (fun t_ k_ => XS.iload X13.here hx rfl (hb hby at_135) rfl k_) ?_
  show Go p e below _ (T13.setTop (mkF m 137 #[.val (.long p1), .second, .val (.long p2), .second, .val (.long p3), .second, .val (.long p4), .second, .val (.ref b1), .val (.int (1 : Int32)), .val (.int (1 : Int32)), .val (.int (1 : Int32))] [(.int (1 : Int32))]))
  have hc137 : ¬ ((1 : Int32) = (0 : Int32)) := by decide
  refine Go.step (fun t_ k_ => XS.ifNo X13.here hx rfl (hb hby at_137) rfl ((if0 _ _).trans (feq hc137).1) k_) ?_
  show Go p e below _ (T13.setTop (mkF m 140 #[.val (.long p1), .second, .val (.long p2), .second, .val (.long p3), .second, .val (.long p4), .second, .val (.ref b1), .val (.int (1 : Int32)), .val (.int (1 : Int32)), .val (.int (1 : Int32))] []))
  refine Go.step (fun t_ k_ => XS.iload X13.here hx rfl (hb hby at_140) rfl k_) ?_
  show Go p e below _ (T13.setTop (mkF m 142 #[.val (.long p1), .second, .val (.long p2), .second, .val (.long p3), .second, .val (.long p4), .second, .val (.ref b1), .val (.int (1 : Int32)), .val (.int (1 : Int32)), .val (.int (1 : Int32))] [(.int (1 : Int32))]))
  have hc142 : ¬ ((1 : Int32) = (0 : Int32)) := by decide
  refine Go.step (fun t_ k_ => XS.ifNo X13.here hx rfl (hb hby at_142) rfl ((if0 _ _).trans (feq hc142).1) k_) ?_
  show Go p e below _ (T13.setTop (mkF m 145 #[.val (.long p1), .second, .val (.long p2), .second, .val (.long p3), .second, .val (.long p4), .second, .val (.ref b1), .val (.int (1 : Int32)), .val (.int (1 : Int32)), .val (.int (1 : Int32))] []))
  refine Go.step (fun t_ k_ => XS.iconst X13.here hx rfl (hb hby at_145) k_) ?_
  show Go p e below _ (T13.setTop (mkF m 146 #[.val (.long p1), .second, .val (.long p2), .second, .val (.long p3), .second, .val (.long p4), .second, .val (.ref b1), .val (.int (1 : Int32)), .val (.int (1 : Int32)), .val (.int (1 : Int32))] [(.int (1 : Int32))]))
  refine Go.step (fun t_ k_ => XS.goto X13.here hx rfl (pc0 := 146) (pc' := 150) rfl (hb hby at_146) (by decide) (by decide) k_) ?_
  show Go p e below _ (T13.setTop (mkF m 150 #[.val (.long p1), .second, .val (.long p2), .second, .val (.long p3), .second, .val (.long p4), .second, .val (.ref b1), .val (.int (1 : Int32)), .val (.int (1 : Int32)), .val (.int (1 : Int32))] [(.int (1 : Int32))]))
  refine Go.retZ X13 hx (t := .boolean) Bd.returns (by simp) Bd.notSynchronized (hb hby at_150) (by rw [e13]; exact ⟨rfl, N13⟩) (by decide) (by decide)
set_option maxRecDepth 65536 in
set_option maxHeartbeats 40000000 in
theorem comes_1 {Post : Tables → Env → Array Value → State → Outcome → State → Prop} (hpost : ∀ tb e args s v u, (limb_1_1.after args s (.returned v) u = true ∧ limb_1_2.after args s (.returned v) u = true ∧ True) → FrameEnd s (.returned v) u (Jvm.fieldLocs frame_1_writes args s ++ Jvm.arrayLocs frame_1_arrays args s ++ Jvm.staticLocs frame_1_statics s) 16 128 → Post tb e args s (.returned v) u) :
    ArmFor flags0 classFile x code maxLocals ret World_1 tables_1 room_1 Calls_1 rest_1 Pre_1 Post := by
  intro l hfl _ _ p e ha hc hk s m args below hf hA hF happ hP
  obtain ⟨hcalls, hrest, hpre⟩ := hP
  obtain ⟨-, -, -, hnamed, -, -, -, hat⟩ := (Spec.applies_iff hf).mp happ
  obtain ⟨hg, hn⟩ := and_e (Cond.before_iff.mp (show (Jvm.Cond.and given_1 narrow_1).before args s = true from hpre))
  obtain ⟨hgl, hgr⟩ := and_e hg
  obtain ⟨hgrl, hgrr⟩ := and_e hgr
  obtain ⟨hgrrl, hgrrr⟩ := and_e hgrr
  obtain ⟨hgrrrl, hgrrrr⟩ := and_e hgrrr
  obtain ⟨w0, w1, w2, w3, rfl⟩ : ∃ w0 w1 w2 w3 : Value, args = #[w0, w1, w2, w3] := by
    have hs : args.size = 4 := by simpa [Cond.value, given_1] using hgl
    obtain ⟨L⟩ := args
    match L, hs with
    | [w0, w1, w2, w3], _ => exact ⟨w0, w1, w2, w3, rfl⟩
  have hw := fun d (hd : d ∈ tables_1) => atoms_spec (ws := Jvm.Cond.code x code maxLocals ret :: tables_1) hat d (List.mem_cons_of_mem _ hd)
  have hfit : Fit s := fun {y c} hc i hi => by
    obtain ⟨ha, rfl⟩ := Array.getElem?_eq_some_iff.mp hc
    have q := List.all_eq_true.mp ((Array.all_eq_true_iff_forall_mem.mp hF) _ (Array.getElem_mem ha)) i (List.mem_range.mpr hi)
    simpa [Array.getElem?_eq_getElem hi] using q
  obtain ⟨i0, ei0⟩ := isL_v hgrl
  obtain rfl : w0 = (.long i0) := Option.some.inj ei0
  obtain ⟨i1, ei1⟩ := isL_v hgrrl
  obtain rfl : w1 = (.long i1) := Option.some.inj ei1
  obtain ⟨i2, ei2⟩ := isL_v hgrrrl
  obtain rfl : w2 = (.long i2) := Option.some.inj ei2
  obtain ⟨i3, ei3⟩ := isL_v hgrrrr
  obtain rfl : w3 = (.long i3) := Option.some.inj ei3
  obtain ⟨hnl, hnr⟩ := and_e hn
  obtain ⟨a_QUEUE, ev_QUEUE⟩ := exa_v hnl
  obtain ⟨a_RESERVE, ev_RESERVE⟩ := exa_v hnr
  have HW : Wd s a_QUEUE a_RESERVE := ⟨Sta.start ev_QUEUE (Or.inr ⟨(hw _ (List.mem_of_getElem? (i := 4) rfl)), (hw _ (List.mem_of_getElem? (i := 5) rfl))⟩), Exa.start ev_QUEUE hnl, Sta.start ev_RESERVE (Or.inr ⟨(hw _ (List.mem_of_getElem? (i := 4) rfl)), (hw _ (List.mem_of_getElem? (i := 7) rfl))⟩), Exa.start ev_RESERVE hnr⟩
  obtain ⟨n, o, h1, h2, h3, _, L, rfl, ⟨rfl, N⟩, hq⟩ := rm0 l s _ hw tables_1 a_QUEUE a_RESERVE HW i0 i1 i2 i3 s.heap s.heap.size (Old.start s)  p e ha hc hk s m _ below hf ((Spec.applies_iff_loose hf).mp happ).1 ⟨rfl, State.Warmed39.refl s, rfl⟩ trivial
  refine ⟨n, _, h1, h2, h3, hpost _ _ _ _ _ _ ⟨Cond.after_iff.mpr rfl, Cond.after_iff.mpr (eq_i res_at (Term.int_eval (1)) rfl), trivial⟩ ⟨hq.1, hq.2.1, (hq.2.2.sift fun y hy => Or.inr (N y hy)).mono (by decide) (by decide)⟩⟩
theorem main_1_1 : Claimed_1_1 := comes_1 fun _ _ _ _ _ _ h hF => ⟨h.1, hF⟩
theorem main_1_2 : Claimed_1_2 := comes_1 fun _ _ _ _ _ _ h hF => ⟨h.2.1, hF⟩
end Jvm.Pilot.@@N@@
namespace Jvm.Pilot.@@N@@
open Jvm Jvm.ClassFile Sem Op Lib Jvm.Free Jvm.Stand Jvm.Pilot.@@N@@.Jvm.D
/-! MADE BY PROGRAM (witnessworld.py) out of the Statement's table words and the real class files: 13 classes; the members and pool entries that the words name. The judged class is class 1, her method 1. -/
namespace start1
open Jvm.ClassFile
def u (s : String) : CpInfo := .utf8 (stringToUtf16 s)
/-- a pool by its gaps: so many unusable entries, then the entry; so many at the end -/
def gap : Nat → List CpInfo → List CpInfo
  | 0, r => r
  | n + 1, r => .unusable :: gap n r
def poolList (es : List (Nat × CpInfo)) (last : Nat) : List CpInfo := es.foldr (fun e r => gap e.1 (e.2 :: r)) (gap last [])
def pool (es : List (Nat × CpInfo)) (last : Nat) : Array CpInfo := ⟨poolList es last⟩
def fileOf (pool : Array CpInfo) (this : Nat) (attrs : Array Attribute := #[]) (ms : Array MethodInfo := #[]) (fl : Nat := 33) (sup : Nat := 0) (ifs : Array Nat := #[]) (fds : Array FieldInfo := #[]) : ClassFile where
  minorVersion := 0
  majorVersion := 65
  constantPool := pool
  accessFlags := fl
  thisClass := this
  superClass := sup
  interfaces := ifs
  fields := fds
  methods := ms
  attributes := attrs
def plain (name : String) (sup : Option ClassId) : Class where
  name := name
  kind := .ordinary
  loader := none
  accessFlags := 33
  super := sup
  interfaces := #[]
  cf := none
  fields := #[]
  methods := #[]
  instanceTypes := #[]
  staticTypes := #[]
  resolved := #[]
  callSites := []
  init := .initialized
  statics := none
  mirror := none

def pool0 : Array CpInfo := pool [(5, u "<init>"), (0, u "()V"), (1, .class_ 10), (1, u "java/lang/Object")] 113

def k0c0 : Code := { maxStack := 0, maxLocals := 1, code := object_method_1_code, exceptionTable := #[], attributes := #[] }
def k0m0 : Method := { name := "<init>", desc := "()V", sig := { parameters := [], returnType := none }, accessFlags := 1, code := some k0c0 }
/-- java/lang/Object -/
def k0 : Class := { plain "java/lang/Object" none with
  accessFlags := 33
  interfaces := #[]
  cf := some (fileOf pool0 8 #[] #[{ accessFlags := 1, nameIndex := 5, descriptorIndex := 6, attributes := #[] }] 33 0 #[] #[])
  fields := #[]
  methods := #[k0m0]
  instanceTypes := #[]
  staticTypes := #[]
  resolved := Array.replicate 124 none
  statics := none }

def pool1 : Array CpInfo := pool [(2, .class_ 4), (1, u "java/lang/Object"), (0, u "<init>"), (0, u "()V"), (0, .class_ 8), (0, u "com/example/bracketline/bracketline/RestingOrders"), (0, .fieldref 10 11), (0, .class_ 12), (0, .nameAndType 13 14), (0, u "com/example/bracketline/bracketline/OrderChain"), (0, u "QUEUE"), (0, u "Lcom/example/bracketline/bracketline/OrderChain;"), (0, .fieldref 10 16), (0, .nameAndType 17 14), (0, u "RESERVE"), (0, .methodref 7 19), (0, .nameAndType 5 20), (0, u "(Lcom/example/bracketline/bracketline/OrderChain;Lcom/example/bracketline/bracketline/OrderChain;)V"), (0, .methodref 7 22), (0, .nameAndType 23 24), (0, u "taken"), (0, u "(JJ)V"), (0, .methodref 7 26), (0, .nameAndType 27 28), (0, u "shares"), (0, u "()J"), (0, .methodref 7 30), (0, .nameAndType 31 28), (0, u "shown"), (0, .methodref 7 33), (0, .nameAndType 34 35), (0, u "isEmpty"), (0, u "()Z"), (0, .methodref 7 37), (0, .nameAndType 38 39), (0, u "displayedOrders"), (0, u "()I"), (0, .methodref 7 41), (0, .nameAndType 42 43), (0, u "firstDisplayed"), (0, u "()Lcom/example/bracketline/bracketline/Order;"), (0, .class_ 45), (0, u "com/example/bracketline/bracketline/RestingOrdersTakenPinLaw"), (2, u "law"), (0, u "(JJJJ)Z")] 3

def k1m0 : Method := { name := "<init>", desc := "()V", sig := { parameters := [], returnType := none }, accessFlags := 1, code := none }
def k1c1 : Code := { maxStack := 6, maxLocals := 12, code := code, exceptionTable := #[], attributes := #[] }
def k1m1 : Method := { name := "law", desc := "(JJJJ)Z", sig := { parameters := [.long, .long, .long, .long], returnType := some .boolean }, accessFlags := 9, code := some k1c1 }
/-- com/example/bracketline/bracketline/RestingOrdersTakenPinLaw -/
def k1 : Class := { plain "com/example/bracketline/bracketline/RestingOrdersTakenPinLaw" (some 0) with
  accessFlags := 49
  interfaces := #[]
  cf := some (fileOf pool1 44 #[] #[{ accessFlags := 1, nameIndex := 5, descriptorIndex := 6, attributes := #[] }, { accessFlags := 9, nameIndex := 48, descriptorIndex := 49, attributes := #[] }] 49 2 #[] #[])
  fields := #[]
  methods := #[k1m0, k1m1]
  instanceTypes := #[]
  staticTypes := #[]
  resolved := Array.replicate 53 none
  statics := none }

def pool2 : Array CpInfo := pool [(1, .methodref 2 3), (0, .class_ 4), (0, .nameAndType 5 6), (0, u "java/lang/Object"), (0, u "<init>"), (0, u "()V"), (0, .fieldref 8 9), (0, .class_ 10), (0, .nameAndType 11 12), (0, u "com/example/bracketline/bracketline/RestingOrders"), (0, u "queue"), (0, u "Lcom/example/bracketline/bracketline/OrderChain;"), (0, .fieldref 8 14), (0, .nameAndType 15 12), (0, u "reserve"), (0, .fieldref 8 17), (0, .nameAndType 18 19), (0, u "shares"), (0, u "J"), (0, .fieldref 8 21), (0, .nameAndType 22 19), (0, u "shown"), (0, .fieldref 8 24), (0, .nameAndType 25 26), (0, u "queueFirst"), (0, u "Lcom/example/bracketline/bracketline/Order;"), (0, .fieldref 8 28), (0, .nameAndType 29 26), (0, u "reserveFirst"), (0, .fieldref 8 31), (0, .nameAndType 32 33), (0, u "queued"), (0, u "I"), (41, u "()Z"), (17, u "BY_ENTRY"), (0, u "Ljava/util/Comparator;"), (17, u "()J"), (5, u "BY_QUEUE_PLACE"), (8, u "reserveLast"), (8, u "queueLast"), (17, u "(Lcom/example/bracketline/bracketline/OrderChain;Lcom/example/bracketline/bracketline/OrderChain;)V"), (2, u "isEmpty"), (1, u "displayedOrders"), (0, u "()I"), (0, u "firstDisplayed"), (0, u "()Lcom/example/bracketline/bracketline/Order;"), (9, u "taken"), (0, u "(JJ)V")] 35

def k2c0 : Code := { maxStack := 2, maxLocals := 3, code := prog_25_method_1_code, exceptionTable := #[], attributes := #[] }
def k2m0 : Method := { name := "<init>", desc := "(Lcom/example/bracketline/bracketline/OrderChain;Lcom/example/bracketline/bracketline/OrderChain;)V", sig := { parameters := [(.object "com/example/bracketline/bracketline/OrderChain"), (.object "com/example/bracketline/bracketline/OrderChain")], returnType := none }, accessFlags := 0, code := some k2c0 }
def k2c1 : Code := { maxStack := 2, maxLocals := 1, code := prog_25_method_2_code, exceptionTable := #[], attributes := #[] }
def k2m1 : Method := { name := "shares", desc := "()J", sig := { parameters := [], returnType := some .long }, accessFlags := 0, code := some k2c1 }
def k2c2 : Code := { maxStack := 2, maxLocals := 1, code := prog_25_method_3_code, exceptionTable := #[], attributes := #[] }
def k2m2 : Method := { name := "shown", desc := "()J", sig := { parameters := [], returnType := some .long }, accessFlags := 0, code := some k2c2 }
def k2c3 : Code := { maxStack := 1, maxLocals := 1, code := prog_25_method_4_code, exceptionTable := #[], attributes := #[] }
def k2m3 : Method := { name := "isEmpty", desc := "()Z", sig := { parameters := [], returnType := some .boolean }, accessFlags := 0, code := some k2c3 }
def k2c4 : Code := { maxStack := 1, maxLocals := 1, code := prog_25_method_5_code, exceptionTable := #[], attributes := #[] }
def k2m4 : Method := { name := "displayedOrders", desc := "()I", sig := { parameters := [], returnType := some .int }, accessFlags := 0, code := some k2c4 }
def k2c5 : Code := { maxStack := 1, maxLocals := 1, code := prog_25_method_6_code, exceptionTable := #[], attributes := #[] }
def k2m5 : Method := { name := "firstDisplayed", desc := "()Lcom/example/bracketline/bracketline/Order;", sig := { parameters := [], returnType := some (.object "com/example/bracketline/bracketline/Order") }, accessFlags := 0, code := some k2c5 }
def k2c6 : Code := { maxStack := 5, maxLocals := 5, code := prog_25_method_13_code, exceptionTable := #[], attributes := #[] }
def k2m6 : Method := { name := "taken", desc := "(JJ)V", sig := { parameters := [.long, .long], returnType := none }, accessFlags := 0, code := some k2c6 }
/-- com/example/bracketline/bracketline/RestingOrders -/
def k2 : Class := { plain "com/example/bracketline/bracketline/RestingOrders" (some 0) with
  accessFlags := 32
  interfaces := #[]
  cf := some (fileOf pool2 8 #[] #[{ accessFlags := 0, nameIndex := 5, descriptorIndex := 154, attributes := #[] }, { accessFlags := 0, nameIndex := 18, descriptorIndex := 112, attributes := #[] }, { accessFlags := 0, nameIndex := 22, descriptorIndex := 112, attributes := #[] }, { accessFlags := 0, nameIndex := 157, descriptorIndex := 75, attributes := #[] }, { accessFlags := 0, nameIndex := 159, descriptorIndex := 160, attributes := #[] }, { accessFlags := 0, nameIndex := 161, descriptorIndex := 162, attributes := #[] }, { accessFlags := 0, nameIndex := 172, descriptorIndex := 173, attributes := #[] }] 32 2 #[] #[{ accessFlags := 26, nameIndex := 93, descriptorIndex := 94, attributes := #[] }, { accessFlags := 24, nameIndex := 118, descriptorIndex := 94, attributes := #[] }, { accessFlags := 18, nameIndex := 11, descriptorIndex := 12, attributes := #[] }, { accessFlags := 18, nameIndex := 15, descriptorIndex := 12, attributes := #[] }, { accessFlags := 2, nameIndex := 25, descriptorIndex := 26, attributes := #[] }, { accessFlags := 2, nameIndex := 136, descriptorIndex := 26, attributes := #[] }, { accessFlags := 2, nameIndex := 32, descriptorIndex := 33, attributes := #[] }, { accessFlags := 2, nameIndex := 29, descriptorIndex := 26, attributes := #[] }, { accessFlags := 2, nameIndex := 127, descriptorIndex := 26, attributes := #[] }, { accessFlags := 2, nameIndex := 18, descriptorIndex := 19, attributes := #[] }, { accessFlags := 2, nameIndex := 22, descriptorIndex := 19, attributes := #[] }])
  fields := #[{ name := "BY_ENTRY", type := (.object "java/util/Comparator"), accessFlags := 26, slot := 0, constantValue := 0 }, { name := "BY_QUEUE_PLACE", type := (.object "java/util/Comparator"), accessFlags := 24, slot := 1, constantValue := 0 }, { name := "queue", type := (.object "com/example/bracketline/bracketline/OrderChain"), accessFlags := 18, slot := 0, constantValue := 0 }, { name := "reserve", type := (.object "com/example/bracketline/bracketline/OrderChain"), accessFlags := 18, slot := 1, constantValue := 0 }, { name := "queueFirst", type := (.object "com/example/bracketline/bracketline/Order"), accessFlags := 2, slot := 2, constantValue := 0 }, { name := "queueLast", type := (.object "com/example/bracketline/bracketline/Order"), accessFlags := 2, slot := 3, constantValue := 0 }, { name := "queued", type := .int, accessFlags := 2, slot := 4, constantValue := 0 }, { name := "reserveFirst", type := (.object "com/example/bracketline/bracketline/Order"), accessFlags := 2, slot := 5, constantValue := 0 }, { name := "reserveLast", type := (.object "com/example/bracketline/bracketline/Order"), accessFlags := 2, slot := 6, constantValue := 0 }, { name := "shares", type := .long, accessFlags := 2, slot := 7, constantValue := 0 }, { name := "shown", type := .long, accessFlags := 2, slot := 8, constantValue := 0 }]
  methods := #[k2m0, k2m1, k2m2, k2m3, k2m4, k2m5, k2m6]
  instanceTypes := #[(.object "com/example/bracketline/bracketline/OrderChain"), (.object "com/example/bracketline/bracketline/OrderChain"), (.object "com/example/bracketline/bracketline/Order"), (.object "com/example/bracketline/bracketline/Order"), .int, (.object "com/example/bracketline/bracketline/Order"), (.object "com/example/bracketline/bracketline/Order"), .long, .long]
  staticTypes := #[(.object "java/util/Comparator"), (.object "java/util/Comparator")]
  resolved := Array.replicate 209 none
  statics := none }

def pool3 : Array CpInfo := pool [(1, .class_ 2), (0, u "java/lang/constant/Constable"), (0, .class_ 4), (0, u "java/lang/Object")] 6

/-- java/lang/constant/Constable -/
def k3 : Class := { plain "java/lang/constant/Constable" (some 0) with
  accessFlags := 1537
  interfaces := #[]
  cf := some (fileOf pool3 1 #[] #[] 1537 3 #[] #[])
  fields := #[]
  methods := #[]
  instanceTypes := #[]
  staticTypes := #[]
  resolved := Array.replicate 11 none
  statics := none }

def pool4 : Array CpInfo := pool [(1, .class_ 2), (0, u "java/lang/Comparable"), (0, .class_ 4), (0, u "java/lang/Object")] 7

/-- java/lang/Comparable -/
def k4 : Class := { plain "java/lang/Comparable" (some 0) with
  accessFlags := 1537
  interfaces := #[]
  cf := some (fileOf pool4 1 #[] #[] 1537 3 #[] #[])
  fields := #[]
  methods := #[]
  instanceTypes := #[]
  staticTypes := #[]
  resolved := Array.replicate 12 none
  statics := none }

def pool5 : Array CpInfo := pool [(1, .class_ 2), (0, u "java/io/Serializable"), (0, .class_ 4), (0, u "java/lang/Object")] 2

/-- java/io/Serializable -/
def k5 : Class := { plain "java/io/Serializable" (some 0) with
  accessFlags := 1537
  interfaces := #[]
  cf := some (fileOf pool5 1 #[] #[] 1537 3 #[] #[])
  fields := #[]
  methods := #[]
  instanceTypes := #[]
  staticTypes := #[]
  resolved := Array.replicate 7 none
  statics := none }

def pool6 : Array CpInfo := pool [(2, .class_ 4), (1, u "java/lang/Enum"), (0, u "name"), (0, u "Ljava/lang/String;"), (2, u "ordinal"), (0, u "I"), (1, .class_ 14), (1, u "java/lang/Object"), (4, u "hash"), (86, .class_ 108), (1, u "java/lang/Enum$EnumDesc"), (2, .class_ 112), (0, u "java/lang/constant/Constable"), (0, .class_ 114), (0, u "java/lang/Comparable"), (0, .class_ 116), (0, u "java/io/Serializable")] 87

/-- java/lang/Enum -/
def k6 : Class := { plain "java/lang/Enum" (some 0) with
  accessFlags := 1057
  interfaces := #[3, 4, 5]
  cf := some (fileOf pool6 2 #[.nestMembers #[106]] #[] 1057 12 #[111, 113, 115] #[{ accessFlags := 18, nameIndex := 5, descriptorIndex := 6, attributes := #[] }, { accessFlags := 18, nameIndex := 9, descriptorIndex := 10, attributes := #[] }, { accessFlags := 2, nameIndex := 19, descriptorIndex := 10, attributes := #[] }])
  fields := #[{ name := "name", type := (.object "java/lang/String"), accessFlags := 18, slot := 0, constantValue := 0 }, { name := "ordinal", type := .int, accessFlags := 18, slot := 1, constantValue := 0 }, { name := "hash", type := .int, accessFlags := 2, slot := 2, constantValue := 0 }]
  methods := #[]
  instanceTypes := #[(.object "java/lang/String"), .int, .int]
  staticTypes := #[]
  resolved := Array.replicate 204 none
  statics := none }

def pool7 : Array CpInfo := pool [(1, .class_ 2), (0, u "com/example/bracketline/bracketline/OrderChain"), (2, u "QUEUE"), (0, u "Lcom/example/bracketline/bracketline/OrderChain;"), (2, u "INTEREST_QUEUE"), (2, u "RESERVE"), (2, u "INTEREST_RESERVE"), (2, u "$VALUES"), (0, u "[Lcom/example/bracketline/bracketline/OrderChain;"), (6, .class_ 28), (1, u "java/lang/Enum"), (69, .class_ 99), (0, u "com/example/bracketline/bracketline/OrderChain$1")] 52

/-- com/example/bracketline/bracketline/OrderChain -/
def k7 : Class := { plain "com/example/bracketline/bracketline/OrderChain" (some 6) with
  accessFlags := 16432
  interfaces := #[]
  cf := some (fileOf pool7 1 #[.nestMembers #[98]] #[] 16432 26 #[] #[{ accessFlags := 16409, nameIndex := 5, descriptorIndex := 6, attributes := #[] }, { accessFlags := 16409, nameIndex := 9, descriptorIndex := 6, attributes := #[] }, { accessFlags := 16409, nameIndex := 12, descriptorIndex := 6, attributes := #[] }, { accessFlags := 16409, nameIndex := 15, descriptorIndex := 6, attributes := #[] }, { accessFlags := 4122, nameIndex := 18, descriptorIndex := 19, attributes := #[] }])
  fields := #[{ name := "QUEUE", type := (.object "com/example/bracketline/bracketline/OrderChain"), accessFlags := 16409, slot := 0, constantValue := 0 }, { name := "INTEREST_QUEUE", type := (.object "com/example/bracketline/bracketline/OrderChain"), accessFlags := 16409, slot := 1, constantValue := 0 }, { name := "RESERVE", type := (.object "com/example/bracketline/bracketline/OrderChain"), accessFlags := 16409, slot := 2, constantValue := 0 }, { name := "INTEREST_RESERVE", type := (.object "com/example/bracketline/bracketline/OrderChain"), accessFlags := 16409, slot := 3, constantValue := 0 }, { name := "$VALUES", type := (.array (.object "com/example/bracketline/bracketline/OrderChain")), accessFlags := 4122, slot := 4, constantValue := 0 }]
  methods := #[]
  instanceTypes := #[(.object "java/lang/String"), .int, .int]
  staticTypes := #[(.object "com/example/bracketline/bracketline/OrderChain"), (.object "com/example/bracketline/bracketline/OrderChain"), (.object "com/example/bracketline/bracketline/OrderChain"), (.object "com/example/bracketline/bracketline/OrderChain"), (.array (.object "com/example/bracketline/bracketline/OrderChain"))]
  resolved := Array.replicate 152 none
  statics := some 0 }

def pool8 : Array CpInfo := pool [(1, u "java/lang/Cloneable"), (0, .class_ 1), (0, u "java/lang/Object"), (0, .class_ 3)] 3

/-- java/lang/Cloneable -/
def k8 : Class := { plain "java/lang/Cloneable" (some 0) with
  accessFlags := 1537
  interfaces := #[]
  cf := some (fileOf pool8 2 #[] #[] 1537 4 #[] #[])
  fields := #[]
  methods := #[]
  instanceTypes := #[]
  staticTypes := #[]
  resolved := Array.replicate 8 none
  statics := none }

/-- the primitive byte -/
def k9 : Class := { plain "byte" none with kind := .primitive 'B', accessFlags := 0x411 }
/-- [B -/
def k10 : Class := { plain "[B" (some 0) with kind := .array 9 .byte, interfaces := #[8, 5], accessFlags := 1041 }

/-- the primitive int -/
def k11 : Class := { plain "int" none with kind := .primitive 'I', accessFlags := 0x411 }
/-- [I -/
def k12 : Class := { plain "[I" (some 0) with kind := .array 11 .int, interfaces := #[8, 5], accessFlags := 1041 }

def heap : Heap := #[{ cls := 7, slots := #[.ref 1, .null, .ref 2, .null, .null], vm := .statics 7 },
  { cls := 7, slots := #[.null, .int 0, .int 0], vm := .none },
  { cls := 7, slots := #[.null, .int 0, .int 0], vm := .none }]
def classes : Array Class := #[k0, k1, k2, k3, k4, k5, k6, k7, k8, k9, k10, k11, k12]
def interned : List (Array UInt16 × Addr) := []
def slotsUsed : Nat := 11
def theMethod : MethodId := ⟨1, 1⟩
def args0 : Array Value := #[.long 1, .long 2, .long 3, .long 4]
def aboutOver (below : List Frame) : State where
  vm := { classes := classes, interned := interned.toArray }
  heap := heap
  slotsUsed := slotsUsed
  threads := #[{ frames := .invoking theMethod args0 :: below }]
def below0 : List Frame := [.native { method := ⟨0, 0⟩, args := #[] }]
def about1 : State := aboutOver below0
def p0 : Program := .bare "" "" ""
def e0 : Env := launch0.env 0 0 0
theorem w_frames : about1.frames = Frame.invoking theMethod args0 :: below0 := rfl
set_option maxRecDepth 65536 in
theorem w_args : argsFit about1.vm theMethod args0 = true := by decide +kernel
set_option maxRecDepth 65536 in
theorem w_heap : heapFits about1 = true := by decide +kernel
set_option maxRecDepth 65536 in
theorem w_runnable : about1.curStatus? = some .runnable := by decide +kernel
set_option maxRecDepth 65536 in
theorem w_alone : about1.alone = true := by decide +kernel
set_option maxRecDepth 65536 in
theorem w_named : about1.methodNamed? x = some theMethod := by decide +kernel
set_option maxRecDepth 65536 in
theorem w_hears : about1.hears theMethod below0 = true := by decide +kernel
set_option maxRecDepth 65536 in
theorem w_ripe : about1.ripe theMethod args0 below0 = true := by decide +kernel
theorem w_running : about1.status = .running := rfl
set_option maxRecDepth 65536 in
theorem w_room : about1.hasRoom e0.platform room_1 = true :=
  launch0.hasRoom_least _ room_1 (by decide +kernel) (by decide +kernel) (by decide +kernel) (by decide +kernel) (by decide +kernel) (by decide +kernel)
theorem allAtoms_all (ts : List Jvm.Cond) (a : Array Jvm.Value) (st : Jvm.State) : (allAtoms ts).before a st = ts.all (fun c => c.before a st) := by
  induction ts with
  | nil => rfl
  | cons c t ih =>
    show (Jvm.Cond.and c (allAtoms t)).before a st = _
    rw [Jvm.Cond.before_and, ih, List.all_cons]
def words1 : List Jvm.Cond := Jvm.Cond.code x code maxLocals ret :: tables_1
/-- a 'code' word, met by the world's own term for the bytes: nothing is compared byte by byte -/
theorem code_word {y : MethodName} {bytes : ByteArray} {mx : Nat} {rt : Option FieldType} {a : Array Value} {s : State} {m : MethodId} {meth : Method} {c : Code} (h1 : s.methodNamed? y = some m) (h2 : s.vm.method? m = some meth) (h3 : meth.code = some c) (h4 : c.code = bytes)
    (h5 : (c.maxLocals == mx && c.exceptionTable.isEmpty && decide (c.maxStack ≤ mostOperands) && decide (meth.sig.returnType = rt) && !meth.locks && decide (parseMethodDescriptor y.desc = some meth.sig)) = true) : (Jvm.Cond.code y bytes mx rt).before a s = true := by
  simp only [Bool.and_eq_true, beq_iff_eq, Bool.not_eq_true', decide_eq_true_eq] at h5
  obtain ⟨⟨⟨⟨⟨g1, g2⟩, g3⟩, g4⟩, g5⟩, g6⟩ := h5
  simp [Cond.before, Cond.holds, Cond.value, h1, h2, h3, h4, g1, g2, g3, g4, g5, g6]
def isCode : Jvm.Cond → Bool
  | .code _ _ _ _ => true
  | _ => false
theorem all_split {L : List Jvm.Cond} {P : Jvm.Cond → Bool} (h1 : L.all (fun c => isCode c || P c) = true) (h2 : ∀ c ∈ L.filter isCode, P c = true) : L.all P = true := by
  refine List.all_eq_true.mpr fun c hc => ?_
  have h := List.all_eq_true.mp h1 c hc
  rcases Bool.eq_false_or_eq_true (isCode c) with hi | hi
  · exact h2 c (List.mem_filter.mpr ⟨hc, hi⟩)
  · simpa [hi] using h
set_option maxRecDepth 65536 in
theorem w_c0 : (Jvm.Cond.code x code maxLocals ret).before args0 about1 = true := code_word (m := ⟨1, 1⟩) (meth := k1m1) (c := k1c1) (by decide +kernel) rfl rfl rfl (by decide +kernel)
set_option maxRecDepth 65536 in
theorem w_c1 : (Jvm.Cond.code ({ cls := "com/example/bracketline/bracketline/RestingOrders", name := "<init>", desc := "(Lcom/example/bracketline/bracketline/OrderChain;Lcom/example/bracketline/bracketline/OrderChain;)V" } : Jvm.MethodName) prog_25_method_1_code (3 : Nat) (Option.none : Option Jvm.ClassFile.FieldType)).before args0 about1 = true := code_word (m := ⟨2, 0⟩) (meth := k2m0) (c := k2c0) (by decide +kernel) rfl rfl rfl (by decide +kernel)
set_option maxRecDepth 65536 in
theorem w_c2 : (Jvm.Cond.code ({ cls := "java/lang/Object", name := "<init>", desc := "()V" } : Jvm.MethodName) object_method_1_code (1 : Nat) (Option.none : Option Jvm.ClassFile.FieldType)).before args0 about1 = true := code_word (m := ⟨0, 0⟩) (meth := k0m0) (c := k0c0) (by decide +kernel) rfl rfl rfl (by decide +kernel)
set_option maxRecDepth 65536 in
theorem w_c3 : (Jvm.Cond.code ({ cls := "com/example/bracketline/bracketline/RestingOrders", name := "taken", desc := "(JJ)V" } : Jvm.MethodName) prog_25_method_13_code (5 : Nat) (Option.none : Option Jvm.ClassFile.FieldType)).before args0 about1 = true := code_word (m := ⟨2, 6⟩) (meth := k2m6) (c := k2c6) (by decide +kernel) rfl rfl rfl (by decide +kernel)
set_option maxRecDepth 65536 in
theorem w_c4 : (Jvm.Cond.code ({ cls := "com/example/bracketline/bracketline/RestingOrders", name := "shares", desc := "()J" } : Jvm.MethodName) prog_25_method_2_code (1 : Nat) (Option.some Jvm.ClassFile.FieldType.long)).before args0 about1 = true := code_word (m := ⟨2, 1⟩) (meth := k2m1) (c := k2c1) (by decide +kernel) rfl rfl rfl (by decide +kernel)
set_option maxRecDepth 65536 in
theorem w_c5 : (Jvm.Cond.code ({ cls := "com/example/bracketline/bracketline/RestingOrders", name := "shown", desc := "()J" } : Jvm.MethodName) prog_25_method_3_code (1 : Nat) (Option.some Jvm.ClassFile.FieldType.long)).before args0 about1 = true := code_word (m := ⟨2, 2⟩) (meth := k2m2) (c := k2c2) (by decide +kernel) rfl rfl rfl (by decide +kernel)
set_option maxRecDepth 65536 in
theorem w_c6 : (Jvm.Cond.code ({ cls := "com/example/bracketline/bracketline/RestingOrders", name := "isEmpty", desc := "()Z" } : Jvm.MethodName) prog_25_method_4_code (1 : Nat) (Option.some Jvm.ClassFile.FieldType.boolean)).before args0 about1 = true := code_word (m := ⟨2, 3⟩) (meth := k2m3) (c := k2c3) (by decide +kernel) rfl rfl rfl (by decide +kernel)
set_option maxRecDepth 65536 in
theorem w_c7 : (Jvm.Cond.code ({ cls := "com/example/bracketline/bracketline/RestingOrders", name := "displayedOrders", desc := "()I" } : Jvm.MethodName) prog_25_method_5_code (1 : Nat) (Option.some Jvm.ClassFile.FieldType.int)).before args0 about1 = true := code_word (m := ⟨2, 4⟩) (meth := k2m4) (c := k2c4) (by decide +kernel) rfl rfl rfl (by decide +kernel)
set_option maxRecDepth 65536 in
theorem w_c8 : (Jvm.Cond.code ({ cls := "com/example/bracketline/bracketline/RestingOrders", name := "firstDisplayed", desc := "()Lcom/example/bracketline/bracketline/Order;" } : Jvm.MethodName) prog_25_method_6_code (1 : Nat) (Option.some (Jvm.ClassFile.FieldType.object "com/example/bracketline/bracketline/Order"))).before args0 about1 = true := code_word (m := ⟨2, 5⟩) (meth := k2m5) (c := k2c5) (by decide +kernel) rfl rfl rfl (by decide +kernel)
def codes1 : List Jvm.Cond := [Jvm.Cond.code x code maxLocals ret, Jvm.Cond.code ({ cls := "com/example/bracketline/bracketline/RestingOrders", name := "<init>", desc := "(Lcom/example/bracketline/bracketline/OrderChain;Lcom/example/bracketline/bracketline/OrderChain;)V" } : Jvm.MethodName) prog_25_method_1_code (3 : Nat) (Option.none : Option Jvm.ClassFile.FieldType), Jvm.Cond.code ({ cls := "java/lang/Object", name := "<init>", desc := "()V" } : Jvm.MethodName) object_method_1_code (1 : Nat) (Option.none : Option Jvm.ClassFile.FieldType), Jvm.Cond.code ({ cls := "com/example/bracketline/bracketline/RestingOrders", name := "taken", desc := "(JJ)V" } : Jvm.MethodName) prog_25_method_13_code (5 : Nat) (Option.none : Option Jvm.ClassFile.FieldType), Jvm.Cond.code ({ cls := "com/example/bracketline/bracketline/RestingOrders", name := "shares", desc := "()J" } : Jvm.MethodName) prog_25_method_2_code (1 : Nat) (Option.some Jvm.ClassFile.FieldType.long), Jvm.Cond.code ({ cls := "com/example/bracketline/bracketline/RestingOrders", name := "shown", desc := "()J" } : Jvm.MethodName) prog_25_method_3_code (1 : Nat) (Option.some Jvm.ClassFile.FieldType.long), Jvm.Cond.code ({ cls := "com/example/bracketline/bracketline/RestingOrders", name := "isEmpty", desc := "()Z" } : Jvm.MethodName) prog_25_method_4_code (1 : Nat) (Option.some Jvm.ClassFile.FieldType.boolean), Jvm.Cond.code ({ cls := "com/example/bracketline/bracketline/RestingOrders", name := "displayedOrders", desc := "()I" } : Jvm.MethodName) prog_25_method_5_code (1 : Nat) (Option.some Jvm.ClassFile.FieldType.int), Jvm.Cond.code ({ cls := "com/example/bracketline/bracketline/RestingOrders", name := "firstDisplayed", desc := "()Lcom/example/bracketline/bracketline/Order;" } : Jvm.MethodName) prog_25_method_6_code (1 : Nat) (Option.some (Jvm.ClassFile.FieldType.object "com/example/bracketline/bracketline/Order"))]
set_option maxRecDepth 65536 in
theorem codes_eq : words1.filter isCode = codes1 := rfl
theorem w_codes : ∀ c ∈ words1.filter isCode, c.before args0 about1 = true := by
  rw [codes_eq]
  intro c hc
  simp only [codes1, List.mem_cons, List.not_mem_nil, or_false] at hc
  rcases hc with rfl | rfl | rfl | rfl | rfl | rfl | rfl | rfl | rfl
  · exact w_c0
  · exact w_c1
  · exact w_c2
  · exact w_c3
  · exact w_c4
  · exact w_c5
  · exact w_c6
  · exact w_c7
  · exact w_c8
set_option maxRecDepth 65536 in
theorem w_t1 : (words1.take 24).all (fun c => isCode c || c.before args0 about1) = true := by decide +kernel
set_option maxRecDepth 65536 in
theorem w_t2 : ((words1.drop 24).take 24).all (fun c => isCode c || c.before args0 about1) = true := by decide +kernel
set_option maxRecDepth 65536 in
theorem w_t3 : ((words1.drop 24).drop 24).all (fun c => isCode c || c.before args0 about1) = true := by decide +kernel
theorem w_tables : (allAtoms (Jvm.Cond.code x code maxLocals ret :: tables_1)).before args0 about1 = true := by
  rw [allAtoms_all]
  show words1.all (fun c => c.before args0 about1) = true
  refine all_split ?_ w_codes
  rw [← List.take_append_drop 24 words1, List.all_append, w_t1, ← List.take_append_drop 24 (words1.drop 24), List.all_append, w_t2, w_t3]
  rfl
set_option maxRecDepth 65536 in
theorem w_case : (Jvm.Cond.and given_1 narrow_1).before args0 about1 = true := by decide +kernel
theorem w_applies : (headSpec (Jvm.Cond.code x code maxLocals ret :: tables_1) room_1).applies x e0.platform about1 = true :=
  (Spec.applies_iff w_frames).mpr ⟨w_running, w_runnable, w_alone, w_named, w_hears, w_ripe, w_room, w_tables⟩
theorem atStart : AtStart classFile x code maxLocals ret World_1 tables_1 room_1 Calls_1 rest_1 Pre_1 launch0 p0 e0 about1 theMethod args0 below0 :=
  ⟨lists_1, trivial, launch0.admits_env _ _ _, launch0.least_env, fairChoices_fair.cas, fairChoices_fair.clock, w_frames, w_args, w_heap, w_applies, trivial, trivial, w_case⟩
end start1
theorem witness_1 : WitnessClaimed_1 := ⟨start1.p0, start1.e0, start1.about1, start1.theMethod, start1.args0, start1.below0, start1.atStart⟩
end Jvm.Pilot.@@N@@
